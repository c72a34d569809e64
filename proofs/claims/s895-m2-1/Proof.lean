import JvmDerived
import JvmDerived.Pilot.@@N@@Statement
import JvmDerived.Pilot.@@N@@Code
set_option linter.unusedVariables false
set_option linter.unusedSimpArgs false
namespace Jvm.RoadKit
open Sem ClassFile Op Lib Jvm.Stand Jvm.Free Jvm.LawKit
section New
variable {p : Program} {l : Launch} {e : Env} {R : Room} {s : State} {m : MethodId} {args : Array Value} {below : List Frame} {meth : Method} {c : Code} {T : State} {locs : List Loc} {cells slots : Nat}
theorem retI (X : Stand p l e R s m args below meth c T locs cells slots) (hx : p.tables.exec = Jvm.exec) {pc : Nat} {Ls : Array Slot} {z : Int32} {rest : List Value} (hret : meth.sig.returnType = some .int) (hd : decode c.code pc = .ok (.ireturn, 1)) {fs : List Frame}
    (hl : ∀ (f : JFrame) (acts : List Action), f.method = m → f.locked = none → f.entered = [] → (doReturn e (T.setTop f) acts (some (.int z))).1 = T.setFrames fs) : Steps p.tables e below (T.setTop (mkF m pc Ls (.int z :: rest))) (T.setFrames fs) := by
  have hm' : T.vm.method? m = some meth := X.method'
  have hn : narrow .int (.int z) = .int z := rfl
  show Steps p.tables e below (T.setTop { method := m, pc := pc, locals := Ls, stack := _ :: rest, locked := none }) _
  jvm_step X.here [X.here.top, hx, hd, hm', hret, hn]
  first | (intro acts; rw [hl _ acts rfl rfl rfl]) | rw [hl _ _ rfl rfl rfl]
  exact Steps.refl _
end New
end Jvm.RoadKit
namespace Jvm.Pilot.@@N@@
open Jvm Jvm.ClassFile Sem Op Lib Jvm.Free Jvm.Stand Jvm.LawKit Jvm.RoadKit Bundle Jvm.Pilot.@@N@@.Jvm.D
def own_rem (x y : Int32) : Int32 := x - (x / y) * y
section OwnSteps
variable {tb : Tables} [Ours tb] {e : Env} {below : List Frame} {T target : State} {m : MethodId} {c : Code} {pc : Nat} {ls : Array Slot} {st : List Value}
theorem own_iloadN (h : At T m c below) (hx : tb.exec = Jvm.exec) {k : Fin 4} {v : Int32} (hd : decode c.code pc = .ok (.iload_n k, 1)) (hl : ls[k.val]? = some (.val (.int v))) (hr : Steps tb e below (T.setTop (mkF m (pc + 1) ls (.int v :: st))) target) : Steps tb e below (T.setTop (mkF m pc ls (st))) target := XS.iloadN h hx rfl hd hl hr
theorem own_iload (h : At T m c below) (hx : tb.exec = Jvm.exec) {k : Nat} {v : Int32} (hd : decode c.code pc = .ok (.iload k, 2)) (hl : ls[k]? = some (.val (.int v))) (hr : Steps tb e below (T.setTop (mkF m (pc + 2) ls (.int v :: st))) target) : Steps tb e below (T.setTop (mkF m pc ls (st))) target := XS.iload h hx rfl hd hl hr
theorem own_istoreN (h : At T m c below) (hx : tb.exec = Jvm.exec) {k : Fin 4} {v : Int32} {l' : Array Slot} (hd : decode c.code pc = .ok (.istore_n k, 1)) (hl : storeLocals ls k.val (.int v) = some l') (hr : Steps tb e below (T.setTop (mkF m (pc + 1) l' (st))) target) : Steps tb e below (T.setTop (mkF m pc ls (.int v :: st))) target := XS.istoreN h hx rfl hd rfl hl hr
theorem own_istore (h : At T m c below) (hx : tb.exec = Jvm.exec) {k : Nat} {v : Int32} {l' : Array Slot} (hd : decode c.code pc = .ok (.istore k, 2)) (hl : storeLocals ls k (.int v) = some l') (hr : Steps tb e below (T.setTop (mkF m (pc + 2) l' (st))) target) : Steps tb e below (T.setTop (mkF m pc ls (.int v :: st))) target := XS.istore h hx rfl hd rfl hl hr
theorem own_lloadN (h : At T m c below) (hx : tb.exec = Jvm.exec) {k : Fin 4} {v : Int64} (hd : decode c.code pc = .ok (.lload_n k, 1)) (hl : ls[k.val]? = some (.val (.long v))) (hr : Steps tb e below (T.setTop (mkF m (pc + 1) ls (.long v :: st))) target) : Steps tb e below (T.setTop (mkF m pc ls (st))) target := XS.lloadN h hx rfl hd hl hr
theorem own_lload (h : At T m c below) (hx : tb.exec = Jvm.exec) {k : Nat} {v : Int64} (hd : decode c.code pc = .ok (.lload k, 2)) (hl : ls[k]? = some (.val (.long v))) (hr : Steps tb e below (T.setTop (mkF m (pc + 2) ls (.long v :: st))) target) : Steps tb e below (T.setTop (mkF m pc ls (st))) target := XS.lload h hx rfl hd hl hr
theorem own_lstoreN (h : At T m c below) (hx : tb.exec = Jvm.exec) {k : Fin 4} {v : Int64} {l' : Array Slot} (hd : decode c.code pc = .ok (.lstore_n k, 1)) (hl : storeLocals ls k.val (.long v) = some l') (hr : Steps tb e below (T.setTop (mkF m (pc + 1) l' (st))) target) : Steps tb e below (T.setTop (mkF m pc ls (.long v :: st))) target := XS.lstoreN h hx rfl hd rfl hl hr
theorem own_lstore (h : At T m c below) (hx : tb.exec = Jvm.exec) {k : Nat} {v : Int64} {l' : Array Slot} (hd : decode c.code pc = .ok (.lstore k, 2)) (hl : storeLocals ls k (.long v) = some l') (hr : Steps tb e below (T.setTop (mkF m (pc + 2) l' (st))) target) : Steps tb e below (T.setTop (mkF m pc ls (.long v :: st))) target := XS.lstore h hx rfl hd rfl hl hr
theorem own_dloadN (h : At T m c below) (hx : tb.exec = Jvm.exec) {k : Fin 4} {v : UInt64} (hd : decode c.code pc = .ok (.dload_n k, 1)) (hl : ls[k.val]? = some (.val (.double v))) (hr : Steps tb e below (T.setTop (mkF m (pc + 1) ls (.double v :: st))) target) : Steps tb e below (T.setTop (mkF m pc ls (st))) target := XS.dloadN h hx rfl hd hl hr
theorem own_dload (h : At T m c below) (hx : tb.exec = Jvm.exec) {k : Nat} {v : UInt64} (hd : decode c.code pc = .ok (.dload k, 2)) (hl : ls[k]? = some (.val (.double v))) (hr : Steps tb e below (T.setTop (mkF m (pc + 2) ls (.double v :: st))) target) : Steps tb e below (T.setTop (mkF m pc ls (st))) target := XS.dload h hx rfl hd hl hr
theorem own_dstoreN (h : At T m c below) (hx : tb.exec = Jvm.exec) {k : Fin 4} {v : UInt64} {l' : Array Slot} (hd : decode c.code pc = .ok (.dstore_n k, 1)) (hl : storeLocals ls k.val (.double v) = some l') (hr : Steps tb e below (T.setTop (mkF m (pc + 1) l' (st))) target) : Steps tb e below (T.setTop (mkF m pc ls (.double v :: st))) target := XS.dstoreN h hx rfl hd rfl hl hr
theorem own_dstore (h : At T m c below) (hx : tb.exec = Jvm.exec) {k : Nat} {v : UInt64} {l' : Array Slot} (hd : decode c.code pc = .ok (.dstore k, 2)) (hl : storeLocals ls k (.double v) = some l') (hr : Steps tb e below (T.setTop (mkF m (pc + 2) l' (st))) target) : Steps tb e below (T.setTop (mkF m pc ls (.double v :: st))) target := XS.dstore h hx rfl hd rfl hl hr
theorem own_aloadN (h : At T m c below) (hx : tb.exec = Jvm.exec) {k : Fin 4} {v : Value} (hd : decode c.code pc = .ok (.aload_n k, 1)) (hl : ls[k.val]? = some (.val v)) (hv : v.isRef = true) (hr : Steps tb e below (T.setTop (mkF m (pc + 1) ls (v :: st))) target) : Steps tb e below (T.setTop (mkF m pc ls (st))) target := XS.aloadN h hx rfl hd hl hv hr
theorem own_aload (h : At T m c below) (hx : tb.exec = Jvm.exec) {k : Nat} {v : Value} (hd : decode c.code pc = .ok (.aload k, 2)) (hl : ls[k]? = some (.val v)) (hv : v.isRef = true) (hr : Steps tb e below (T.setTop (mkF m (pc + 2) ls (v :: st))) target) : Steps tb e below (T.setTop (mkF m pc ls (st))) target := XS.aload h hx rfl hd hl hv hr
theorem own_astoreN (h : At T m c below) (hx : tb.exec = Jvm.exec) {k : Fin 4} {v : Value} {l' : Array Slot} (hd : decode c.code pc = .ok (.astore_n k, 1)) (hv : v.isRef = true) (hl : storeLocals ls k.val v = some l') (hr : Steps tb e below (T.setTop (mkF m (pc + 1) l' (st))) target) : Steps tb e below (T.setTop (mkF m pc ls (v :: st))) target := XS.astoreN h hx rfl hd rfl hv hl hr
theorem own_astore (h : At T m c below) (hx : tb.exec = Jvm.exec) {k : Nat} {v : Value} {l' : Array Slot} (hd : decode c.code pc = .ok (.astore k, 2)) (hv : v.isRef = true) (hl : storeLocals ls k v = some l') (hr : Steps tb e below (T.setTop (mkF m (pc + 2) l' (st))) target) : Steps tb e below (T.setTop (mkF m pc ls (v :: st))) target := XS.astore h hx rfl hd rfl hv hl hr
theorem own_iconst (h : At T m c below) (hx : tb.exec = Jvm.exec) {i : Int} (z : Int32) (hd : decode c.code pc = .ok (.iconst i, 1)) (hz : Int32.ofInt i = z) (hr : Steps tb e below (T.setTop (mkF m (pc + 1) ls (.int z :: st))) target) : Steps tb e below (T.setTop (mkF m pc ls st)) target := by
  subst hz; exact XS.iconst h hx rfl hd hr
theorem own_bipush (h : At T m c below) (hx : tb.exec = Jvm.exec) {i : Int} (z : Int32) (hd : decode c.code pc = .ok (.bipush i, 2)) (hz : (Int8.ofInt i).toInt32 = z) (hr : Steps tb e below (T.setTop (mkF m (pc + 2) ls (.int z :: st))) target) : Steps tb e below (T.setTop (mkF m pc ls st)) target := by
  subst hz; exact XS.bipush h hx rfl hd hr
theorem own_sipush (h : At T m c below) (hx : tb.exec = Jvm.exec) {i : Int} (z : Int32) (hd : decode c.code pc = .ok (.sipush i, 3)) (hz : (Int16.ofInt i).toInt32 = z) (hr : Steps tb e below (T.setTop (mkF m (pc + 3) ls (.int z :: st))) target) : Steps tb e below (T.setTop (mkF m pc ls st)) target := by
  subst hz; exact XS.sipush h hx rfl hd hr
theorem own_lconst0 (h : At T m c below) (hx : tb.exec = Jvm.exec) (hd : decode c.code pc = .ok (.lconst 0, 1)) (hr : Steps tb e below (T.setTop (mkF m (pc + 1) ls (.long (0 : Int64) :: st))) target) : Steps tb e below (T.setTop (mkF m pc ls st)) target := XS.lconst h hx rfl hd hr
theorem own_lconst1 (h : At T m c below) (hx : tb.exec = Jvm.exec) (hd : decode c.code pc = .ok (.lconst 1, 1)) (hr : Steps tb e below (T.setTop (mkF m (pc + 1) ls (.long (1 : Int64) :: st))) target) : Steps tb e below (T.setTop (mkF m pc ls st)) target := XS.lconst h hx rfl hd hr
theorem own_aconstNull (h : At T m c below) (hx : tb.exec = Jvm.exec)  (hd : decode c.code pc = .ok (.aconst_null, 1)) (hr : Steps tb e below (T.setTop (mkF m (pc + 1) ls (.null :: st))) target) : Steps tb e below (T.setTop (mkF m pc ls (st))) target := XS.aconstNull h hx rfl hd hr
theorem own_iadd (h : At T m c below) (hx : tb.exec = Jvm.exec) {x y : Int32} (hd : decode c.code pc = .ok (.iadd, 1)) (hr : Steps tb e below (T.setTop (mkF m (pc + 1) ls (.int (x + y) :: st))) target) : Steps tb e below (T.setTop (mkF m pc ls (.int y :: .int x :: st))) target := XS.iadd h hx rfl hd rfl hr
theorem own_isub (h : At T m c below) (hx : tb.exec = Jvm.exec) {x y : Int32} (hd : decode c.code pc = .ok (.isub, 1)) (hr : Steps tb e below (T.setTop (mkF m (pc + 1) ls (.int (x - y) :: st))) target) : Steps tb e below (T.setTop (mkF m pc ls (.int y :: .int x :: st))) target := XS.isub h hx rfl hd rfl hr
theorem own_imul (h : At T m c below) (hx : tb.exec = Jvm.exec) {x y : Int32} (hd : decode c.code pc = .ok (.imul, 1)) (hr : Steps tb e below (T.setTop (mkF m (pc + 1) ls (.int (x * y) :: st))) target) : Steps tb e below (T.setTop (mkF m pc ls (.int y :: .int x :: st))) target := XS.imul h hx rfl hd rfl hr
theorem own_iand (h : At T m c below) (hx : tb.exec = Jvm.exec) {x y : Int32} (hd : decode c.code pc = .ok (.iand, 1)) (hr : Steps tb e below (T.setTop (mkF m (pc + 1) ls (.int (x &&& y) :: st))) target) : Steps tb e below (T.setTop (mkF m pc ls (.int y :: .int x :: st))) target := XS.iand h hx rfl hd rfl hr
theorem own_ior (h : At T m c below) (hx : tb.exec = Jvm.exec) {x y : Int32} (hd : decode c.code pc = .ok (.ior, 1)) (hr : Steps tb e below (T.setTop (mkF m (pc + 1) ls (.int (x ||| y) :: st))) target) : Steps tb e below (T.setTop (mkF m pc ls (.int y :: .int x :: st))) target := XS.ior h hx rfl hd rfl hr
theorem own_ixor (h : At T m c below) (hx : tb.exec = Jvm.exec) {x y : Int32} (hd : decode c.code pc = .ok (.ixor, 1)) (hr : Steps tb e below (T.setTop (mkF m (pc + 1) ls (.int (x ^^^ y) :: st))) target) : Steps tb e below (T.setTop (mkF m pc ls (.int y :: .int x :: st))) target := XS.ixor h hx rfl hd rfl hr
theorem own_idiv (h : At T m c below) (hx : tb.exec = Jvm.exec) {x y : Int32} (hd : decode c.code pc = .ok (.idiv, 1)) (hy : y ≠ 0) (hr : Steps tb e below (T.setTop (mkF m (pc + 1) ls (.int (x / y) :: st))) target) : Steps tb e below (T.setTop (mkF m pc ls (.int y :: .int x :: st))) target := XS.idiv h hx rfl hd rfl hy hr
theorem own_ladd (h : At T m c below) (hx : tb.exec = Jvm.exec) {x y : Int64} (hd : decode c.code pc = .ok (.ladd, 1)) (hr : Steps tb e below (T.setTop (mkF m (pc + 1) ls (.long (x + y) :: st))) target) : Steps tb e below (T.setTop (mkF m pc ls (.long y :: .long x :: st))) target := XS.ladd h hx rfl hd rfl hr
theorem own_lsub (h : At T m c below) (hx : tb.exec = Jvm.exec) {x y : Int64} (hd : decode c.code pc = .ok (.lsub, 1)) (hr : Steps tb e below (T.setTop (mkF m (pc + 1) ls (.long (x - y) :: st))) target) : Steps tb e below (T.setTop (mkF m pc ls (.long y :: .long x :: st))) target := XS.lsub h hx rfl hd rfl hr
theorem own_lmul (h : At T m c below) (hx : tb.exec = Jvm.exec) {x y : Int64} (hd : decode c.code pc = .ok (.lmul, 1)) (hr : Steps tb e below (T.setTop (mkF m (pc + 1) ls (.long (x * y) :: st))) target) : Steps tb e below (T.setTop (mkF m pc ls (.long y :: .long x :: st))) target := XS.lmul h hx rfl hd rfl hr
theorem own_land (h : At T m c below) (hx : tb.exec = Jvm.exec) {x y : Int64} (hd : decode c.code pc = .ok (.land, 1)) (hr : Steps tb e below (T.setTop (mkF m (pc + 1) ls (.long (x &&& y) :: st))) target) : Steps tb e below (T.setTop (mkF m pc ls (.long y :: .long x :: st))) target := XS.land h hx rfl hd rfl hr
theorem own_lor (h : At T m c below) (hx : tb.exec = Jvm.exec) {x y : Int64} (hd : decode c.code pc = .ok (.lor, 1)) (hr : Steps tb e below (T.setTop (mkF m (pc + 1) ls (.long (x ||| y) :: st))) target) : Steps tb e below (T.setTop (mkF m pc ls (.long y :: .long x :: st))) target := XS.lor h hx rfl hd rfl hr
theorem own_lxor (h : At T m c below) (hx : tb.exec = Jvm.exec) {x y : Int64} (hd : decode c.code pc = .ok (.lxor, 1)) (hr : Steps tb e below (T.setTop (mkF m (pc + 1) ls (.long (x ^^^ y) :: st))) target) : Steps tb e below (T.setTop (mkF m pc ls (.long y :: .long x :: st))) target := XS.lxor h hx rfl hd rfl hr
theorem own_ldiv (h : At T m c below) (hx : tb.exec = Jvm.exec) {x y : Int64} (hd : decode c.code pc = .ok (.ldiv, 1)) (hy : y ≠ 0) (hr : Steps tb e below (T.setTop (mkF m (pc + 1) ls (.long (x / y) :: st))) target) : Steps tb e below (T.setTop (mkF m pc ls (.long y :: .long x :: st))) target := XS.ldiv h hx rfl hd rfl hy hr
theorem own_irem (h : At T m c below) (hx : tb.exec = Jvm.exec) {x y : Int32} (hd : decode c.code pc = .ok (.irem, 1)) (hy : y ≠ 0) (hr : Steps tb e below (T.setTop (mkF m (pc + 1) ls (.int (own_rem x y) :: st))) target) : Steps tb e below (T.setTop (mkF m pc ls (.int y :: .int x :: st))) target := XS.irem h hx rfl hd rfl hy hr
theorem own_ishl (h : At T m c below) (hx : tb.exec = Jvm.exec) {x : Int32} {y : Int32} (hd : decode c.code pc = .ok (.ishl, 1)) (hr : Steps tb e below (T.setTop (mkF m (pc + 1) ls (.int (x <<< (y &&& 31)) :: st))) target) : Steps tb e below (T.setTop (mkF m pc ls (.int y :: .int x :: st))) target := XS.ishl h hx rfl hd rfl hr
theorem own_ishr (h : At T m c below) (hx : tb.exec = Jvm.exec) {x : Int32} {y : Int32} (hd : decode c.code pc = .ok (.ishr, 1)) (hr : Steps tb e below (T.setTop (mkF m (pc + 1) ls (.int (x >>> (y &&& 31)) :: st))) target) : Steps tb e below (T.setTop (mkF m pc ls (.int y :: .int x :: st))) target := XS.ishr h hx rfl hd rfl hr
theorem own_iushr (h : At T m c below) (hx : tb.exec = Jvm.exec) {x : Int32} {y : Int32} (hd : decode c.code pc = .ok (.iushr, 1)) (hr : Steps tb e below (T.setTop (mkF m (pc + 1) ls (.int ((x.toUInt32 >>> (y &&& 31).toUInt32).toInt32) :: st))) target) : Steps tb e below (T.setTop (mkF m pc ls (.int y :: .int x :: st))) target := XS.iushr h hx rfl hd rfl hr
theorem own_lshl (h : At T m c below) (hx : tb.exec = Jvm.exec) {x : Int64} {y : Int32} (hd : decode c.code pc = .ok (.lshl, 1)) (hr : Steps tb e below (T.setTop (mkF m (pc + 1) ls (.long (x <<< (y &&& 0x3f).toInt64) :: st))) target) : Steps tb e below (T.setTop (mkF m pc ls (.int y :: .long x :: st))) target := XS.lshl h hx rfl hd rfl hr
theorem own_lshr (h : At T m c below) (hx : tb.exec = Jvm.exec) {x : Int64} {y : Int32} (hd : decode c.code pc = .ok (.lshr, 1)) (hr : Steps tb e below (T.setTop (mkF m (pc + 1) ls (.long (x >>> (y &&& 0x3f).toInt64) :: st))) target) : Steps tb e below (T.setTop (mkF m pc ls (.int y :: .long x :: st))) target := XS.lshr h hx rfl hd rfl hr
theorem own_lushr (h : At T m c below) (hx : tb.exec = Jvm.exec) {x : Int64} {y : Int32} (hd : decode c.code pc = .ok (.lushr, 1)) (hr : Steps tb e below (T.setTop (mkF m (pc + 1) ls (.long ((x.toUInt64 >>> (y &&& 0x3f).toInt64.toUInt64).toInt64) :: st))) target) : Steps tb e below (T.setTop (mkF m pc ls (.int y :: .long x :: st))) target := XS.lushr h hx rfl hd rfl hr
theorem own_ineg (h : At T m c below) (hx : tb.exec = Jvm.exec) {x : Int32} (hd : decode c.code pc = .ok (.ineg, 1)) (hr : Steps tb e below (T.setTop (mkF m (pc + 1) ls (.int (-x) :: st))) target) : Steps tb e below (T.setTop (mkF m pc ls (.int x :: st))) target := XS.ineg h hx rfl hd rfl hr
theorem own_lneg (h : At T m c below) (hx : tb.exec = Jvm.exec) {x : Int64} (hd : decode c.code pc = .ok (.lneg, 1)) (hr : Steps tb e below (T.setTop (mkF m (pc + 1) ls (.long (-x) :: st))) target) : Steps tb e below (T.setTop (mkF m pc ls (.long x :: st))) target := XS.lneg h hx rfl hd rfl hr
theorem own_i2l (h : At T m c below) (hx : tb.exec = Jvm.exec) {x : Int32} (hd : decode c.code pc = .ok (.i2l, 1)) (hr : Steps tb e below (T.setTop (mkF m (pc + 1) ls (.long x.toInt64 :: st))) target) : Steps tb e below (T.setTop (mkF m pc ls (.int x :: st))) target := XS.i2l h hx rfl hd rfl hr
theorem own_l2i (h : At T m c below) (hx : tb.exec = Jvm.exec) {x : Int64} (hd : decode c.code pc = .ok (.l2i, 1)) (hr : Steps tb e below (T.setTop (mkF m (pc + 1) ls (.int x.toInt32 :: st))) target) : Steps tb e below (T.setTop (mkF m pc ls (.long x :: st))) target := XS.l2i h hx rfl hd rfl hr
theorem own_i2b (h : At T m c below) (hx : tb.exec = Jvm.exec) {x : Int32} (hd : decode c.code pc = .ok (.i2b, 1)) (hr : Steps tb e below (T.setTop (mkF m (pc + 1) ls (.int x.toInt8.toInt32 :: st))) target) : Steps tb e below (T.setTop (mkF m pc ls (.int x :: st))) target := XS.i2b h hx rfl hd rfl hr
theorem own_i2s (h : At T m c below) (hx : tb.exec = Jvm.exec) {x : Int32} (hd : decode c.code pc = .ok (.i2s, 1)) (hr : Steps tb e below (T.setTop (mkF m (pc + 1) ls (.int x.toInt16.toInt32 :: st))) target) : Steps tb e below (T.setTop (mkF m pc ls (.int x :: st))) target := XS.i2s h hx rfl hd rfl hr
theorem own_i2c (h : At T m c below) (hx : tb.exec = Jvm.exec) {x : Int32} (hd : decode c.code pc = .ok (.i2c, 1)) (hr : Steps tb e below (T.setTop (mkF m (pc + 1) ls (.int x.toUInt32.toUInt16.toUInt32.toInt32 :: st))) target) : Steps tb e below (T.setTop (mkF m pc ls (.int x :: st))) target := XS.i2c h hx rfl hd rfl hr
theorem own_lcmp (h : At T m c below) (hx : tb.exec = Jvm.exec) {x y : Int64} (hd : decode c.code pc = .ok (.lcmp, 1)) (hr : Steps tb e below (T.setTop (mkF m (pc + 1) ls (.int (lcmpW x y) :: st))) target) : Steps tb e below (T.setTop (mkF m pc ls (.long y :: .long x :: st))) target := XS.lcmp h hx rfl hd rfl hr
theorem own_iinc (h : At T m c below) (hx : tb.exec = Jvm.exec) {k : Nat} {cst : Int} {x : Int32} {l' : Array Slot} (z : Int32) (hd : decode c.code pc = .ok (.iinc k cst, 3)) (hl : ls[k]? = some (.val (.int x))) (hz : Int32.ofInt cst = z) (hl' : storeLocals ls k (.int (x + z)) = some l') (hr : Steps tb e below (T.setTop (mkF m (pc + 3) l' st)) target) : Steps tb e below (T.setTop (mkF m pc ls st)) target := by
  subst hz; exact XS.iinc h hx rfl hd hl hl' hr
theorem own_dup (h : At T m c below) (hx : tb.exec = Jvm.exec) {x : Value} (hd : decode c.code pc = .ok (.dup, 1)) (hc : x.category = 1) (hr : Steps tb e below (T.setTop (mkF m (pc + 1) ls (x :: x :: st))) target) : Steps tb e below (T.setTop (mkF m pc ls (x :: st))) target := XS.dup h hx rfl hd rfl hc hr
theorem own_dupX1 (h : At T m c below) (hx : tb.exec = Jvm.exec) {x y : Value} (hd : decode c.code pc = .ok (.dup_x1, 1)) (hc : x.category = 1) (hc2 : y.category = 1) (hr : Steps tb e below (T.setTop (mkF m (pc + 1) ls (x :: y :: x :: st))) target) : Steps tb e below (T.setTop (mkF m pc ls (x :: y :: st))) target := XS.dupX1 h hx rfl hd rfl hc hc2 hr
theorem own_pop (h : At T m c below) (hx : tb.exec = Jvm.exec) {x : Value} (hd : decode c.code pc = .ok (.pop, 1)) (hc : x.category = 1) (hr : Steps tb e below (T.setTop (mkF m (pc + 1) ls (st))) target) : Steps tb e below (T.setTop (mkF m pc ls (x :: st))) target := XS.pop h hx rfl hd rfl hc hr
theorem own_goto (h : At T m c below) (hx : tb.exec = Jvm.exec) {o : Int} (pc0 pc' : Nat) (hpc : pc = pc0) (hd : decode c.code pc = .ok (.goto o, 3)) (ho : 0 ≤ (pc0 : Int) + o) (hp : ((pc0 : Int) + o).toNat = pc') (hr : Steps tb e below (T.setTop (mkF m pc' ls (st))) target) : Steps tb e below (T.setTop (mkF m pc ls (st))) target := XS.goto h hx rfl hpc hd ho hp hr
theorem own_ifYes (h : At T m c below) (hx : tb.exec = Jvm.exec) {cd : ClassFile.Cond} {o : Int} {x : Int32} (pc0 pc' : Nat) (hpc : pc = pc0) (hd : decode c.code pc = .ok (.ifCond cd o, 3)) (hc : ifCond.holds cd x = true) (ho : 0 ≤ (pc0 : Int) + o) (hp : ((pc0 : Int) + o).toNat = pc') (hr : Steps tb e below (T.setTop (mkF m pc' ls (st))) target) : Steps tb e below (T.setTop (mkF m pc ls (.int x :: st))) target := XS.ifYes h hx rfl hpc hd rfl hc ho hp hr
theorem own_ifNo (h : At T m c below) (hx : tb.exec = Jvm.exec) {cd : ClassFile.Cond} {o : Int} {x : Int32} (hd : decode c.code pc = .ok (.ifCond cd o, 3)) (hc : ifCond.holds cd x = false) (hr : Steps tb e below (T.setTop (mkF m (pc + 3) ls (st))) target) : Steps tb e below (T.setTop (mkF m pc ls (.int x :: st))) target := XS.ifNo h hx rfl hd rfl hc hr
theorem own_icmpYes (h : At T m c below) (hx : tb.exec = Jvm.exec) {cd : ClassFile.Cond} {o : Int} {x y : Int32} (pc0 pc' : Nat) (hpc : pc = pc0) (hd : decode c.code pc = .ok (.if_icmp cd o, 3)) (hc : if_icmp.holds cd x y = true) (ho : 0 ≤ (pc0 : Int) + o) (hp : ((pc0 : Int) + o).toNat = pc') (hr : Steps tb e below (T.setTop (mkF m pc' ls (st))) target) : Steps tb e below (T.setTop (mkF m pc ls (.int y :: .int x :: st))) target := XS.icmpYes h hx rfl hpc hd rfl hc ho hp hr
theorem own_icmpNo (h : At T m c below) (hx : tb.exec = Jvm.exec) {cd : ClassFile.Cond} {o : Int} {x y : Int32} (hd : decode c.code pc = .ok (.if_icmp cd o, 3)) (hc : if_icmp.holds cd x y = false) (hr : Steps tb e below (T.setTop (mkF m (pc + 3) ls (st))) target) : Steps tb e below (T.setTop (mkF m pc ls (.int y :: .int x :: st))) target := XS.icmpNo h hx rfl hd rfl hc hr
theorem own_ifnullYes (h : At T m c below) (hx : tb.exec = Jvm.exec) {o : Int} (pc0 pc' : Nat) (hpc : pc = pc0) (hd : decode c.code pc = .ok (.ifnull o, 3)) (ho : 0 ≤ (pc0 : Int) + o) (hp : ((pc0 : Int) + o).toNat = pc') (hr : Steps tb e below (T.setTop (mkF m pc' ls (st))) target) : Steps tb e below (T.setTop (mkF m pc ls (.null :: st))) target := XS.ifnullYes h hx rfl hpc hd rfl ho hp hr
theorem own_ifnullNo (h : At T m c below) (hx : tb.exec = Jvm.exec) {o : Int} {b : Addr} (hd : decode c.code pc = .ok (.ifnull o, 3)) (hr : Steps tb e below (T.setTop (mkF m (pc + 3) ls (st))) target) : Steps tb e below (T.setTop (mkF m pc ls (.ref b :: st))) target := XS.ifnullNo h hx rfl hd rfl hr
theorem own_ifnonnullYes (h : At T m c below) (hx : tb.exec = Jvm.exec) {o : Int} {b : Addr} (pc0 pc' : Nat) (hpc : pc = pc0) (hd : decode c.code pc = .ok (.ifnonnull o, 3)) (ho : 0 ≤ (pc0 : Int) + o) (hp : ((pc0 : Int) + o).toNat = pc') (hr : Steps tb e below (T.setTop (mkF m pc' ls (st))) target) : Steps tb e below (T.setTop (mkF m pc ls (.ref b :: st))) target := XS.ifnonnullYes h hx rfl hpc hd rfl ho hp hr
theorem own_ifnonnullNo (h : At T m c below) (hx : tb.exec = Jvm.exec) {o : Int} (hd : decode c.code pc = .ok (.ifnonnull o, 3)) (hr : Steps tb e below (T.setTop (mkF m (pc + 3) ls (st))) target) : Steps tb e below (T.setTop (mkF m pc ls (.null :: st))) target := XS.ifnonnullNo h hx rfl hd rfl hr
end OwnSteps

def own_pk (aS aE aX : Addr) (i : Int32) : Addr := if i = (0 : Int32) then aS else if i = (1 : Int32) then aE else aX
def own_keeps (q t x : Addr) : Int32 := if q = x then (1 : Int32) else if t = x then (1 : Int32) else (0 : Int32)
theorem own_rem3 (x : Int32) (hx : 0 ≤ x.toInt) : (own_rem x (3 : Int32)).toInt = x.toInt % 3 := by
  have k : (3 : Int32).toInt = 3 := rfl
  have hq := (c_idiv x 3 3 k (by decide)).1 hx
  have hm := c_imul (x / 3) 3
  have hs := c_isub x (x / 3 * 3)
  rw [hq, k] at hm
  have r1 := rng32 x
  have r2 := rng32 (x / 3 * 3)
  have r3 := rng32 (x - x / 3 * 3)
  unfold own_rem
  omega
theorem own_k3 (i : Int32) : own_rem (i &&& (2147483647 : Int32)) (3 : Int32) = (0 : Int32) ∨ own_rem (i &&& (2147483647 : Int32)) (3 : Int32) = (1 : Int32) ∨ own_rem (i &&& (2147483647 : Int32)) (3 : Int32) = (2 : Int32) := by
  have hm := c_mask i 2147483647 31 (by decide) (by decide)
  have h := own_rem3 (i &&& (2147483647 : Int32)) (by rw [hm]; omega)
  have k0 : (0 : Int32).toInt = 0 := rfl
  have k1 : (1 : Int32).toInt = 1 := rfl
  have k2 : (2 : Int32).toInt = 2 := rfl
  simp only [← Int32.toInt_inj, k0, k1, k2]
  omega
theorem own_pk2 {aS aE aX : Addr} {i : Int32} (h : i = (2 : Int32)) : own_pk aS aE aX i = aX := by subst h; rfl
theorem own_pkn {aS aE aX : Addr} {i : Int32} (h : i = (0 : Int32) ∨ i = (1 : Int32) ∨ i = (2 : Int32)) (n : ¬ i = (2 : Int32)) (d1 : aS ≠ aX) (d2 : aE ≠ aX) : ¬ own_pk aS aE aX i = aX := by
  rcases h with rfl | rfl | rfl
  · exact d1
  · exact d2
  · exact absurd rfl n
theorem own_ka {q t x : Addr} (h : q = x) : own_keeps q t x = (1 : Int32) := if_pos h
theorem own_kb {q t x : Addr} (h : t = x) : own_keeps q t x = (1 : Int32) := by unfold own_keeps; rw [if_pos h]; split <;> rfl
theorem own_kn {q t x : Addr} (h : ¬ q = x) (h' : ¬ t = x) : own_keeps q t x = (0 : Int32) := by unfold own_keeps; rw [if_neg h, if_neg h']
theorem own_sta_keep {Z : State} {h h' : Heap} {C n d K : String} {w : Value} {a : Addr} (F : Sta Z h C n d w) (Kp : Keep h h' [a]) (E : Exa Z h a K) : Sta Z h' C n d w := by
  obtain ⟨cf, i, k, f, st, cell, h1, h2, h3, h4, h5, h6, h7⟩ := F
  obtain ⟨cell', k', e1, -, -, e4, -⟩ := E
  refine ⟨cf, i, k, f, st, cell, h1, h2, h3, h4, Kp.2.1 st cell h5 fun q => ?_, h6, h7⟩
  cases List.mem_singleton.mp q
  cases h5.symm.trans e1
  rw [e4] at h6; cases h6
theorem own_wS {Z : State} {a0 : Array Value} (hw : ∀ d ∈ tables_1, d.before a0 Z = true) : ∀ a ∈ Bundle.stringAtoms, a.before a0 Z = true := fun a ha => by
  simp only [Bundle.stringAtoms, Bundle.sN, List.mem_cons, List.not_mem_nil, or_false] at ha
  rcases ha with rfl | rfl | rfl | rfl | rfl | rfl | rfl
  · exact hw _ (List.mem_of_getElem? (i := 23) rfl)
  · exact hw _ (List.mem_of_getElem? (i := 24) rfl)
  · exact hw _ (List.mem_of_getElem? (i := 25) rfl)
  · exact hw _ (List.mem_of_getElem? (i := 26) rfl)
  · exact hw _ (List.mem_of_getElem? (i := 27) rfl)
  · exact hw _ (List.mem_of_getElem? (i := 28) rfl)
  · exact hw _ (List.mem_of_getElem? (i := 29) rfl)
theorem ef_rm1 (m : MethodId) (x0 : Int32) : entryFrame m #[(.int x0)] 1 = mkF m 0 #[.val (.int x0)] [] := by first | (simp [entryFrame, mkF, argsToLocals, Value.category]; done) | rfl
theorem pn_com_example_forkline_forkline_schema_TimeToLiveKeepsForExperimentPinLaw : plainName "com/example/forkline/forkline/schema/TimeToLiveKeepsForExperimentPinLaw" = true := by first | (simp [plainName, overriddenIn]; done) | decide +kernel
def Q1 (Z : State) (p1 : Int32) (aS : Addr) (aE : Addr) (aX : Addr) (h0 : Heap) (n0 : Nat) (v : Option Value) (h : Heap) (L : List Loc) : Prop := v = some (.ref (own_pk aS aE aX p1)) ∧ Fr n0 L ∧ h = h0
theorem d_method_2_code_0 : decode method_2_code 0 = .ok (.iload_n 0, 1) := by decide +kernel
theorem d_method_2_code_1 : decode method_2_code 1 = .ok (.ifCond .ne 7, 3) := by decide +kernel
theorem d_method_2_code_4 : decode method_2_code 4 = .ok (.getstatic 7, 3) := by decide +kernel
theorem d_method_2_code_7 : decode method_2_code 7 = .ok (.areturn, 1) := by decide +kernel
theorem d_method_2_code_8 : decode method_2_code 8 = .ok (.iload_n 0, 1) := by decide +kernel
theorem d_method_2_code_9 : decode method_2_code 9 = .ok (.iconst 1, 1) := by decide +kernel
theorem d_method_2_code_10 : decode method_2_code 10 = .ok (.if_icmp .ne 7, 3) := by decide +kernel
theorem d_method_2_code_13 : decode method_2_code 13 = .ok (.getstatic 13, 3) := by decide +kernel
theorem d_method_2_code_16 : decode method_2_code 16 = .ok (.areturn, 1) := by decide +kernel
theorem d_method_2_code_17 : decode method_2_code 17 = .ok (.getstatic 16, 3) := by decide +kernel
theorem d_method_2_code_20 : decode method_2_code 20 = .ok (.areturn, 1) := by decide +kernel
set_option maxRecDepth 65536 in
set_option maxHeartbeats 40000000 in
theorem rm1 (l : Launch) (Z : State) (a0 : Array Value) (hw : ∀ d ∈ tables_1, d.before a0 Z = true) (ws : List Jvm.Cond) (p1 : Int32) (aS : Addr) (aE : Addr) (aX : Addr) (h0 : Heap) (n0 : Nat) (Z0 : n0 ≤ h0.size) (S_STATE : Sta Z h0 "com/example/forkline/forkline/schema/KeptFor" "STATE" "Lcom/example/forkline/forkline/schema/KeptFor;" (.ref aS)) (S_SESSION : Sta Z h0 "com/example/forkline/forkline/schema/KeptFor" "SESSION" "Lcom/example/forkline/forkline/schema/KeptFor;" (.ref aE)) (S_EXPERIMENT : Sta Z h0 "com/example/forkline/forkline/schema/KeptFor" "EXPERIMENT" "Lcom/example/forkline/forkline/schema/KeptFor;" (.ref aX)) :
    MetFree l (⟨"com/example/forkline/forkline/schema/TimeToLiveKeepsForExperimentPinLaw", "pick", "(I)Lcom/example/forkline/forkline/schema/KeptFor;"⟩ : MethodName) (head1 (Jvm.Cond.code (⟨"com/example/forkline/forkline/schema/TimeToLiveKeepsForExperimentPinLaw", "pick", "(I)Lcom/example/forkline/forkline/schema/KeptFor;"⟩ : MethodName) method_2_code 1 (some (.object "com/example/forkline/forkline/schema/KeptFor")) :: ws) ({ frames := 0, cells := 0, slots := 0, locals := 0 } : Room)) (fun a U => a = #[(.int p1)] ∧ Z.Warmed39 U.vm ∧ U.heap = h0) (fun _ _ _ _ _ => True) (fun _ U o U' => ∃ v L, o = .returned v ∧ Q1 Z p1 aS aE aX h0 n0 v U'.heap L ∧ FrameEnd U o U' L ({ frames := 0, cells := 0, slots := 0, locals := 0 } : Room).cells ({ frames := 0, cells := 0, slots := 0, locals := 0 } : Room).slots) := by
  refine MetFree.of_bodySF (plainFor_of_name pn_com_example_forkline_forkline_schema_TimeToLiveKeepsForExperimentPinLaw) hisR ?_
  intro p e s m args below meth c s₁ Bd hml0 hP hK
  obtain ⟨rfl, hZ, hh⟩ := hP
  have hx := Bd.exec
  have hby := Bd.bytes
  have hml : c.maxLocals = 1 := hml0
  have hown : s.vm.findClass "com/example/forkline/forkline/schema/TimeToLiveKeepsForExperimentPinLaw" = some m.cls := findClass_of_methodNamed Bd.named
  have hnm := (name_of_methodNamed Bd.named Bd.method).1
  have X0 : Stand p l e ({ frames := 0, cells := 0, slots := 0, locals := 0 } : Room) s m #[(.int p1)] below meth c s₁ [] 0 0 := Stand.of_body Bd
  have e0 : s₁.heap = h0 := by rw [← hh, Bd.state]; rfl
  have N0 := Fr.nil n0
  have pre0 : ∀ tG, Steps p.tables e below (s₁.setTop (mkF m 0 #[.val (.int p1)] [])) tG → Steps p.tables e below (s₁.setTop (entryFrame m #[(.int p1)] 1)) tG := fun tG kG => castTop (ef_rm1 m p1) kG
  have G1 : ∀ tG, Steps p.tables e below (s₁.setTop (mkF m 1 #[.val (.int p1)] [(.int p1)])) tG → Steps p.tables e below (s₁.setTop (mkF m 0 #[.val (.int p1)] [])) tG := by
    intro tG kG
    refine own_iloadN X0.here hx (hb hby d_method_2_code_0) rfl ?_
    exact kG
  by_cases hc1 : p1 = (0 : Int32)
  · obtain ⟨T2, X2, e2, st2⟩ := getS2 X0 hx hZ hown (host := "") (Or.inl (hw _ (List.mem_of_getElem? (i := 8) rfl))) Via.refl e0 S_STATE (g := (mkF m 4 #[.val (.int p1)] [])) rfl (hb hby d_method_2_code_4)
    obtain ⟨fs, hr, hrun, hended, hW, hsame⟩ := X2.leave (v := some (.ref aS)) (fun h => by rw [Bd.returns] at h; cases h)
    refine ⟨_, _, pre0 _ ?_, hrun, hended, _, _, rfl, ?_, ⟨_, rfl⟩, hW, hsame.mono (by decide) (by decide)⟩
    · refine G1 _ ?_
      refine own_ifNo X0.here hx (hb hby d_method_2_code_1) ((if0 _ _).trans (teq hc1).2) ?_
      refine st2 _ ?_
      show Steps p.tables e below (T2.setTop (mkF m 7 #[.val (.int p1)] [(.ref aS)])) _
      jvm_step X2.here [X2.here.top, hx, (hb hby d_method_2_code_7), X2.method', Bd.returns, Value.isRef, FieldType.isReference]
      first | (intro acts; rw [hr _ acts rfl rfl rfl]) | rw [hr _ _ rfl rfl rfl]
      exact Steps.refl _
    · show Q1 Z p1 aS aE aX h0 n0 _ T2.heap _
      rw [e2]
      exact ⟨by simp only [own_pk, if_pos hc1], N0, rfl⟩
  · have G3 : ∀ tG, Steps p.tables e below (s₁.setTop (mkF m 10 #[.val (.int p1)] [(.int 1), (.int p1)])) tG → Steps p.tables e below (s₁.setTop (mkF m 0 #[.val (.int p1)] [])) tG := by
      intro tG kG
      refine G1 _ ?_
      refine own_ifYes X0.here hx 1 8 rfl (hb hby d_method_2_code_1) ((if0 _ _).trans (feq hc1).2) (by decide) (by decide) ?_
      refine own_iloadN X0.here hx (hb hby d_method_2_code_8) rfl ?_
      refine own_iconst X0.here hx (1 : Int32) (hb hby d_method_2_code_9) rfl ?_
      exact kG
    by_cases hc10 : p1 = (1 : Int32)
    · obtain ⟨T4, X4, e4, st4⟩ := getS2 X0 hx hZ hown (host := "") (Or.inl (hw _ (List.mem_of_getElem? (i := 47) rfl))) Via.refl e0 S_SESSION (g := (mkF m 13 #[.val (.int p1)] [])) rfl (hb hby d_method_2_code_13)
      obtain ⟨fs, hr, hrun, hended, hW, hsame⟩ := X4.leave (v := some (.ref aE)) (fun h => by rw [Bd.returns] at h; cases h)
      refine ⟨_, _, pre0 _ ?_, hrun, hended, _, _, rfl, ?_, ⟨_, rfl⟩, hW, hsame.mono (by decide) (by decide)⟩
      · refine G3 _ ?_
        refine own_icmpNo X0.here hx (hb hby d_method_2_code_10) (teq hc10).2 ?_
        refine st4 _ ?_
        show Steps p.tables e below (T4.setTop (mkF m 16 #[.val (.int p1)] [(.ref aE)])) _
        jvm_step X4.here [X4.here.top, hx, (hb hby d_method_2_code_16), X4.method', Bd.returns, Value.isRef, FieldType.isReference]
        first | (intro acts; rw [hr _ acts rfl rfl rfl]) | rw [hr _ _ rfl rfl rfl]
        exact Steps.refl _
      · show Q1 Z p1 aS aE aX h0 n0 _ T4.heap _
        rw [e4]
        exact ⟨by simp only [own_pk, if_neg hc1, if_pos hc10], N0, rfl⟩
    · obtain ⟨T5, X5, e5, st5⟩ := getS2 X0 hx hZ hown (host := "") (Or.inl (hw _ (List.mem_of_getElem? (i := 46) rfl))) Via.refl e0 S_EXPERIMENT (g := (mkF m 17 #[.val (.int p1)] [])) rfl (hb hby d_method_2_code_17)
      obtain ⟨fs, hr, hrun, hended, hW, hsame⟩ := X5.leave (v := some (.ref aX)) (fun h => by rw [Bd.returns] at h; cases h)
      refine ⟨_, _, pre0 _ ?_, hrun, hended, _, _, rfl, ?_, ⟨_, rfl⟩, hW, hsame.mono (by decide) (by decide)⟩
      · refine G3 _ ?_
        refine own_icmpYes X0.here hx 10 17 rfl (hb hby d_method_2_code_10) (feq hc10).2 (by decide) (by decide) ?_
        refine st5 _ ?_
        show Steps p.tables e below (T5.setTop (mkF m 20 #[.val (.int p1)] [(.ref aX)])) _
        jvm_step X5.here [X5.here.top, hx, (hb hby d_method_2_code_20), X5.method', Bd.returns, Value.isRef, FieldType.isReference]
        first | (intro acts; rw [hr _ acts rfl rfl rfl]) | rw [hr _ _ rfl rfl rfl]
        exact Steps.refl _
      · show Q1 Z p1 aS aE aX h0 n0 _ T5.heap _
        rw [e5]
        exact ⟨by simp only [own_pk, if_neg hc1, if_neg hc10], N0, rfl⟩
theorem ef_rm2 (m : MethodId) (x0 : Addr) : entryFrame m #[(.ref x0)] 1 = mkF m 0 #[.val (.ref x0)] [] := by first | (simp [entryFrame, mkF, argsToLocals, Value.category]; done) | rfl
theorem pn_java_lang_Record : plainName "java/lang/Record" = true := by first | (simp [plainName, overriddenIn]; done) | decide +kernel
def Q2 (Z : State) (a1 : Addr) (h0 : Heap) (n0 : Nat) (v : Option Value) (h : Heap) (L : List Loc) : Prop := v = none ∧ Fr n0 L ∧ h = h0
theorem d_jdk_30_method_1_code_0 : decode jdk_30_method_1_code 0 = .ok (.aload_n 0, 1) := by decide +kernel
theorem d_jdk_30_method_1_code_1 : decode jdk_30_method_1_code 1 = .ok (.invokespecial 1, 3) := by decide +kernel
theorem d_jdk_30_method_1_code_4 : decode jdk_30_method_1_code 4 = .ok (.return_, 1) := by decide +kernel
set_option maxRecDepth 65536 in
set_option maxHeartbeats 40000000 in
theorem rm2 (l : Launch) (Z : State) (a0 : Array Value) (hw : ∀ d ∈ tables_1, d.before a0 Z = true) (ws : List Jvm.Cond) (a1 : Addr) (h0 : Heap) (n0 : Nat) (Z0 : n0 ≤ h0.size) :
    MetFree l (⟨"java/lang/Record", "<init>", "()V"⟩ : MethodName) (head1 (Jvm.Cond.code (⟨"java/lang/Record", "<init>", "()V"⟩ : MethodName) jdk_30_method_1_code 1 none :: ws) ({ frames := 1, cells := 0, slots := 0, locals := 12 } : Room)) (fun a U => a = #[(.ref a1)] ∧ Z.Warmed39 U.vm ∧ U.heap = h0) (fun _ _ _ _ _ => True) (fun _ U o U' => ∃ v L, o = .returned v ∧ Q2 Z a1 h0 n0 v U'.heap L ∧ FrameEnd U o U' L ({ frames := 1, cells := 0, slots := 0, locals := 12 } : Room).cells ({ frames := 1, cells := 0, slots := 0, locals := 12 } : Room).slots) := by
  refine MetFree.of_bodySF (plainFor_of_name pn_java_lang_Record) hisR ?_
  intro p e s m args below meth c s₁ Bd hml0 hP hK
  obtain ⟨rfl, hZ, hh⟩ := hP
  have hx := Bd.exec
  have hby := Bd.bytes
  have hml : c.maxLocals = 1 := hml0
  have hown : s.vm.findClass "java/lang/Record" = some m.cls := findClass_of_methodNamed Bd.named
  have hnm := (name_of_methodNamed Bd.named Bd.method).1
  have X0 : Stand p l e ({ frames := 1, cells := 0, slots := 0, locals := 12 } : Room) s m #[(.ref a1)] below meth c s₁ [] 0 0 := Stand.of_body Bd
  have e0 : s₁.heap = h0 := by rw [← hh, Bd.state]; rfl
  have N0 := Fr.nil n0
  have pre0 : ∀ tG, Steps p.tables e below (s₁.setTop (mkF m 0 #[.val (.ref a1)] [])) tG → Steps p.tables e below (s₁.setTop (entryFrame m #[(.ref a1)] 1)) tG := fun tG kG => castTop (ef_rm2 m a1) kG
  obtain ⟨T6, X6, e6, st6⟩ := initO X0 hx hZ hown (hw _ (List.mem_of_getElem? (i := 19) rfl)) (hw _ (List.mem_of_getElem? (i := 20) rfl)) (hw _ (List.mem_of_getElem? (i := 21) rfl)) e0 (g := (mkF m 1 #[.val (.ref a1)] [(.ref a1)])) rfl (by rw [hml]; rfl) rfl (hb hby d_jdk_30_method_1_code_1) (by decide) (W := 0) (by show 2 * 0 + _ ≤ _; exact Nat.le_of_eq rfl) (by decide)
  obtain ⟨fs, hr, hrun, hended, hW, hsame⟩ := X6.leave (v := none) (fun _ => rfl)
  refine ⟨_, _, pre0 _ ?_, hrun, hended, _, _, rfl, ?_, ⟨_, rfl⟩, hW, hsame.mono (by decide) (by decide)⟩
  · refine own_aloadN X0.here hx (hb hby d_jdk_30_method_1_code_0) rfl rfl ?_
    refine st6 _ ?_
    show Steps p.tables e below (T6.setTop (mkF m 4 #[.val (.ref a1)] [])) _
    exact X6.returnOut hx Bd.returns (hb hby d_jdk_30_method_1_code_4) hr
  · show Q2 Z a1 h0 n0 _ T6.heap _
    rw [e6]
    exact ⟨rfl, N0, rfl⟩
theorem ef_rm3 (m : MethodId) (x0 : Addr) (x1 : Addr) : entryFrame m #[(.ref x0), (.ref x1)] 2 = mkF m 0 #[.val (.ref x0), .val (.ref x1)] [] := by first | (simp [entryFrame, mkF, argsToLocals, Value.category]; done) | rfl
theorem pn_java_util_Objects : plainName "java/util/Objects" = true := by first | (simp [plainName, overriddenIn]; done) | decide +kernel
def Q3 (Z : State) (a1 : Addr) (a2 : Addr) (h0 : Heap) (n0 : Nat) (v : Option Value) (h : Heap) (L : List Loc) : Prop := v = some (.ref a1) ∧ Fr n0 L ∧ h = h0
theorem d_jdk_31_method_11_code_0 : decode jdk_31_method_11_code 0 = .ok (.aload_n 0, 1) := by decide +kernel
theorem d_jdk_31_method_11_code_1 : decode jdk_31_method_11_code 1 = .ok (.ifnonnull 12, 3) := by decide +kernel
theorem d_jdk_31_method_11_code_13 : decode jdk_31_method_11_code 13 = .ok (.aload_n 0, 1) := by decide +kernel
theorem d_jdk_31_method_11_code_14 : decode jdk_31_method_11_code 14 = .ok (.areturn, 1) := by decide +kernel
set_option maxRecDepth 65536 in
set_option maxHeartbeats 40000000 in
theorem rm3 (l : Launch) (Z : State) (a0 : Array Value) (hw : ∀ d ∈ tables_1, d.before a0 Z = true) (ws : List Jvm.Cond) (a1 : Addr) (a2 : Addr) (h0 : Heap) (n0 : Nat) (Z0 : n0 ≤ h0.size) :
    MetFree l (⟨"java/util/Objects", "requireNonNull", "(Ljava/lang/Object;Ljava/lang/String;)Ljava/lang/Object;"⟩ : MethodName) (head1 (Jvm.Cond.code (⟨"java/util/Objects", "requireNonNull", "(Ljava/lang/Object;Ljava/lang/String;)Ljava/lang/Object;"⟩ : MethodName) jdk_31_method_11_code 2 (some (.object "java/lang/Object")) :: ws) ({ frames := 0, cells := 0, slots := 0, locals := 0 } : Room)) (fun a U => a = #[(.ref a1), (.ref a2)] ∧ Z.Warmed39 U.vm ∧ U.heap = h0) (fun _ _ _ _ _ => True) (fun _ U o U' => ∃ v L, o = .returned v ∧ Q3 Z a1 a2 h0 n0 v U'.heap L ∧ FrameEnd U o U' L ({ frames := 0, cells := 0, slots := 0, locals := 0 } : Room).cells ({ frames := 0, cells := 0, slots := 0, locals := 0 } : Room).slots) := by
  refine MetFree.of_bodySF (plainFor_of_name pn_java_util_Objects) hisR ?_
  intro p e s m args below meth c s₁ Bd hml0 hP hK
  obtain ⟨rfl, hZ, hh⟩ := hP
  have hx := Bd.exec
  have hby := Bd.bytes
  have hml : c.maxLocals = 2 := hml0
  have hown : s.vm.findClass "java/util/Objects" = some m.cls := findClass_of_methodNamed Bd.named
  have hnm := (name_of_methodNamed Bd.named Bd.method).1
  have X0 : Stand p l e ({ frames := 0, cells := 0, slots := 0, locals := 0 } : Room) s m #[(.ref a1), (.ref a2)] below meth c s₁ [] 0 0 := Stand.of_body Bd
  have e0 : s₁.heap = h0 := by rw [← hh, Bd.state]; rfl
  have N0 := Fr.nil n0
  have pre0 : ∀ tG, Steps p.tables e below (s₁.setTop (mkF m 0 #[.val (.ref a1), .val (.ref a2)] [])) tG → Steps p.tables e below (s₁.setTop (entryFrame m #[(.ref a1), (.ref a2)] 2)) tG := fun tG kG => castTop (ef_rm3 m a1 a2) kG
  obtain ⟨fs, hr, hrun, hended, hW, hsame⟩ := X0.leave (v := some (.ref a1)) (fun h => by rw [Bd.returns] at h; cases h)
  refine ⟨_, _, pre0 _ ?_, hrun, hended, _, _, rfl, ?_, ⟨_, rfl⟩, hW, hsame.mono (by decide) (by decide)⟩
  · refine own_aloadN X0.here hx (hb hby d_jdk_31_method_11_code_0) rfl rfl ?_
    refine own_ifnonnullYes X0.here hx 1 13 rfl (hb hby d_jdk_31_method_11_code_1) (by decide) (by decide) ?_
    refine own_aloadN X0.here hx (hb hby d_jdk_31_method_11_code_13) rfl rfl ?_
    show Steps p.tables e below (s₁.setTop (mkF m 14 #[.val (.ref a1), .val (.ref a2)] [(.ref a1)])) _
    jvm_step X0.here [X0.here.top, hx, (hb hby d_jdk_31_method_11_code_14), X0.method', Bd.returns, Value.isRef, FieldType.isReference]
    first | (intro acts; rw [hr _ acts rfl rfl rfl]) | rw [hr _ _ rfl rfl rfl]
    exact Steps.refl _
  · show Q3 Z a1 a2 h0 n0 _ s₁.heap _
    rw [e0]
    exact ⟨rfl, N0, rfl⟩
theorem ef_rm4 (m : MethodId) (x0 : Addr) (x1 : Addr) (x2 : Addr) : entryFrame m #[(.ref x0), (.ref x1), (.ref x2)] 3 = mkF m 0 #[.val (.ref x0), .val (.ref x1), .val (.ref x2)] [] := by first | (simp [entryFrame, mkF, argsToLocals, Value.category]; done) | rfl
theorem pn_com_example_forkline_forkline_schema_TimeToLive : plainName "com/example/forkline/forkline/schema/TimeToLive" = true := by first | (simp [plainName, overriddenIn]; done) | decide +kernel
def Q4 (Z : State) (a1 : Addr) (a2 : Addr) (a3 : Addr) (h0 : Heap) (n0 : Nat) (v : Option Value) (h : Heap) (L : List Loc) : Prop := v = none ∧ Fr n0 L ∧ Keep h0 h [a1] ∧ Exa Z h a1 "com/example/forkline/forkline/schema/TimeToLive" ∧ Fld Z h a1 "com/example/forkline/forkline/schema/TimeToLive" "qualification" "Lcom/example/forkline/forkline/schema/KeptFor;" (.ref a2) ∧ Fld Z h a1 "com/example/forkline/forkline/schema/TimeToLive" "targeting" "Lcom/example/forkline/forkline/schema/KeptFor;" (.ref a3)
theorem d_prog_47_method_1_code_0 : decode prog_47_method_1_code 0 = .ok (.aload_n 0, 1) := by decide +kernel
theorem d_prog_47_method_1_code_1 : decode prog_47_method_1_code 1 = .ok (.invokespecial 1, 3) := by decide +kernel
theorem pd_2829V : parseMethodDescriptor "()V" = some ⟨[], none⟩ := by decide +kernel
theorem d_prog_47_method_1_code_4 : decode prog_47_method_1_code 4 = .ok (.aload_n 1, 1) := by decide +kernel
theorem d_prog_47_method_1_code_5 : decode prog_47_method_1_code 5 = .ok (.ldc 7, 2) := by decide +kernel
theorem d_prog_47_method_1_code_7 : decode prog_47_method_1_code 7 = .ok (.invokestatic 9, 3) := by decide +kernel
theorem pd_28Ljava2flang2fObject3bLjava2flang2fString3b29Ljava2flang2fObject3b : parseMethodDescriptor "(Ljava/lang/Object;Ljava/lang/String;)Ljava/lang/Object;" = some ⟨[(.object "java/lang/Object"), (.object "java/lang/String")], some (.object "java/lang/Object")⟩ := by decide +kernel
theorem d_prog_47_method_1_code_10 : decode prog_47_method_1_code 10 = .ok (.pop, 1) := by decide +kernel
theorem d_prog_47_method_1_code_11 : decode prog_47_method_1_code 11 = .ok (.aload_n 2, 1) := by decide +kernel
theorem d_prog_47_method_1_code_12 : decode prog_47_method_1_code 12 = .ok (.ldc 15, 2) := by decide +kernel
theorem d_prog_47_method_1_code_14 : decode prog_47_method_1_code 14 = .ok (.invokestatic 9, 3) := by decide +kernel
theorem d_prog_47_method_1_code_17 : decode prog_47_method_1_code 17 = .ok (.pop, 1) := by decide +kernel
theorem d_prog_47_method_1_code_18 : decode prog_47_method_1_code 18 = .ok (.aload_n 0, 1) := by decide +kernel
theorem d_prog_47_method_1_code_19 : decode prog_47_method_1_code 19 = .ok (.aload_n 1, 1) := by decide +kernel
theorem d_prog_47_method_1_code_20 : decode prog_47_method_1_code 20 = .ok (.putfield 17, 3) := by decide +kernel
theorem d_prog_47_method_1_code_23 : decode prog_47_method_1_code 23 = .ok (.aload_n 0, 1) := by decide +kernel
theorem d_prog_47_method_1_code_24 : decode prog_47_method_1_code 24 = .ok (.aload_n 2, 1) := by decide +kernel
theorem d_prog_47_method_1_code_25 : decode prog_47_method_1_code 25 = .ok (.putfield 22, 3) := by decide +kernel
theorem d_prog_47_method_1_code_28 : decode prog_47_method_1_code 28 = .ok (.return_, 1) := by decide +kernel
set_option maxRecDepth 65536 in
set_option maxHeartbeats 40000000 in
theorem rm4 (l : Launch) (Z : State) (a0 : Array Value) (hw : ∀ d ∈ tables_1, d.before a0 Z = true) (ws : List Jvm.Cond) (a1 : Addr) (a2 : Addr) (a3 : Addr) (h0 : Heap) (n0 : Nat) (Z0 : n0 ≤ h0.size) (E1 : Exa Z h0 a1 "com/example/forkline/forkline/schema/TimeToLive") (g1 : n0 ≤ a1) (F_qualification : Fld Z h0 a1 "com/example/forkline/forkline/schema/TimeToLive" "qualification" "Lcom/example/forkline/forkline/schema/KeptFor;" .null) (F_targeting : Fld Z h0 a1 "com/example/forkline/forkline/schema/TimeToLive" "targeting" "Lcom/example/forkline/forkline/schema/KeptFor;" .null) :
    MetFree l (⟨"com/example/forkline/forkline/schema/TimeToLive", "<init>", "(Lcom/example/forkline/forkline/schema/KeptFor;Lcom/example/forkline/forkline/schema/KeptFor;)V"⟩ : MethodName) (head1 (Jvm.Cond.code (⟨"com/example/forkline/forkline/schema/TimeToLive", "<init>", "(Lcom/example/forkline/forkline/schema/KeptFor;Lcom/example/forkline/forkline/schema/KeptFor;)V"⟩ : MethodName) prog_47_method_1_code 3 none :: ws) ({ frames := 2, cells := 4, slots := 96, locals := 24 } : Room)) (fun a U => a = #[(.ref a1), (.ref a2), (.ref a3)] ∧ Z.Warmed39 U.vm ∧ U.heap = h0) (fun _ _ _ _ _ => True) (fun _ U o U' => ∃ v L, o = .returned v ∧ Q4 Z a1 a2 a3 h0 n0 v U'.heap L ∧ ReturnedEndW U o U' L ({ frames := 2, cells := 4, slots := 96, locals := 24 } : Room).cells ({ frames := 2, cells := 4, slots := 96, locals := 24 } : Room).slots) := by
  refine MetFree.of_bodySF (plainFor_of_name pn_com_example_forkline_forkline_schema_TimeToLive) hisR ?_
  intro p e s m args below meth c s₁ Bd hml0 hP hK
  obtain ⟨rfl, hZ, hh⟩ := hP
  have hx := Bd.exec
  have hby := Bd.bytes
  have hml : c.maxLocals = 3 := hml0
  have hown : s.vm.findClass "com/example/forkline/forkline/schema/TimeToLive" = some m.cls := findClass_of_methodNamed Bd.named
  have hnm := (name_of_methodNamed Bd.named Bd.method).1
  have X0 : Stand p l e ({ frames := 2, cells := 4, slots := 96, locals := 24 } : Room) s m #[(.ref a1), (.ref a2), (.ref a3)] below meth c s₁ [] 0 0 := Stand.of_body Bd
  have e0 : s₁.heap = h0 := by rw [← hh, Bd.state]; rfl
  have N0 := Fr.nil n0
  have pre0 : ∀ tG, Steps p.tables e below (s₁.setTop (mkF m 0 #[.val (.ref a1), .val (.ref a2), .val (.ref a3)] [])) tG → Steps p.tables e below (s₁.setTop (entryFrame m #[(.ref a1), (.ref a2), (.ref a3)] 3)) tG := fun tG kG => castTop (ef_rm4 m a1 a2 a3) kG
  have hS0 : s.Since s.vm 0 := (State.WarmedH.refl s).since 0
  have hk0 : 0 ≤ h0.size := Nat.zero_le _
  obtain ⟨_, _, ⟨T7, L7, k7, n7⟩, -, X7, ⟨Lc7, hQ7, l7, y7, z7⟩, st7⟩ := X0.specialBack hx (y := (⟨"java/lang/Record", "<init>", "()V"⟩ : MethodName)) rfl hown (mvT hZ (hw _ (List.mem_of_getElem? (i := 14) rfl))) (mvT hZ (hw _ (List.mem_of_getElem? (i := 15) rfl))) (mvT hZ (hw _ (List.mem_of_getElem? (i := 18) rfl))) (by decide) (backOf (W := 0) (rm2 l Z a0 hw [] a1 h0 n0 Z0) hZ (hw _ (List.mem_of_getElem? (i := 18) rfl)) (hw _ (List.mem_of_getElem? (i := 17) rfl)) (by decide) (by decide)) (g := (mkF m 1 #[.val (.ref a1), .val (.ref a2), .val (.ref a3)] [(.ref a1)])) rfl (by rw [hml]; rfl) (Steps.refl _) (a := a1) (argsL := []) (rest := []) (lenOf pd_2829V rfl) rfl (by show 2 * 0 + _ ≤ _; exact Nat.le_of_eq rfl) (hb hby d_prog_47_method_1_code_1) (fun _ _ => ⟨rfl, e0, (by decide : 0 + 0 ≤ _), (by decide : 0 + 0 ≤ _)⟩)
  dsimp only [Pt.U, Pt.locs, Pt.cells, Pt.slots] at X7 l7 y7 z7 st7 hQ7
  subst l7 y7 z7
  obtain ⟨rfl, N7q, e7⟩ := hQ7
  have N7 := Fr.app N0 N7q
  have G9 : ∀ tG, Steps p.tables e below (T7.setTop (mkF m 5 #[.val (.ref a1), .val (.ref a2), .val (.ref a3)] [(.ref a2)])) tG → Steps p.tables e below (s₁.setTop (mkF m 0 #[.val (.ref a1), .val (.ref a2), .val (.ref a3)] [])) tG := by
    intro tG kG
    refine own_aloadN X0.here hx (hb hby d_prog_47_method_1_code_0) rfl rfl ?_
    refine st7.trans ?_
    show Steps p.tables e below (T7.setTop (mkF m 4 #[.val (.ref a1), .val (.ref a2), .val (.ref a3)] [])) _
    refine own_aloadN X7.here hx (hb hby d_prog_47_method_1_code_4) rfl rfl ?_
    exact kG
  obtain ⟨b8, T8, h8, kk8, X8, e8, E8, hS8, hk8, hZ, hown, st8⟩ := ldcS (s := s) (vm0 := s.vm) X7 hx hZ hown (hw _ (List.mem_of_getElem? (i := 22) rfl)) (own_wS hw) e7 hS0 hk0 (g := (mkF m 5 #[.val (.ref a1), .val (.ref a2), .val (.ref a3)] [(.ref a2)])) rfl (hb hby d_prog_47_method_1_code_5) (n := 52) (by decide) (by decide) (by decide : 0 + 2 ≤ _) (by decide : 0 + (52 + 4) ≤ _)
  have Z8 : n0 ≤ h8.size := Nat.le_trans Z0 E8.1
  have K8 : Keep h0 h8 [a1] := (Keep.refl h0 [a1]).ext E8
  have f10 : Exa Z h8 a1 "com/example/forkline/forkline/schema/TimeToLive" := E1.ext E8
  have f11 : Fld Z h8 a1 "com/example/forkline/forkline/schema/TimeToLive" "qualification" "Lcom/example/forkline/forkline/schema/KeptFor;" .null := F_qualification.ext E8
  have f12 : Fld Z h8 a1 "com/example/forkline/forkline/schema/TimeToLive" "targeting" "Lcom/example/forkline/forkline/schema/KeptFor;" .null := F_targeting.ext E8
  obtain ⟨_, _, ⟨T13, L13, k13, n13⟩, -, X13, ⟨Lc13, hQ13, l13, y13, z13⟩, st13⟩ := Jvm.LawKit.callS X8 hx (y := (⟨"java/util/Objects", "requireNonNull", "(Ljava/lang/Object;Ljava/lang/String;)Ljava/lang/Object;"⟩ : MethodName)) hown (mvT hZ (hw _ (List.mem_of_getElem? (i := 30) rfl))) (mvT hZ (hw _ (List.mem_of_getElem? (i := 31) rfl))) (mvT hZ (hw _ (List.mem_of_getElem? (i := 32) rfl))) (mvT hZ (hw _ (List.mem_of_getElem? (i := 33) rfl))) (by decide) (backOf (W := 0) (rm3 l Z a0 hw [] a2 b8 h8 n0 Z8) hZ (hw _ (List.mem_of_getElem? (i := 33) rfl)) (hw _ (List.mem_of_getElem? (i := 32) rfl)) (by decide) (by decide)) (g := (mkF m 7 #[.val (.ref a1), .val (.ref a2), .val (.ref a3)] [(.ref b8), (.ref a2)])) rfl (by rw [hml]; rfl) (argsL := [(.ref a2), (.ref b8)]) (rest := []) (lenOf pd_28Ljava2flang2fObject3bLjava2flang2fString3b29Ljava2flang2fObject3b rfl) rfl (by show 2 * 0 + _ ≤ _; exact Nat.le_of_eq rfl) (hb hby d_prog_47_method_1_code_7) (fun _ _ => ⟨rfl, e8, (by decide : 2 + 0 ≤ _), (by decide : 56 + 0 ≤ _)⟩)
  dsimp only [Pt.U, Pt.locs, Pt.cells, Pt.slots] at X13 l13 y13 z13 st13 hQ13
  subst l13 y13 z13
  obtain ⟨rfl, N13q, e13⟩ := hQ13
  have N13 := Fr.app N7 N13q
  have G15 : ∀ tG, Steps p.tables e below (T13.setTop (mkF m 12 #[.val (.ref a1), .val (.ref a2), .val (.ref a3)] [(.ref a3)])) tG → Steps p.tables e below (s₁.setTop (mkF m 0 #[.val (.ref a1), .val (.ref a2), .val (.ref a3)] [])) tG := by
    intro tG kG
    refine G9 _ ?_
    refine st8 _ ?_
    show Steps p.tables e below (T8.setTop (mkF m 7 #[.val (.ref a1), .val (.ref a2), .val (.ref a3)] [(.ref b8), (.ref a2)])) _
    refine st13 _ ?_
    show Steps p.tables e below (T13.setTop (mkF m 10 #[.val (.ref a1), .val (.ref a2), .val (.ref a3)] [(.ref a2)])) _
    refine own_pop X13.here hx (hb hby d_prog_47_method_1_code_10) rfl ?_
    refine own_aloadN X13.here hx (hb hby d_prog_47_method_1_code_11) rfl rfl ?_
    exact kG
  obtain ⟨b14, T14, h14, kk14, X14, e14, E14, hS14, hk14, hZ, hown, st14⟩ := ldcS (s := s) (vm0 := T8.vm) X13 hx hZ hown (hw _ (List.mem_of_getElem? (i := 34) rfl)) (own_wS hw) e13 hS8 hk8 (g := (mkF m 12 #[.val (.ref a1), .val (.ref a2), .val (.ref a3)] [(.ref a3)])) rfl (hb hby d_prog_47_method_1_code_12) (n := 36) (by decide) (by decide) (by decide : 2 + 2 ≤ _) (by decide : 56 + (36 + 4) ≤ _)
  have Z14 : n0 ≤ h14.size := Nat.le_trans Z8 E14.1
  have K14 : Keep h0 h14 [a1] := K8.ext E14
  have f16 : Exa Z h14 a1 "com/example/forkline/forkline/schema/TimeToLive" := f10.ext E14
  have f17 : Fld Z h14 a1 "com/example/forkline/forkline/schema/TimeToLive" "qualification" "Lcom/example/forkline/forkline/schema/KeptFor;" .null := f11.ext E14
  have f18 : Fld Z h14 a1 "com/example/forkline/forkline/schema/TimeToLive" "targeting" "Lcom/example/forkline/forkline/schema/KeptFor;" .null := f12.ext E14
  obtain ⟨_, _, ⟨T19, L19, k19, n19⟩, -, X19, ⟨Lc19, hQ19, l19, y19, z19⟩, st19⟩ := Jvm.LawKit.callS X14 hx (y := (⟨"java/util/Objects", "requireNonNull", "(Ljava/lang/Object;Ljava/lang/String;)Ljava/lang/Object;"⟩ : MethodName)) hown (mvT hZ (hw _ (List.mem_of_getElem? (i := 30) rfl))) (mvT hZ (hw _ (List.mem_of_getElem? (i := 31) rfl))) (mvT hZ (hw _ (List.mem_of_getElem? (i := 32) rfl))) (mvT hZ (hw _ (List.mem_of_getElem? (i := 33) rfl))) (by decide) (backOf (W := 0) (rm3 l Z a0 hw [] a3 b14 h14 n0 Z14) hZ (hw _ (List.mem_of_getElem? (i := 33) rfl)) (hw _ (List.mem_of_getElem? (i := 32) rfl)) (by decide) (by decide)) (g := (mkF m 14 #[.val (.ref a1), .val (.ref a2), .val (.ref a3)] [(.ref b14), (.ref a3)])) rfl (by rw [hml]; rfl) (argsL := [(.ref a3), (.ref b14)]) (rest := []) (lenOf pd_28Ljava2flang2fObject3bLjava2flang2fString3b29Ljava2flang2fObject3b rfl) rfl (by show 2 * 0 + _ ≤ _; exact Nat.le_of_eq rfl) (hb hby d_prog_47_method_1_code_14) (fun _ _ => ⟨rfl, e14, (by decide : 4 + 0 ≤ _), (by decide : 96 + 0 ≤ _)⟩)
  dsimp only [Pt.U, Pt.locs, Pt.cells, Pt.slots] at X19 l19 y19 z19 st19 hQ19
  subst l19 y19 z19
  obtain ⟨rfl, N19q, e19⟩ := hQ19
  have N19 := Fr.app N13 N19q
  obtain ⟨T20, h20, X20, e20, W20, st20⟩ := putF X19 hx hZ hown (host := "") (Or.inl (hw _ (List.mem_of_getElem? (i := 35) rfl))) Via.refl e19 f17 f16 (Or.inr ⟨(hw _ (List.mem_of_getElem? (i := 36) rfl)), rfl, hnm⟩) (hw _ (List.mem_of_getElem? (i := 2) rfl)) (ty := (.object "com/example/forkline/forkline/schema/KeptFor")) (by decide) rfl rfl (g := (mkF m 20 #[.val (.ref a1), .val (.ref a2), .val (.ref a3)] [(.ref a2), (.ref a1)])) rfl rfl (hb hby d_prog_47_method_1_code_20)
  have f21 : Exa Z h20 a1 "com/example/forkline/forkline/schema/TimeToLive" := f16.wr W20
  have f23 : Fld Z h20 a1 "com/example/forkline/forkline/schema/TimeToLive" "targeting" "Lcom/example/forkline/forkline/schema/KeptFor;" .null := f18.other W20 (Or.inr (slot_ne (Or.inr (hw _ (List.mem_of_getElem? (i := 38) rfl))) (Or.inr (hw _ (List.mem_of_getElem? (i := 36) rfl))) (by decide) (t := (.object "com/example/forkline/forkline/schema/KeptFor")) (t' := (.object "com/example/forkline/forkline/schema/KeptFor")) (by decide) (by decide)))
  have f24 : Fld Z h20 a1 "com/example/forkline/forkline/schema/TimeToLive" "qualification" "Lcom/example/forkline/forkline/schema/KeptFor;" (.ref a2) := f17.same W20
  have N20 := Fr.snoc X20 N19 g1
  have Z20 : n0 ≤ h20.size := Nat.le_trans Z14 (Keep.of_wr W20).1
  have hk20 := Nat.le_trans hk14 (Keep.of_wr W20).1
  have K20 : Keep h0 h20 [a1] := K14.wr W20 (Or.inl (List.mem_of_getElem? (i := 0) rfl))
  obtain ⟨T25, h25, X25, e25, W25, st25⟩ := putF X20 hx hZ hown (host := "") (Or.inl (hw _ (List.mem_of_getElem? (i := 37) rfl))) Via.refl e20 f23 f21 (Or.inr ⟨(hw _ (List.mem_of_getElem? (i := 38) rfl)), rfl, hnm⟩) (hw _ (List.mem_of_getElem? (i := 2) rfl)) (ty := (.object "com/example/forkline/forkline/schema/KeptFor")) (by decide) rfl rfl (g := (mkF m 25 #[.val (.ref a1), .val (.ref a2), .val (.ref a3)] [(.ref a3), (.ref a1)])) rfl rfl (hb hby d_prog_47_method_1_code_25)
  have f26 : Exa Z h25 a1 "com/example/forkline/forkline/schema/TimeToLive" := f21.wr W25
  have f27 : Fld Z h25 a1 "com/example/forkline/forkline/schema/TimeToLive" "qualification" "Lcom/example/forkline/forkline/schema/KeptFor;" (.ref a2) := f24.other W25 (Or.inr (slot_ne (Or.inr (hw _ (List.mem_of_getElem? (i := 36) rfl))) (Or.inr (hw _ (List.mem_of_getElem? (i := 38) rfl))) (by decide) (t := (.object "com/example/forkline/forkline/schema/KeptFor")) (t' := (.object "com/example/forkline/forkline/schema/KeptFor")) (by decide) (by decide)))
  have f29 : Fld Z h25 a1 "com/example/forkline/forkline/schema/TimeToLive" "targeting" "Lcom/example/forkline/forkline/schema/KeptFor;" (.ref a3) := f23.same W25
  have N25 := Fr.snoc X25 N20 g1
  have Z25 : n0 ≤ h25.size := Nat.le_trans Z20 (Keep.of_wr W25).1
  have hk25 := Nat.le_trans hk20 (Keep.of_wr W25).1
  have K25 : Keep h0 h25 [a1] := K20.wr W25 (Or.inl (List.mem_of_getElem? (i := 0) rfl))
  obtain ⟨fs, hr, hrun, hended, hW⟩ := Stand.leaveW (s := s) (vm₁ := T14.vm) X25 hS14 (by rw [e25]; exact hk25) (v := none) (fun _ => rfl)
  refine ⟨_, _, pre0 _ ?_, hrun, hended, _, _, rfl, ?_, hW.1, hW.2.1, hW.2.2.1, hW.2.2.2.mono (by decide) (by decide)⟩
  · refine G15 _ ?_
    refine st14 _ ?_
    show Steps p.tables e below (T14.setTop (mkF m 14 #[.val (.ref a1), .val (.ref a2), .val (.ref a3)] [(.ref b14), (.ref a3)])) _
    refine st19 _ ?_
    show Steps p.tables e below (T19.setTop (mkF m 17 #[.val (.ref a1), .val (.ref a2), .val (.ref a3)] [(.ref a3)])) _
    refine own_pop X19.here hx (hb hby d_prog_47_method_1_code_17) rfl ?_
    refine own_aloadN X19.here hx (hb hby d_prog_47_method_1_code_18) rfl rfl ?_
    refine own_aloadN X19.here hx (hb hby d_prog_47_method_1_code_19) rfl rfl ?_
    refine st20 _ ?_
    show Steps p.tables e below (T20.setTop (mkF m 23 #[.val (.ref a1), .val (.ref a2), .val (.ref a3)] [])) _
    refine own_aloadN X20.here hx (hb hby d_prog_47_method_1_code_23) rfl rfl ?_
    refine own_aloadN X20.here hx (hb hby d_prog_47_method_1_code_24) rfl rfl ?_
    refine st25 _ ?_
    show Steps p.tables e below (T25.setTop (mkF m 28 #[.val (.ref a1), .val (.ref a2), .val (.ref a3)] [])) _
    exact X25.returnOut hx Bd.returns (hb hby d_prog_47_method_1_code_28) hr
  · show Q4 Z a1 a2 a3 h0 n0 _ T25.heap _
    rw [e25]
    exact ⟨rfl, N25, K25, f26, f27, f29⟩
theorem ef_rm5 (m : MethodId) (x0 : Addr) : entryFrame m #[(.ref x0)] 1 = mkF m 0 #[.val (.ref x0)] [] := by first | (simp [entryFrame, mkF, argsToLocals, Value.category]; done) | rfl
def Q5 (Z : State) (a1 : Addr) (q : Addr) (t : Addr) (aX : Addr) (h0 : Heap) (n0 : Nat) (v : Option Value) (h : Heap) (L : List Loc) : Prop := v = some (.int (own_keeps q t aX)) ∧ Fr n0 L ∧ h = h0
theorem d_prog_47_method_2_code_0 : decode prog_47_method_2_code 0 = .ok (.aload_n 0, 1) := by decide +kernel
theorem d_prog_47_method_2_code_1 : decode prog_47_method_2_code 1 = .ok (.getfield 17, 3) := by decide +kernel
theorem d_prog_47_method_2_code_4 : decode prog_47_method_2_code 4 = .ok (.getstatic 24, 3) := by decide +kernel
theorem d_prog_47_method_2_code_7 : decode prog_47_method_2_code 7 = .ok (.if_acmp .eq 13, 3) := by decide +kernel
theorem d_prog_47_method_2_code_20 : decode prog_47_method_2_code 20 = .ok (.iconst 1, 1) := by decide +kernel
theorem d_prog_47_method_2_code_21 : decode prog_47_method_2_code 21 = .ok (.goto 4, 3) := by decide +kernel
theorem d_prog_47_method_2_code_25 : decode prog_47_method_2_code 25 = .ok (.ireturn, 1) := by decide +kernel
theorem d_prog_47_method_2_code_10 : decode prog_47_method_2_code 10 = .ok (.aload_n 0, 1) := by decide +kernel
theorem d_prog_47_method_2_code_11 : decode prog_47_method_2_code 11 = .ok (.getfield 22, 3) := by decide +kernel
theorem d_prog_47_method_2_code_14 : decode prog_47_method_2_code 14 = .ok (.getstatic 24, 3) := by decide +kernel
theorem d_prog_47_method_2_code_17 : decode prog_47_method_2_code 17 = .ok (.if_acmp .ne 7, 3) := by decide +kernel
theorem d_prog_47_method_2_code_24 : decode prog_47_method_2_code 24 = .ok (.iconst 0, 1) := by decide +kernel
set_option maxRecDepth 65536 in
set_option maxHeartbeats 40000000 in
theorem rm5 (l : Launch) (Z : State) (a0 : Array Value) (hw : ∀ d ∈ tables_1, d.before a0 Z = true) (ws : List Jvm.Cond) (a1 : Addr) (q : Addr) (t : Addr) (aX : Addr) (h0 : Heap) (n0 : Nat) (Z0 : n0 ≤ h0.size) (F_qualification : Fld Z h0 a1 "com/example/forkline/forkline/schema/TimeToLive" "qualification" "Lcom/example/forkline/forkline/schema/KeptFor;" (.ref q)) (F_targeting : Fld Z h0 a1 "com/example/forkline/forkline/schema/TimeToLive" "targeting" "Lcom/example/forkline/forkline/schema/KeptFor;" (.ref t)) (S_EXPERIMENT : Sta Z h0 "com/example/forkline/forkline/schema/KeptFor" "EXPERIMENT" "Lcom/example/forkline/forkline/schema/KeptFor;" (.ref aX)) :
    MetFree l (⟨"com/example/forkline/forkline/schema/TimeToLive", "keepsForExperiment", "()Z"⟩ : MethodName) (head1 (Jvm.Cond.code (⟨"com/example/forkline/forkline/schema/TimeToLive", "keepsForExperiment", "()Z"⟩ : MethodName) prog_47_method_2_code 1 (some .boolean) :: ws) ({ frames := 0, cells := 0, slots := 0, locals := 0 } : Room)) (fun a U => a = #[(.ref a1)] ∧ Z.Warmed39 U.vm ∧ U.heap = h0) (fun _ _ _ _ _ => True) (fun _ U o U' => ∃ v L, o = .returned v ∧ Q5 Z a1 q t aX h0 n0 v U'.heap L ∧ FrameEnd U o U' L ({ frames := 0, cells := 0, slots := 0, locals := 0 } : Room).cells ({ frames := 0, cells := 0, slots := 0, locals := 0 } : Room).slots) := by
  refine MetFree.of_bodySF (plainFor_of_name pn_com_example_forkline_forkline_schema_TimeToLive) hisR ?_
  intro p e s m args below meth c s₁ Bd hml0 hP hK
  obtain ⟨rfl, hZ, hh⟩ := hP
  have hx := Bd.exec
  have hby := Bd.bytes
  have hml : c.maxLocals = 1 := hml0
  have hown : s.vm.findClass "com/example/forkline/forkline/schema/TimeToLive" = some m.cls := findClass_of_methodNamed Bd.named
  have hnm := (name_of_methodNamed Bd.named Bd.method).1
  have X0 : Stand p l e ({ frames := 0, cells := 0, slots := 0, locals := 0 } : Room) s m #[(.ref a1)] below meth c s₁ [] 0 0 := Stand.of_body Bd
  have e0 : s₁.heap = h0 := by rw [← hh, Bd.state]; rfl
  have N0 := Fr.nil n0
  have pre0 : ∀ tG, Steps p.tables e below (s₁.setTop (mkF m 0 #[.val (.ref a1)] [])) tG → Steps p.tables e below (s₁.setTop (entryFrame m #[(.ref a1)] 1)) tG := fun tG kG => castTop (ef_rm5 m a1) kG
  obtain ⟨T30, X30, e30, st30⟩ := getF X0 hx hZ hown (host := "") (Or.inl (hw _ (List.mem_of_getElem? (i := 35) rfl))) Via.refl e0 F_qualification (g := (mkF m 1 #[.val (.ref a1)] [(.ref a1)])) rfl rfl (hb hby d_prog_47_method_2_code_1)
  obtain ⟨T31, X31, e31, st31⟩ := getS2 X30 hx hZ hown (host := "") (Or.inl (hw _ (List.mem_of_getElem? (i := 44) rfl))) Via.refl e30 S_EXPERIMENT (g := (mkF m 4 #[.val (.ref a1)] [(.ref q)])) rfl (hb hby d_prog_47_method_2_code_4)
  have G32 : ∀ tG, Steps p.tables e below (T31.setTop (mkF m 7 #[.val (.ref a1)] [(.ref aX), (.ref q)])) tG → Steps p.tables e below (s₁.setTop (mkF m 0 #[.val (.ref a1)] [])) tG := by
    intro tG kG
    refine own_aloadN X0.here hx (hb hby d_prog_47_method_2_code_0) rfl rfl ?_
    refine st30 _ ?_
    show Steps p.tables e below (T30.setTop (mkF m 4 #[.val (.ref a1)] [(.ref q)])) _
    refine st31 _ ?_
    exact kG
  by_cases hc7 : q = aX
  · obtain ⟨fs, hr, hrun, hended, hW, hsame⟩ := X31.leave (v := some (.int 1)) (fun h => by rw [Bd.returns] at h; cases h)
    refine ⟨_, _, pre0 _ ?_, hrun, hended, _, _, rfl, ?_, ⟨_, rfl⟩, hW, hsame.mono (by decide) (by decide)⟩
    · refine G32 _ ?_
      refine Jvm.RoadKit.acmp (g := (mkF m 7 #[.val (.ref a1)] [(.ref aX), (.ref q)])) X31 hx rfl rfl rfl (pc0 := 7) (pc' := 20) (same := true) rfl (hb hby d_prog_47_method_2_code_7) rfl (decide_eq_true (congrArg Value.ref hc7)) (by decide) (by decide) ?_
      show Steps p.tables e below (T31.setTop (mkF m 20 #[.val (.ref a1)] [])) _
      refine own_iconst X31.here hx (1 : Int32) (hb hby d_prog_47_method_2_code_20) rfl ?_
      refine own_goto X31.here hx 21 25 rfl (hb hby d_prog_47_method_2_code_21) (by decide) (by decide) ?_
      exact retN X31 hx (t := .boolean) Bd.returns (by simp) (hb hby d_prog_47_method_2_code_25) hr
    · show Q5 Z a1 q t aX h0 n0 _ T31.heap _
      rw [e31]
      exact ⟨by simp only [own_keeps, if_pos hc7], N0, rfl⟩
  · obtain ⟨T33, X33, e33, st33⟩ := getF X31 hx hZ hown (host := "") (Or.inl (hw _ (List.mem_of_getElem? (i := 37) rfl))) Via.refl e31 F_targeting (g := (mkF m 11 #[.val (.ref a1)] [(.ref a1)])) rfl rfl (hb hby d_prog_47_method_2_code_11)
    obtain ⟨T34, X34, e34, st34⟩ := getS2 X33 hx hZ hown (host := "") (Or.inl (hw _ (List.mem_of_getElem? (i := 44) rfl))) Via.refl e33 S_EXPERIMENT (g := (mkF m 14 #[.val (.ref a1)] [(.ref t)])) rfl (hb hby d_prog_47_method_2_code_14)
    have G35 : ∀ tG, Steps p.tables e below (T34.setTop (mkF m 17 #[.val (.ref a1)] [(.ref aX), (.ref t)])) tG → Steps p.tables e below (s₁.setTop (mkF m 0 #[.val (.ref a1)] [])) tG := by
      intro tG kG
      refine G32 _ ?_
      refine Jvm.RoadKit.acmp (g := (mkF m 7 #[.val (.ref a1)] [(.ref aX), (.ref q)])) X31 hx rfl rfl rfl (pc0 := 7) (pc' := 10) (same := false) rfl (hb hby d_prog_47_method_2_code_7) rfl (decide_eq_false fun q => hc7 (Value.ref.inj q)) (by decide) (by decide) ?_
      show Steps p.tables e below (T31.setTop (mkF m 10 #[.val (.ref a1)] [])) _
      refine own_aloadN X31.here hx (hb hby d_prog_47_method_2_code_10) rfl rfl ?_
      refine st33 _ ?_
      show Steps p.tables e below (T33.setTop (mkF m 14 #[.val (.ref a1)] [(.ref t)])) _
      refine st34 _ ?_
      exact kG
    by_cases hc17 : t = aX
    · obtain ⟨fs, hr, hrun, hended, hW, hsame⟩ := X34.leave (v := some (.int 1)) (fun h => by rw [Bd.returns] at h; cases h)
      refine ⟨_, _, pre0 _ ?_, hrun, hended, _, _, rfl, ?_, ⟨_, rfl⟩, hW, hsame.mono (by decide) (by decide)⟩
      · refine G35 _ ?_
        refine Jvm.RoadKit.acmp (g := (mkF m 17 #[.val (.ref a1)] [(.ref aX), (.ref t)])) X34 hx rfl rfl rfl (pc0 := 17) (pc' := 20) (same := true) rfl (hb hby d_prog_47_method_2_code_17) rfl (decide_eq_true (congrArg Value.ref hc17)) (by decide) (by decide) ?_
        show Steps p.tables e below (T34.setTop (mkF m 20 #[.val (.ref a1)] [])) _
        refine own_iconst X34.here hx (1 : Int32) (hb hby d_prog_47_method_2_code_20) rfl ?_
        refine own_goto X34.here hx 21 25 rfl (hb hby d_prog_47_method_2_code_21) (by decide) (by decide) ?_
        exact retN X34 hx (t := .boolean) Bd.returns (by simp) (hb hby d_prog_47_method_2_code_25) hr
      · show Q5 Z a1 q t aX h0 n0 _ T34.heap _
        rw [e34]
        exact ⟨by simp only [own_keeps, if_neg hc7, if_pos hc17], N0, rfl⟩
    · obtain ⟨fs, hr, hrun, hended, hW, hsame⟩ := X34.leave (v := some (.int 0)) (fun h => by rw [Bd.returns] at h; cases h)
      refine ⟨_, _, pre0 _ ?_, hrun, hended, _, _, rfl, ?_, ⟨_, rfl⟩, hW, hsame.mono (by decide) (by decide)⟩
      · refine G35 _ ?_
        refine Jvm.RoadKit.acmp (g := (mkF m 17 #[.val (.ref a1)] [(.ref aX), (.ref t)])) X34 hx rfl rfl rfl (pc0 := 17) (pc' := 24) (same := false) rfl (hb hby d_prog_47_method_2_code_17) rfl (decide_eq_false fun q => hc17 (Value.ref.inj q)) (by decide) (by decide) ?_
        show Steps p.tables e below (T34.setTop (mkF m 24 #[.val (.ref a1)] [])) _
        refine own_iconst X34.here hx (0 : Int32) (hb hby d_prog_47_method_2_code_24) rfl ?_
        exact retN X34 hx (t := .boolean) Bd.returns (by simp) (hb hby d_prog_47_method_2_code_25) hr
      · show Q5 Z a1 q t aX h0 n0 _ T34.heap _
        rw [e34]
        exact ⟨by simp only [own_keeps, if_neg hc7, if_neg hc17], N0, rfl⟩
theorem ef_rm0 (m : MethodId) (x0 : Int32) (x1 : Int32) : entryFrame m #[(.int x0), (.int x1)] maxLocals = mkF m 0 #[.val (.int x0), .val (.int x1), .unset, .unset, .unset, .unset, .unset, .unset, .unset] [] := by first | (simp [entryFrame, mkF, argsToLocals, Value.category, maxLocals]; done) | rfl
def Q0 (Z : State) (p0 : Int32) (p1 : Int32) (aS : Addr) (aE : Addr) (aX : Addr) (h0 : Heap) (n0 : Nat) (v : Option Value) (h : Heap) (L : List Loc) : Prop := v = some (.int (1 : Int32)) ∧ Fr n0 L
theorem pd_28I29Lcom2fexample2fforkline2fforkline2fschema2fKeptFor3b : parseMethodDescriptor "(I)Lcom/example/forkline/forkline/schema/KeptFor;" = some ⟨[.int], some (.object "com/example/forkline/forkline/schema/KeptFor")⟩ := by decide +kernel
theorem pd_28Lcom2fexample2fforkline2fforkline2fschema2fKeptFor3bLcom2fexample2fforkline2fforkline2fschema2fKeptFor3b29V : parseMethodDescriptor "(Lcom/example/forkline/forkline/schema/KeptFor;Lcom/example/forkline/forkline/schema/KeptFor;)V" = some ⟨[(.object "com/example/forkline/forkline/schema/KeptFor"), (.object "com/example/forkline/forkline/schema/KeptFor")], none⟩ := by decide +kernel
theorem pd_2829Z : parseMethodDescriptor "()Z" = some ⟨[], some .boolean⟩ := by decide +kernel
set_option maxRecDepth 65536 in
set_option maxHeartbeats 40000000 in
theorem rm0 (l : Launch) (Z : State) (a0 : Array Value) (hw : ∀ d ∈ tables_1, d.before a0 Z = true) (ws : List Jvm.Cond) (p0 : Int32) (p1 : Int32) (aS : Addr) (aE : Addr) (aX : Addr) (h0 : Heap) (n0 : Nat) (Z0 : n0 ≤ h0.size) (S_STATE : Sta Z h0 "com/example/forkline/forkline/schema/KeptFor" "STATE" "Lcom/example/forkline/forkline/schema/KeptFor;" (.ref aS)) (S_SESSION : Sta Z h0 "com/example/forkline/forkline/schema/KeptFor" "SESSION" "Lcom/example/forkline/forkline/schema/KeptFor;" (.ref aE)) (S_EXPERIMENT : Sta Z h0 "com/example/forkline/forkline/schema/KeptFor" "EXPERIMENT" "Lcom/example/forkline/forkline/schema/KeptFor;" (.ref aX)) (d1 : aS ≠ aX) (d2 : aE ≠ aX) :
    MetFree l x (head1 (Jvm.Cond.code x code maxLocals ret :: ws) room_1) (fun a U => a = #[(.int p0), (.int p1)] ∧ Z.Warmed39 U.vm ∧ U.heap = h0 ∧ U = Z) (fun _ _ _ _ _ => True) (fun _ U o U' => ∃ v L, o = .returned v ∧ Q0 Z p0 p1 aS aE aX h0 n0 v U'.heap L ∧ ReturnedEndW U o U' L 16 2176) := by
  refine MetFree.of_bodySF (plainFor_of_name pn_com_example_forkline_forkline_schema_TimeToLiveKeepsForExperimentPinLaw) hisR ?_
  intro p e s m args below meth c s₁ Bd hml0 hP hK
  obtain ⟨rfl, hZ, hh, hU⟩ := hP
  have hx := Bd.exec
  have hby := Bd.bytes
  have hml : c.maxLocals = 9 := hml0
  have hown : s.vm.findClass "com/example/forkline/forkline/schema/TimeToLiveKeepsForExperimentPinLaw" = some m.cls := findClass_of_methodNamed Bd.named
  have hnm := (name_of_methodNamed Bd.named Bd.method).1
  have X0 : Stand p l e room_1 s m #[(.int p0), (.int p1)] below meth c s₁ [] 0 0 := Stand.of_body Bd
  have e0 : s₁.heap = h0 := by rw [← hh, Bd.state]; rfl
  have N0 := Fr.nil n0
  have pre0 : ∀ tG, Steps p.tables e below (s₁.setTop (mkF m 0 #[.val (.int p0), .val (.int p1), .unset, .unset, .unset, .unset, .unset, .unset, .unset] [])) tG → Steps p.tables e below (s₁.setTop (entryFrame m #[(.int p0), (.int p1)] maxLocals)) tG := fun tG kG => castTop (ef_rm0 m p0 p1) kG
  have hS0 : s.Since s.vm 0 := (State.WarmedH.refl s).since 0
  have hk0 : 0 ≤ h0.size := Nat.zero_le _
  have G36 : ∀ tG, Steps p.tables e below (s₁.setTop (mkF m 19 #[.val (.int p0), .val (.int p1), .val (.int (own_rem (p0 &&& (2147483647 : Int32)) (3 : Int32))), .val (.int (own_rem (p1 &&& (2147483647 : Int32)) (3 : Int32))), .val (.int 0), .unset, .unset, .unset, .unset] [(.int 2), (.int (own_rem (p0 &&& (2147483647 : Int32)) (3 : Int32)))])) tG → Steps p.tables e below (s₁.setTop (mkF m 0 #[.val (.int p0), .val (.int p1), .unset, .unset, .unset, .unset, .unset, .unset, .unset] [])) tG := by
    intro tG kG
    refine own_iloadN X0.here hx (hb hby at_0) rfl ?_
    refine X0.ldcInt hx hown (mvT hZ (hw _ (List.mem_of_getElem? (i := 0) rfl))) (g := (mkF m 1 #[.val (.int p0), .val (.int p1), .unset, .unset, .unset, .unset, .unset, .unset, .unset] [(.int p0)])) rfl (hb hby at_1) _ ?_
    show Steps p.tables e below (s₁.setTop (mkF m 3 #[.val (.int p0), .val (.int p1), .unset, .unset, .unset, .unset, .unset, .unset, .unset] [(.int 2147483647), (.int p0)])) _
    refine own_iand X0.here hx (hb hby at_3) ?_
    refine own_iconst X0.here hx (3 : Int32) (hb hby at_4) rfl ?_
    refine own_irem X0.here hx (hb hby at_5) (by decide) ?_
    refine own_istoreN X0.here hx (hb hby at_6) (l' := #[.val (.int p0), .val (.int p1), .val (.int (own_rem (p0 &&& (2147483647 : Int32)) (3 : Int32))), .unset, .unset, .unset, .unset, .unset, .unset]) rfl ?_
    refine own_iloadN X0.here hx (hb hby at_7) rfl ?_
    refine X0.ldcInt hx hown (mvT hZ (hw _ (List.mem_of_getElem? (i := 0) rfl))) (g := (mkF m 8 #[.val (.int p0), .val (.int p1), .val (.int (own_rem (p0 &&& (2147483647 : Int32)) (3 : Int32))), .unset, .unset, .unset, .unset, .unset, .unset] [(.int p1)])) rfl (hb hby at_8) _ ?_
    show Steps p.tables e below (s₁.setTop (mkF m 10 #[.val (.int p0), .val (.int p1), .val (.int (own_rem (p0 &&& (2147483647 : Int32)) (3 : Int32))), .unset, .unset, .unset, .unset, .unset, .unset] [(.int 2147483647), (.int p1)])) _
    refine own_iand X0.here hx (hb hby at_10) ?_
    refine own_iconst X0.here hx (3 : Int32) (hb hby at_11) rfl ?_
    refine own_irem X0.here hx (hb hby at_12) (by decide) ?_
    refine own_istoreN X0.here hx (hb hby at_13) (l' := #[.val (.int p0), .val (.int p1), .val (.int (own_rem (p0 &&& (2147483647 : Int32)) (3 : Int32))), .val (.int (own_rem (p1 &&& (2147483647 : Int32)) (3 : Int32))), .unset, .unset, .unset, .unset, .unset]) rfl ?_
    refine own_iconst X0.here hx (0 : Int32) (hb hby at_14) rfl ?_
    refine own_istore X0.here hx (hb hby at_15) (l' := #[.val (.int p0), .val (.int p1), .val (.int (own_rem (p0 &&& (2147483647 : Int32)) (3 : Int32))), .val (.int (own_rem (p1 &&& (2147483647 : Int32)) (3 : Int32))), .val (.int 0), .unset, .unset, .unset, .unset]) rfl ?_
    refine own_iloadN X0.here hx (hb hby at_17) rfl ?_
    refine own_iconst X0.here hx (2 : Int32) (hb hby at_18) rfl ?_
    exact kG
  by_cases hc19 : (own_rem (p0 &&& (2147483647 : Int32)) (3 : Int32)) = (2 : Int32)
  · have G37 : ∀ tG, Steps p.tables e below (s₁.setTop (mkF m 27 #[.val (.int p0), .val (.int p1), .val (.int (own_rem (p0 &&& (2147483647 : Int32)) (3 : Int32))), .val (.int (own_rem (p1 &&& (2147483647 : Int32)) (3 : Int32))), .val (.int 1), .unset, .unset, .unset, .unset] [(.int 2), (.int (own_rem (p1 &&& (2147483647 : Int32)) (3 : Int32)))])) tG → Steps p.tables e below (s₁.setTop (mkF m 0 #[.val (.int p0), .val (.int p1), .unset, .unset, .unset, .unset, .unset, .unset, .unset] [])) tG := by
      intro tG kG
      refine G36 _ ?_
      refine own_icmpNo X0.here hx (hb hby at_19) (teq hc19).2 ?_
      refine own_iconst X0.here hx (1 : Int32) (hb hby at_22) rfl ?_
      refine own_istore X0.here hx (hb hby at_23) (l' := #[.val (.int p0), .val (.int p1), .val (.int (own_rem (p0 &&& (2147483647 : Int32)) (3 : Int32))), .val (.int (own_rem (p1 &&& (2147483647 : Int32)) (3 : Int32))), .val (.int 1), .unset, .unset, .unset, .unset]) rfl ?_
      refine own_iloadN X0.here hx (hb hby at_25) rfl ?_
      refine own_iconst X0.here hx (2 : Int32) (hb hby at_26) rfl ?_
      exact kG
    by_cases hc27 : (own_rem (p1 &&& (2147483647 : Int32)) (3 : Int32)) = (2 : Int32)
    · obtain ⟨T38, h38, X38, e38, E38, A38, D38, -, st38⟩ := newO X0 hx hZ hown (hw _ (List.mem_of_getElem? (i := 1) rfl)) (hw _ (List.mem_of_getElem? (i := 2) rfl)) (hw _ (List.mem_of_getElem? (i := 3) rfl)) e0 (g := (mkF m 33 #[.val (.int p0), .val (.int p1), .val (.int (own_rem (p0 &&& (2147483647 : Int32)) (3 : Int32))), .val (.int (own_rem (p1 &&& (2147483647 : Int32)) (3 : Int32))), .val (.int 1), .unset, .unset, .unset, .unset] [])) rfl (hb hby at_33) (by decide) (by decide)
      obtain ⟨b38, g38⟩ : ∃ z, z = h0.size := ⟨_, rfl⟩
      rw [← g38] at A38 D38 st38
      have E38' := E38
      have gg38 : n0 ≤ b38 := Nat.le_trans Z0 (Nat.le_of_eq g38.symm)
      have Z38 : n0 ≤ h38.size := Nat.le_trans Z0 E38.1
      have hk38 := Nat.le_trans hk0 E38.1
      have f39 : Sta Z h38 "com/example/forkline/forkline/schema/KeptFor" "STATE" "Lcom/example/forkline/forkline/schema/KeptFor;" (.ref aS) := S_STATE.ext E38
      have f40 : Sta Z h38 "com/example/forkline/forkline/schema/KeptFor" "SESSION" "Lcom/example/forkline/forkline/schema/KeptFor;" (.ref aE) := S_SESSION.ext E38
      have f41 : Sta Z h38 "com/example/forkline/forkline/schema/KeptFor" "EXPERIMENT" "Lcom/example/forkline/forkline/schema/KeptFor;" (.ref aX) := S_EXPERIMENT.ext E38
      have f42 : Fld Z h38 b38 "com/example/forkline/forkline/schema/TimeToLive" "qualification" "Lcom/example/forkline/forkline/schema/KeptFor;" .null := D38 (Or.inr (hw _ (List.mem_of_getElem? (i := 36) rfl))) (ty := (.object "com/example/forkline/forkline/schema/KeptFor")) (by decide)
      have f43 : Fld Z h38 b38 "com/example/forkline/forkline/schema/TimeToLive" "targeting" "Lcom/example/forkline/forkline/schema/KeptFor;" .null := D38 (Or.inr (hw _ (List.mem_of_getElem? (i := 38) rfl))) (ty := (.object "com/example/forkline/forkline/schema/KeptFor")) (by decide)
      obtain ⟨_, _, ⟨T44, L44, k44, n44⟩, -, X44, ⟨Lc44, hQ44, l44, y44, z44⟩, st44⟩ := Jvm.LawKit.callS X38 hx (y := (⟨"com/example/forkline/forkline/schema/TimeToLiveKeepsForExperimentPinLaw", "pick", "(I)Lcom/example/forkline/forkline/schema/KeptFor;"⟩ : MethodName)) hown (mvT hZ (hw _ (List.mem_of_getElem? (i := 4) rfl))) (mvT hZ (hw _ (List.mem_of_getElem? (i := 5) rfl))) (mvT hZ (hw _ (List.mem_of_getElem? (i := 6) rfl))) (mvT hZ (hw _ (List.mem_of_getElem? (i := 7) rfl))) (by decide) (backOf (W := 2) (rm1 l Z a0 hw [] (own_rem (p0 &&& (2147483647 : Int32)) (3 : Int32)) aS aE aX h38 n0 Z38 f39 f40 f41) hZ (hw _ (List.mem_of_getElem? (i := 7) rfl)) (hw _ (List.mem_of_getElem? (i := 6) rfl)) (by decide) (by decide)) (g := (mkF m 38 #[.val (.int p0), .val (.int p1), .val (.int (own_rem (p0 &&& (2147483647 : Int32)) (3 : Int32))), .val (.int (own_rem (p1 &&& (2147483647 : Int32)) (3 : Int32))), .val (.int 1), .unset, .unset, .unset, .unset] [(.int (own_rem (p0 &&& (2147483647 : Int32)) (3 : Int32))), (.ref b38), (.ref b38)])) rfl (by rw [hml]; rfl) (argsL := [(.int (own_rem (p0 &&& (2147483647 : Int32)) (3 : Int32)))]) (rest := [(.ref b38), (.ref b38)]) (lenOf pd_28I29Lcom2fexample2fforkline2fforkline2fschema2fKeptFor3b rfl) rfl (by show 2 * 0 + _ ≤ _; exact Nat.le_of_eq rfl) (hb hby at_38) (fun _ _ => ⟨rfl, e38, (by decide : 1 + 0 ≤ _), (by decide : 2 + 0 ≤ _)⟩)
      dsimp only [Pt.U, Pt.locs, Pt.cells, Pt.slots] at X44 l44 y44 z44 st44 hQ44
      subst l44 y44 z44
      obtain ⟨rfl, N44q, e44⟩ := hQ44
      have N44 := Fr.app N0 N44q
      obtain ⟨_, _, ⟨T45, L45, k45, n45⟩, -, X45, ⟨Lc45, hQ45, l45, y45, z45⟩, st45⟩ := Jvm.LawKit.callS X44 hx (y := (⟨"com/example/forkline/forkline/schema/TimeToLiveKeepsForExperimentPinLaw", "pick", "(I)Lcom/example/forkline/forkline/schema/KeptFor;"⟩ : MethodName)) hown (mvT hZ (hw _ (List.mem_of_getElem? (i := 4) rfl))) (mvT hZ (hw _ (List.mem_of_getElem? (i := 5) rfl))) (mvT hZ (hw _ (List.mem_of_getElem? (i := 6) rfl))) (mvT hZ (hw _ (List.mem_of_getElem? (i := 7) rfl))) (by decide) (backOf (W := 3) (rm1 l Z a0 hw [] (own_rem (p1 &&& (2147483647 : Int32)) (3 : Int32)) aS aE aX h38 n0 Z38 f39 f40 f41) hZ (hw _ (List.mem_of_getElem? (i := 7) rfl)) (hw _ (List.mem_of_getElem? (i := 6) rfl)) (by decide) (by decide)) (g := (mkF m 42 #[.val (.int p0), .val (.int p1), .val (.int (own_rem (p0 &&& (2147483647 : Int32)) (3 : Int32))), .val (.int (own_rem (p1 &&& (2147483647 : Int32)) (3 : Int32))), .val (.int 1), .unset, .unset, .unset, .unset] [(.int (own_rem (p1 &&& (2147483647 : Int32)) (3 : Int32))), (.ref (own_pk aS aE aX (own_rem (p0 &&& (2147483647 : Int32)) (3 : Int32)))), (.ref b38), (.ref b38)])) rfl (by rw [hml]; rfl) (argsL := [(.int (own_rem (p1 &&& (2147483647 : Int32)) (3 : Int32)))]) (rest := [(.ref (own_pk aS aE aX (own_rem (p0 &&& (2147483647 : Int32)) (3 : Int32)))), (.ref b38), (.ref b38)]) (lenOf pd_28I29Lcom2fexample2fforkline2fforkline2fschema2fKeptFor3b rfl) rfl (by show 2 * 0 + _ ≤ _; exact Nat.le_of_eq rfl) (hb hby at_42) (fun _ _ => ⟨rfl, e44, (by decide : 1 + 0 ≤ _), (by decide : 2 + 0 ≤ _)⟩)
      dsimp only [Pt.U, Pt.locs, Pt.cells, Pt.slots] at X45 l45 y45 z45 st45 hQ45
      subst l45 y45 z45
      obtain ⟨rfl, N45q, e45⟩ := hQ45
      have N45 := Fr.app N44 N45q
      have G47 : ∀ tG, Steps p.tables e below (T45.setTop (mkF m 45 #[.val (.int p0), .val (.int p1), .val (.int (own_rem (p0 &&& (2147483647 : Int32)) (3 : Int32))), .val (.int (own_rem (p1 &&& (2147483647 : Int32)) (3 : Int32))), .val (.int 1), .unset, .unset, .unset, .unset] [(.ref (own_pk aS aE aX (own_rem (p1 &&& (2147483647 : Int32)) (3 : Int32)))), (.ref (own_pk aS aE aX (own_rem (p0 &&& (2147483647 : Int32)) (3 : Int32)))), (.ref b38), (.ref b38)])) tG → Steps p.tables e below (s₁.setTop (mkF m 0 #[.val (.int p0), .val (.int p1), .unset, .unset, .unset, .unset, .unset, .unset, .unset] [])) tG := by
        intro tG kG
        refine G37 _ ?_
        refine own_icmpNo X0.here hx (hb hby at_27) (teq hc27).2 ?_
        refine own_iconst X0.here hx (1 : Int32) (hb hby at_30) rfl ?_
        refine own_istore X0.here hx (hb hby at_31) (l' := #[.val (.int p0), .val (.int p1), .val (.int (own_rem (p0 &&& (2147483647 : Int32)) (3 : Int32))), .val (.int (own_rem (p1 &&& (2147483647 : Int32)) (3 : Int32))), .val (.int 1), .unset, .unset, .unset, .unset]) rfl ?_
        refine st38 _ ?_
        show Steps p.tables e below (T38.setTop (mkF m 36 #[.val (.int p0), .val (.int p1), .val (.int (own_rem (p0 &&& (2147483647 : Int32)) (3 : Int32))), .val (.int (own_rem (p1 &&& (2147483647 : Int32)) (3 : Int32))), .val (.int 1), .unset, .unset, .unset, .unset] [(.ref b38)])) _
        refine own_dup X38.here hx (hb hby at_36) rfl ?_
        refine own_iloadN X38.here hx (hb hby at_37) rfl ?_
        refine st44 _ ?_
        show Steps p.tables e below (T44.setTop (mkF m 41 #[.val (.int p0), .val (.int p1), .val (.int (own_rem (p0 &&& (2147483647 : Int32)) (3 : Int32))), .val (.int (own_rem (p1 &&& (2147483647 : Int32)) (3 : Int32))), .val (.int 1), .unset, .unset, .unset, .unset] [(.ref (own_pk aS aE aX (own_rem (p0 &&& (2147483647 : Int32)) (3 : Int32)))), (.ref b38), (.ref b38)])) _
        refine own_iloadN X44.here hx (hb hby at_41) rfl ?_
        refine st45 _ ?_
        exact kG
      obtain ⟨_, _, ⟨T46, L46, k46, n46⟩, -, X46, hS46', hg46', ⟨Lc46, hQ46, l46, y46, z46⟩, st46⟩ := X45.specialBackS hx (y := (⟨"com/example/forkline/forkline/schema/TimeToLive", "<init>", "(Lcom/example/forkline/forkline/schema/KeptFor;Lcom/example/forkline/forkline/schema/KeptFor;)V"⟩ : MethodName)) rfl hown (mvT hZ (hw _ (List.mem_of_getElem? (i := 11) rfl))) (mvT hZ (hw _ (List.mem_of_getElem? (i := 12) rfl))) (mvT hZ (hw _ (List.mem_of_getElem? (i := 13) rfl))) (by decide) (backOfS (W := 1) (rm4 l Z a0 hw [] b38 (own_pk aS aE aX (own_rem (p0 &&& (2147483647 : Int32)) (3 : Int32))) (own_pk aS aE aX (own_rem (p1 &&& (2147483647 : Int32)) (3 : Int32))) h38 n0 Z38 A38 gg38 f42 f43) hZ (hw _ (List.mem_of_getElem? (i := 13) rfl)) (hw _ (List.mem_of_getElem? (i := 3) rfl)) (by decide) (by decide)) (g := (mkF m 45 #[.val (.int p0), .val (.int p1), .val (.int (own_rem (p0 &&& (2147483647 : Int32)) (3 : Int32))), .val (.int (own_rem (p1 &&& (2147483647 : Int32)) (3 : Int32))), .val (.int 1), .unset, .unset, .unset, .unset] [(.ref (own_pk aS aE aX (own_rem (p1 &&& (2147483647 : Int32)) (3 : Int32)))), (.ref (own_pk aS aE aX (own_rem (p0 &&& (2147483647 : Int32)) (3 : Int32)))), (.ref b38), (.ref b38)])) rfl (by rw [hml]; rfl) (Steps.refl _) (a := b38) (argsL := [(.ref (own_pk aS aE aX (own_rem (p0 &&& (2147483647 : Int32)) (3 : Int32)))), (.ref (own_pk aS aE aX (own_rem (p1 &&& (2147483647 : Int32)) (3 : Int32))))]) (rest := [(.ref b38)]) (lenOf pd_28Lcom2fexample2fforkline2fforkline2fschema2fKeptFor3bLcom2fexample2fforkline2fforkline2fschema2fKeptFor3b29V rfl) rfl (by show 2 * 0 + _ ≤ _; exact Nat.le_of_eq rfl) (hb hby at_45) (fun _ _ => ⟨rfl, e45, (by decide : 1 + 4 ≤ _), (by decide : 2 + 96 ≤ _)⟩)
      dsimp only [Pt.U, Pt.locs, Pt.cells, Pt.slots] at X46 l46 y46 z46 st46 hQ46 hS46' hg46'
      subst l46 y46 z46
      obtain ⟨X46, hS46, hZ, hown⟩ := rebS (s := s) (vm0 := s.vm) hS0 (by rw [e45]; exact hk38) X46 hS46' hg46' hZ hown
      have hk46 := Nat.le_refl T46.heap.size
      obtain ⟨rfl, N46q, K46, E46x, F46x, F46y⟩ := hQ46
      have N46 := Fr.app N45 N46q
      have Z46 : n0 ≤ T46.heap.size := Nat.le_trans Z38 K46.1
      have f48 : Sta Z T46.heap "com/example/forkline/forkline/schema/KeptFor" "STATE" "Lcom/example/forkline/forkline/schema/KeptFor;" (.ref aS) := own_sta_keep f39 K46 A38
      have f49 : Sta Z T46.heap "com/example/forkline/forkline/schema/KeptFor" "SESSION" "Lcom/example/forkline/forkline/schema/KeptFor;" (.ref aE) := own_sta_keep f40 K46 A38
      have f50 : Sta Z T46.heap "com/example/forkline/forkline/schema/KeptFor" "EXPERIMENT" "Lcom/example/forkline/forkline/schema/KeptFor;" (.ref aX) := own_sta_keep f41 K46 A38
      have f51 : Exa Z T46.heap b38 "com/example/forkline/forkline/schema/TimeToLive" := A38.keep K46
      obtain ⟨T54, h54, X54, e54, E54, A54, D54, -, st54⟩ := newO X46 hx hZ hown (hw _ (List.mem_of_getElem? (i := 1) rfl)) (hw _ (List.mem_of_getElem? (i := 2) rfl)) (hw _ (List.mem_of_getElem? (i := 3) rfl)) rfl (g := (mkF m 50 #[.val (.int p0), .val (.int p1), .val (.int (own_rem (p0 &&& (2147483647 : Int32)) (3 : Int32))), .val (.int (own_rem (p1 &&& (2147483647 : Int32)) (3 : Int32))), .val (.int 1), .val (.ref b38), .unset, .unset, .unset] [])) rfl (hb hby at_50) (by decide) (by decide)
      obtain ⟨b54, g54⟩ : ∃ z, z = T46.heap.size := ⟨_, rfl⟩
      rw [← g54] at A54 D54 st54
      have E54' := E54
      have gg54 : n0 ≤ b54 := Nat.le_trans Z46 (Nat.le_of_eq g54.symm)
      have ne55 : b38 ≠ b54 := Nat.ne_of_lt (Nat.lt_of_lt_of_le E46x.lt (Nat.le_of_eq g54.symm))
      have Z54 : n0 ≤ h54.size := Nat.le_trans Z46 E54.1
      have hk54 := Nat.le_trans hk46 E54.1
      have f56 : Sta Z h54 "com/example/forkline/forkline/schema/KeptFor" "STATE" "Lcom/example/forkline/forkline/schema/KeptFor;" (.ref aS) := f48.ext E54
      have f57 : Sta Z h54 "com/example/forkline/forkline/schema/KeptFor" "SESSION" "Lcom/example/forkline/forkline/schema/KeptFor;" (.ref aE) := f49.ext E54
      have f58 : Sta Z h54 "com/example/forkline/forkline/schema/KeptFor" "EXPERIMENT" "Lcom/example/forkline/forkline/schema/KeptFor;" (.ref aX) := f50.ext E54
      have f59 : Exa Z h54 b38 "com/example/forkline/forkline/schema/TimeToLive" := E46x.ext E54
      have f60 : Fld Z h54 b38 "com/example/forkline/forkline/schema/TimeToLive" "qualification" "Lcom/example/forkline/forkline/schema/KeptFor;" (.ref (own_pk aS aE aX (own_rem (p0 &&& (2147483647 : Int32)) (3 : Int32)))) := F46x.ext E54
      have f61 : Fld Z h54 b38 "com/example/forkline/forkline/schema/TimeToLive" "targeting" "Lcom/example/forkline/forkline/schema/KeptFor;" (.ref (own_pk aS aE aX (own_rem (p1 &&& (2147483647 : Int32)) (3 : Int32)))) := F46y.ext E54
      have f62 : Fld Z h54 b54 "com/example/forkline/forkline/schema/TimeToLive" "qualification" "Lcom/example/forkline/forkline/schema/KeptFor;" .null := D54 (Or.inr (hw _ (List.mem_of_getElem? (i := 36) rfl))) (ty := (.object "com/example/forkline/forkline/schema/KeptFor")) (by decide)
      have f63 : Fld Z h54 b54 "com/example/forkline/forkline/schema/TimeToLive" "targeting" "Lcom/example/forkline/forkline/schema/KeptFor;" .null := D54 (Or.inr (hw _ (List.mem_of_getElem? (i := 38) rfl))) (ty := (.object "com/example/forkline/forkline/schema/KeptFor")) (by decide)
      obtain ⟨_, _, ⟨T64, L64, k64, n64⟩, -, X64, ⟨Lc64, hQ64, l64, y64, z64⟩, st64⟩ := Jvm.LawKit.callS X54 hx (y := (⟨"com/example/forkline/forkline/schema/TimeToLiveKeepsForExperimentPinLaw", "pick", "(I)Lcom/example/forkline/forkline/schema/KeptFor;"⟩ : MethodName)) hown (mvT hZ (hw _ (List.mem_of_getElem? (i := 4) rfl))) (mvT hZ (hw _ (List.mem_of_getElem? (i := 5) rfl))) (mvT hZ (hw _ (List.mem_of_getElem? (i := 6) rfl))) (mvT hZ (hw _ (List.mem_of_getElem? (i := 7) rfl))) (by decide) (backOf (W := 2) (rm1 l Z a0 hw [] (own_rem (p1 &&& (2147483647 : Int32)) (3 : Int32)) aS aE aX h54 n0 Z54 f56 f57 f58) hZ (hw _ (List.mem_of_getElem? (i := 7) rfl)) (hw _ (List.mem_of_getElem? (i := 6) rfl)) (by decide) (by decide)) (g := (mkF m 55 #[.val (.int p0), .val (.int p1), .val (.int (own_rem (p0 &&& (2147483647 : Int32)) (3 : Int32))), .val (.int (own_rem (p1 &&& (2147483647 : Int32)) (3 : Int32))), .val (.int 1), .val (.ref b38), .unset, .unset, .unset] [(.int (own_rem (p1 &&& (2147483647 : Int32)) (3 : Int32))), (.ref b54), (.ref b54)])) rfl (by rw [hml]; rfl) (argsL := [(.int (own_rem (p1 &&& (2147483647 : Int32)) (3 : Int32)))]) (rest := [(.ref b54), (.ref b54)]) (lenOf pd_28I29Lcom2fexample2fforkline2fforkline2fschema2fKeptFor3b rfl) rfl (by show 2 * 0 + _ ≤ _; exact Nat.le_of_eq rfl) (hb hby at_55) (fun _ _ => ⟨rfl, e54, (by decide : 6 + 0 ≤ _), (by decide : 100 + 0 ≤ _)⟩)
      dsimp only [Pt.U, Pt.locs, Pt.cells, Pt.slots] at X64 l64 y64 z64 st64 hQ64
      subst l64 y64 z64
      obtain ⟨rfl, N64q, e64⟩ := hQ64
      have N64 := Fr.app N46 N64q
      obtain ⟨_, _, ⟨T65, L65, k65, n65⟩, -, X65, ⟨Lc65, hQ65, l65, y65, z65⟩, st65⟩ := Jvm.LawKit.callS X64 hx (y := (⟨"com/example/forkline/forkline/schema/TimeToLiveKeepsForExperimentPinLaw", "pick", "(I)Lcom/example/forkline/forkline/schema/KeptFor;"⟩ : MethodName)) hown (mvT hZ (hw _ (List.mem_of_getElem? (i := 4) rfl))) (mvT hZ (hw _ (List.mem_of_getElem? (i := 5) rfl))) (mvT hZ (hw _ (List.mem_of_getElem? (i := 6) rfl))) (mvT hZ (hw _ (List.mem_of_getElem? (i := 7) rfl))) (by decide) (backOf (W := 3) (rm1 l Z a0 hw [] (own_rem (p0 &&& (2147483647 : Int32)) (3 : Int32)) aS aE aX h54 n0 Z54 f56 f57 f58) hZ (hw _ (List.mem_of_getElem? (i := 7) rfl)) (hw _ (List.mem_of_getElem? (i := 6) rfl)) (by decide) (by decide)) (g := (mkF m 59 #[.val (.int p0), .val (.int p1), .val (.int (own_rem (p0 &&& (2147483647 : Int32)) (3 : Int32))), .val (.int (own_rem (p1 &&& (2147483647 : Int32)) (3 : Int32))), .val (.int 1), .val (.ref b38), .unset, .unset, .unset] [(.int (own_rem (p0 &&& (2147483647 : Int32)) (3 : Int32))), (.ref (own_pk aS aE aX (own_rem (p1 &&& (2147483647 : Int32)) (3 : Int32)))), (.ref b54), (.ref b54)])) rfl (by rw [hml]; rfl) (argsL := [(.int (own_rem (p0 &&& (2147483647 : Int32)) (3 : Int32)))]) (rest := [(.ref (own_pk aS aE aX (own_rem (p1 &&& (2147483647 : Int32)) (3 : Int32)))), (.ref b54), (.ref b54)]) (lenOf pd_28I29Lcom2fexample2fforkline2fforkline2fschema2fKeptFor3b rfl) rfl (by show 2 * 0 + _ ≤ _; exact Nat.le_of_eq rfl) (hb hby at_59) (fun _ _ => ⟨rfl, e64, (by decide : 6 + 0 ≤ _), (by decide : 100 + 0 ≤ _)⟩)
      dsimp only [Pt.U, Pt.locs, Pt.cells, Pt.slots] at X65 l65 y65 z65 st65 hQ65
      subst l65 y65 z65
      obtain ⟨rfl, N65q, e65⟩ := hQ65
      have N65 := Fr.app N64 N65q
      have G67 : ∀ tG, Steps p.tables e below (T65.setTop (mkF m 62 #[.val (.int p0), .val (.int p1), .val (.int (own_rem (p0 &&& (2147483647 : Int32)) (3 : Int32))), .val (.int (own_rem (p1 &&& (2147483647 : Int32)) (3 : Int32))), .val (.int 1), .val (.ref b38), .unset, .unset, .unset] [(.ref (own_pk aS aE aX (own_rem (p0 &&& (2147483647 : Int32)) (3 : Int32)))), (.ref (own_pk aS aE aX (own_rem (p1 &&& (2147483647 : Int32)) (3 : Int32)))), (.ref b54), (.ref b54)])) tG → Steps p.tables e below (s₁.setTop (mkF m 0 #[.val (.int p0), .val (.int p1), .unset, .unset, .unset, .unset, .unset, .unset, .unset] [])) tG := by
        intro tG kG
        refine G47 _ ?_
        refine st46.trans ?_
        show Steps p.tables e below (T46.setTop (mkF m 48 #[.val (.int p0), .val (.int p1), .val (.int (own_rem (p0 &&& (2147483647 : Int32)) (3 : Int32))), .val (.int (own_rem (p1 &&& (2147483647 : Int32)) (3 : Int32))), .val (.int 1), .unset, .unset, .unset, .unset] [(.ref b38)])) _
        refine own_astore X46.here hx (hb hby at_48) rfl (l' := #[.val (.int p0), .val (.int p1), .val (.int (own_rem (p0 &&& (2147483647 : Int32)) (3 : Int32))), .val (.int (own_rem (p1 &&& (2147483647 : Int32)) (3 : Int32))), .val (.int 1), .val (.ref b38), .unset, .unset, .unset]) rfl ?_
        refine st54 _ ?_
        show Steps p.tables e below (T54.setTop (mkF m 53 #[.val (.int p0), .val (.int p1), .val (.int (own_rem (p0 &&& (2147483647 : Int32)) (3 : Int32))), .val (.int (own_rem (p1 &&& (2147483647 : Int32)) (3 : Int32))), .val (.int 1), .val (.ref b38), .unset, .unset, .unset] [(.ref b54)])) _
        refine own_dup X54.here hx (hb hby at_53) rfl ?_
        refine own_iloadN X54.here hx (hb hby at_54) rfl ?_
        refine st64 _ ?_
        show Steps p.tables e below (T64.setTop (mkF m 58 #[.val (.int p0), .val (.int p1), .val (.int (own_rem (p0 &&& (2147483647 : Int32)) (3 : Int32))), .val (.int (own_rem (p1 &&& (2147483647 : Int32)) (3 : Int32))), .val (.int 1), .val (.ref b38), .unset, .unset, .unset] [(.ref (own_pk aS aE aX (own_rem (p1 &&& (2147483647 : Int32)) (3 : Int32)))), (.ref b54), (.ref b54)])) _
        refine own_iloadN X64.here hx (hb hby at_58) rfl ?_
        refine st65 _ ?_
        exact kG
      obtain ⟨_, _, ⟨T66, L66, k66, n66⟩, -, X66, hS66', hg66', ⟨Lc66, hQ66, l66, y66, z66⟩, st66⟩ := X65.specialBackS hx (y := (⟨"com/example/forkline/forkline/schema/TimeToLive", "<init>", "(Lcom/example/forkline/forkline/schema/KeptFor;Lcom/example/forkline/forkline/schema/KeptFor;)V"⟩ : MethodName)) rfl hown (mvT hZ (hw _ (List.mem_of_getElem? (i := 11) rfl))) (mvT hZ (hw _ (List.mem_of_getElem? (i := 12) rfl))) (mvT hZ (hw _ (List.mem_of_getElem? (i := 13) rfl))) (by decide) (backOfS (W := 1) (rm4 l Z a0 hw [] b54 (own_pk aS aE aX (own_rem (p1 &&& (2147483647 : Int32)) (3 : Int32))) (own_pk aS aE aX (own_rem (p0 &&& (2147483647 : Int32)) (3 : Int32))) h54 n0 Z54 A54 gg54 f62 f63) hZ (hw _ (List.mem_of_getElem? (i := 13) rfl)) (hw _ (List.mem_of_getElem? (i := 3) rfl)) (by decide) (by decide)) (g := (mkF m 62 #[.val (.int p0), .val (.int p1), .val (.int (own_rem (p0 &&& (2147483647 : Int32)) (3 : Int32))), .val (.int (own_rem (p1 &&& (2147483647 : Int32)) (3 : Int32))), .val (.int 1), .val (.ref b38), .unset, .unset, .unset] [(.ref (own_pk aS aE aX (own_rem (p0 &&& (2147483647 : Int32)) (3 : Int32)))), (.ref (own_pk aS aE aX (own_rem (p1 &&& (2147483647 : Int32)) (3 : Int32)))), (.ref b54), (.ref b54)])) rfl (by rw [hml]; rfl) (Steps.refl _) (a := b54) (argsL := [(.ref (own_pk aS aE aX (own_rem (p1 &&& (2147483647 : Int32)) (3 : Int32)))), (.ref (own_pk aS aE aX (own_rem (p0 &&& (2147483647 : Int32)) (3 : Int32))))]) (rest := [(.ref b54)]) (lenOf pd_28Lcom2fexample2fforkline2fforkline2fschema2fKeptFor3bLcom2fexample2fforkline2fforkline2fschema2fKeptFor3b29V rfl) rfl (by show 2 * 0 + _ ≤ _; exact Nat.le_of_eq rfl) (hb hby at_62) (fun _ _ => ⟨rfl, e65, (by decide : 6 + 4 ≤ _), (by decide : 100 + 96 ≤ _)⟩)
      dsimp only [Pt.U, Pt.locs, Pt.cells, Pt.slots] at X66 l66 y66 z66 st66 hQ66 hS66' hg66'
      subst l66 y66 z66
      obtain ⟨X66, hS66, hZ, hown⟩ := rebS (s := s) (vm0 := T46.vm) hS46 (by rw [e65]; exact hk54) X66 hS66' hg66' hZ hown
      have hk66 := Nat.le_refl T66.heap.size
      obtain ⟨rfl, N66q, K66, E66x, F66x, F66y⟩ := hQ66
      have N66 := Fr.app N65 N66q
      have Z66 : n0 ≤ T66.heap.size := Nat.le_trans Z54 K66.1
      have f68 : Sta Z T66.heap "com/example/forkline/forkline/schema/KeptFor" "STATE" "Lcom/example/forkline/forkline/schema/KeptFor;" (.ref aS) := own_sta_keep f56 K66 A54
      have f69 : Sta Z T66.heap "com/example/forkline/forkline/schema/KeptFor" "SESSION" "Lcom/example/forkline/forkline/schema/KeptFor;" (.ref aE) := own_sta_keep f57 K66 A54
      have f70 : Sta Z T66.heap "com/example/forkline/forkline/schema/KeptFor" "EXPERIMENT" "Lcom/example/forkline/forkline/schema/KeptFor;" (.ref aX) := own_sta_keep f58 K66 A54
      have f71 : Exa Z T66.heap b38 "com/example/forkline/forkline/schema/TimeToLive" := f59.keep K66
      have f72 : Fld Z T66.heap b38 "com/example/forkline/forkline/schema/TimeToLive" "qualification" "Lcom/example/forkline/forkline/schema/KeptFor;" (.ref (own_pk aS aE aX (own_rem (p0 &&& (2147483647 : Int32)) (3 : Int32)))) := f60.keep K66 (ninS ne55 nin0)
      have f73 : Fld Z T66.heap b38 "com/example/forkline/forkline/schema/TimeToLive" "targeting" "Lcom/example/forkline/forkline/schema/KeptFor;" (.ref (own_pk aS aE aX (own_rem (p1 &&& (2147483647 : Int32)) (3 : Int32)))) := f61.keep K66 (ninS ne55 nin0)
      have f74 : Exa Z T66.heap b54 "com/example/forkline/forkline/schema/TimeToLive" := A54.keep K66
      obtain ⟨cq77, kq77, q77a, q77b, q77c⟩ := isOf hZ rfl f71
      obtain ⟨_, _, ⟨T77, L77, k77, n77⟩, -, X77, ⟨Lc77, hQ77, l77, y77, z77⟩, st77⟩ := X66.virtualBack hx (y := (⟨"com/example/forkline/forkline/schema/TimeToLive", "keepsForExperiment", "()Z"⟩ : MethodName)) (z := (⟨"com/example/forkline/forkline/schema/TimeToLive", "keepsForExperiment", "()Z"⟩ : MethodName)) hown (mvT hZ (hw _ (List.mem_of_getElem? (i := 39) rfl))) (mvT hZ (hw _ (List.mem_of_getElem? (i := 40) rfl))) (notFace_of_selects (args := #[]) (mvT hZ (hw _ (List.mem_of_getElem? (i := 42) rfl)))) (mvT hZ (hw _ (List.mem_of_getElem? (i := 42) rfl))) (mvT hZ (hw _ (List.mem_of_getElem? (i := 41) rfl))) (by decide) (backOf (W := 0) (rm5 l Z a0 hw [] b38 (own_pk aS aE aX (own_rem (p0 &&& (2147483647 : Int32)) (3 : Int32))) (own_pk aS aE aX (own_rem (p1 &&& (2147483647 : Int32)) (3 : Int32))) aX T66.heap n0 Z66 f72 f73 f70) hZ (hw _ (List.mem_of_getElem? (i := 43) rfl)) (hw _ (List.mem_of_getElem? (i := 3) rfl)) (by decide) (by decide)) q77a q77c (g := (mkF m 69 #[.val (.int p0), .val (.int p1), .val (.int (own_rem (p0 &&& (2147483647 : Int32)) (3 : Int32))), .val (.int (own_rem (p1 &&& (2147483647 : Int32)) (3 : Int32))), .val (.int 1), .val (.ref b38), .val (.ref b54), .unset, .unset] [(.ref b38)])) rfl (by rw [hml]; rfl) (Steps.refl _) (argsL := []) (rest := []) (lenOf pd_2829Z rfl) rfl (by show 2 * 0 + _ ≤ _; exact Nat.le_of_eq rfl) (hb hby at_69) (fun _ _ => ⟨rfl, rfl, (by decide : 10 + 0 ≤ _), (by decide : 196 + 0 ≤ _)⟩)
      dsimp only [Pt.U, Pt.locs, Pt.cells, Pt.slots] at X77 l77 y77 z77 st77 hQ77
      subst l77 y77 z77
      obtain ⟨rfl, N77q, e77⟩ := hQ77
      have N77 := Fr.app N66 N77q
      obtain ⟨cq78, kq78, q78a, q78b, q78c⟩ := isOf hZ e77 E66x
      obtain ⟨_, _, ⟨T78, L78, k78, n78⟩, -, X78, ⟨Lc78, hQ78, l78, y78, z78⟩, st78⟩ := X77.virtualBack hx (y := (⟨"com/example/forkline/forkline/schema/TimeToLive", "keepsForExperiment", "()Z"⟩ : MethodName)) (z := (⟨"com/example/forkline/forkline/schema/TimeToLive", "keepsForExperiment", "()Z"⟩ : MethodName)) hown (mvT hZ (hw _ (List.mem_of_getElem? (i := 39) rfl))) (mvT hZ (hw _ (List.mem_of_getElem? (i := 40) rfl))) (notFace_of_selects (args := #[]) (mvT hZ (hw _ (List.mem_of_getElem? (i := 42) rfl)))) (mvT hZ (hw _ (List.mem_of_getElem? (i := 42) rfl))) (mvT hZ (hw _ (List.mem_of_getElem? (i := 41) rfl))) (by decide) (backOf (W := 0) (rm5 l Z a0 hw [] b54 (own_pk aS aE aX (own_rem (p1 &&& (2147483647 : Int32)) (3 : Int32))) (own_pk aS aE aX (own_rem (p0 &&& (2147483647 : Int32)) (3 : Int32))) aX T66.heap n0 Z66 F66x F66y f70) hZ (hw _ (List.mem_of_getElem? (i := 43) rfl)) (hw _ (List.mem_of_getElem? (i := 3) rfl)) (by decide) (by decide)) q78a q78c (g := (mkF m 76 #[.val (.int p0), .val (.int p1), .val (.int (own_rem (p0 &&& (2147483647 : Int32)) (3 : Int32))), .val (.int (own_rem (p1 &&& (2147483647 : Int32)) (3 : Int32))), .val (.int 1), .val (.ref b38), .val (.ref b54), .val (.int (own_keeps (own_pk aS aE aX (own_rem (p0 &&& (2147483647 : Int32)) (3 : Int32))) (own_pk aS aE aX (own_rem (p1 &&& (2147483647 : Int32)) (3 : Int32))) aX)), .unset] [(.ref b54)])) rfl (by rw [hml]; rfl) (Steps.refl _) (argsL := []) (rest := []) (lenOf pd_2829Z rfl) rfl (by show 2 * 0 + _ ≤ _; exact Nat.le_of_eq rfl) (hb hby at_76) (fun _ _ => ⟨rfl, e77, (by decide : 10 + 0 ≤ _), (by decide : 196 + 0 ≤ _)⟩)
      dsimp only [Pt.U, Pt.locs, Pt.cells, Pt.slots] at X78 l78 y78 z78 st78 hQ78
      subst l78 y78 z78
      obtain ⟨rfl, N78q, e78⟩ := hQ78
      have N78 := Fr.app N77 N78q
      obtain ⟨fs, hr, hrun, hended, hW⟩ := Stand.leaveW (s := s) (vm₁ := T66.vm) X78 hS66 (by rw [e78]; exact hk66) (v := some (.int 1)) (fun h => by rw [Bd.returns] at h; cases h)
      refine ⟨_, _, pre0 _ ?_, hrun, hended, _, _, rfl, ?_, hW.1, hW.2.1, hW.2.2.1, hW.2.2.2.mono (by decide) (by decide)⟩
      · refine G67 _ ?_
        refine st66.trans ?_
        show Steps p.tables e below (T66.setTop (mkF m 65 #[.val (.int p0), .val (.int p1), .val (.int (own_rem (p0 &&& (2147483647 : Int32)) (3 : Int32))), .val (.int (own_rem (p1 &&& (2147483647 : Int32)) (3 : Int32))), .val (.int 1), .val (.ref b38), .unset, .unset, .unset] [(.ref b54)])) _
        refine own_astore X66.here hx (hb hby at_65) rfl (l' := #[.val (.int p0), .val (.int p1), .val (.int (own_rem (p0 &&& (2147483647 : Int32)) (3 : Int32))), .val (.int (own_rem (p1 &&& (2147483647 : Int32)) (3 : Int32))), .val (.int 1), .val (.ref b38), .val (.ref b54), .unset, .unset]) rfl ?_
        refine own_aload X66.here hx (hb hby at_67) rfl rfl ?_
        refine st77.trans ?_
        show Steps p.tables e below (T77.setTop (mkF m 72 #[.val (.int p0), .val (.int p1), .val (.int (own_rem (p0 &&& (2147483647 : Int32)) (3 : Int32))), .val (.int (own_rem (p1 &&& (2147483647 : Int32)) (3 : Int32))), .val (.int 1), .val (.ref b38), .val (.ref b54), .unset, .unset] [(.int (own_keeps (own_pk aS aE aX (own_rem (p0 &&& (2147483647 : Int32)) (3 : Int32))) (own_pk aS aE aX (own_rem (p1 &&& (2147483647 : Int32)) (3 : Int32))) aX))])) _
        refine own_istore X77.here hx (hb hby at_72) (l' := #[.val (.int p0), .val (.int p1), .val (.int (own_rem (p0 &&& (2147483647 : Int32)) (3 : Int32))), .val (.int (own_rem (p1 &&& (2147483647 : Int32)) (3 : Int32))), .val (.int 1), .val (.ref b38), .val (.ref b54), .val (.int (own_keeps (own_pk aS aE aX (own_rem (p0 &&& (2147483647 : Int32)) (3 : Int32))) (own_pk aS aE aX (own_rem (p1 &&& (2147483647 : Int32)) (3 : Int32))) aX)), .unset]) rfl ?_
        refine own_aload X77.here hx (hb hby at_74) rfl rfl ?_
        refine st78.trans ?_
        show Steps p.tables e below (T78.setTop (mkF m 79 #[.val (.int p0), .val (.int p1), .val (.int (own_rem (p0 &&& (2147483647 : Int32)) (3 : Int32))), .val (.int (own_rem (p1 &&& (2147483647 : Int32)) (3 : Int32))), .val (.int 1), .val (.ref b38), .val (.ref b54), .val (.int (own_keeps (own_pk aS aE aX (own_rem (p0 &&& (2147483647 : Int32)) (3 : Int32))) (own_pk aS aE aX (own_rem (p1 &&& (2147483647 : Int32)) (3 : Int32))) aX)), .unset] [(.int (own_keeps (own_pk aS aE aX (own_rem (p1 &&& (2147483647 : Int32)) (3 : Int32))) (own_pk aS aE aX (own_rem (p0 &&& (2147483647 : Int32)) (3 : Int32))) aX))])) _
        refine own_istore X78.here hx (hb hby at_79) (l' := #[.val (.int p0), .val (.int p1), .val (.int (own_rem (p0 &&& (2147483647 : Int32)) (3 : Int32))), .val (.int (own_rem (p1 &&& (2147483647 : Int32)) (3 : Int32))), .val (.int 1), .val (.ref b38), .val (.ref b54), .val (.int (own_keeps (own_pk aS aE aX (own_rem (p0 &&& (2147483647 : Int32)) (3 : Int32))) (own_pk aS aE aX (own_rem (p1 &&& (2147483647 : Int32)) (3 : Int32))) aX)), .val (.int (own_keeps (own_pk aS aE aX (own_rem (p1 &&& (2147483647 : Int32)) (3 : Int32))) (own_pk aS aE aX (own_rem (p0 &&& (2147483647 : Int32)) (3 : Int32))) aX))]) rfl ?_
        refine own_iload X78.here hx (hb hby at_81) rfl ?_
        refine own_iload X78.here hx (hb hby at_83) rfl ?_
        refine own_icmpNo X78.here hx (hb hby at_85) (teq (own_ka (own_pk2 hc19))).2 ?_
        refine own_iload X78.here hx (hb hby at_88) rfl ?_
        refine own_iload X78.here hx (hb hby at_90) rfl ?_
        refine own_icmpNo X78.here hx (hb hby at_92) (teq (own_kb (own_pk2 hc19))).2 ?_
        refine own_iconst X78.here hx (1 : Int32) (hb hby at_95) rfl ?_
        refine own_goto X78.here hx 96 100 rfl (hb hby at_96) (by decide) (by decide) ?_
        exact retN X78 hx (t := .boolean) Bd.returns (by simp) (hb hby at_100) hr
      · show Q0 Z p0 p1 aS aE aX h0 n0 _ T78.heap _
        rw [e78]
        exact ⟨rfl, N78⟩
    · obtain ⟨T79, h79, X79, e79, E79, A79, D79, -, st79⟩ := newO X0 hx hZ hown (hw _ (List.mem_of_getElem? (i := 1) rfl)) (hw _ (List.mem_of_getElem? (i := 2) rfl)) (hw _ (List.mem_of_getElem? (i := 3) rfl)) e0 (g := (mkF m 33 #[.val (.int p0), .val (.int p1), .val (.int (own_rem (p0 &&& (2147483647 : Int32)) (3 : Int32))), .val (.int (own_rem (p1 &&& (2147483647 : Int32)) (3 : Int32))), .val (.int 1), .unset, .unset, .unset, .unset] [])) rfl (hb hby at_33) (by decide) (by decide)
      obtain ⟨b79, g79⟩ : ∃ z, z = h0.size := ⟨_, rfl⟩
      rw [← g79] at A79 D79 st79
      have E79' := E79
      have gg79 : n0 ≤ b79 := Nat.le_trans Z0 (Nat.le_of_eq g79.symm)
      have Z79 : n0 ≤ h79.size := Nat.le_trans Z0 E79.1
      have hk79 := Nat.le_trans hk0 E79.1
      have f80 : Sta Z h79 "com/example/forkline/forkline/schema/KeptFor" "STATE" "Lcom/example/forkline/forkline/schema/KeptFor;" (.ref aS) := S_STATE.ext E79
      have f81 : Sta Z h79 "com/example/forkline/forkline/schema/KeptFor" "SESSION" "Lcom/example/forkline/forkline/schema/KeptFor;" (.ref aE) := S_SESSION.ext E79
      have f82 : Sta Z h79 "com/example/forkline/forkline/schema/KeptFor" "EXPERIMENT" "Lcom/example/forkline/forkline/schema/KeptFor;" (.ref aX) := S_EXPERIMENT.ext E79
      have f83 : Fld Z h79 b79 "com/example/forkline/forkline/schema/TimeToLive" "qualification" "Lcom/example/forkline/forkline/schema/KeptFor;" .null := D79 (Or.inr (hw _ (List.mem_of_getElem? (i := 36) rfl))) (ty := (.object "com/example/forkline/forkline/schema/KeptFor")) (by decide)
      have f84 : Fld Z h79 b79 "com/example/forkline/forkline/schema/TimeToLive" "targeting" "Lcom/example/forkline/forkline/schema/KeptFor;" .null := D79 (Or.inr (hw _ (List.mem_of_getElem? (i := 38) rfl))) (ty := (.object "com/example/forkline/forkline/schema/KeptFor")) (by decide)
      obtain ⟨_, _, ⟨T85, L85, k85, n85⟩, -, X85, ⟨Lc85, hQ85, l85, y85, z85⟩, st85⟩ := Jvm.LawKit.callS X79 hx (y := (⟨"com/example/forkline/forkline/schema/TimeToLiveKeepsForExperimentPinLaw", "pick", "(I)Lcom/example/forkline/forkline/schema/KeptFor;"⟩ : MethodName)) hown (mvT hZ (hw _ (List.mem_of_getElem? (i := 4) rfl))) (mvT hZ (hw _ (List.mem_of_getElem? (i := 5) rfl))) (mvT hZ (hw _ (List.mem_of_getElem? (i := 6) rfl))) (mvT hZ (hw _ (List.mem_of_getElem? (i := 7) rfl))) (by decide) (backOf (W := 2) (rm1 l Z a0 hw [] (own_rem (p0 &&& (2147483647 : Int32)) (3 : Int32)) aS aE aX h79 n0 Z79 f80 f81 f82) hZ (hw _ (List.mem_of_getElem? (i := 7) rfl)) (hw _ (List.mem_of_getElem? (i := 6) rfl)) (by decide) (by decide)) (g := (mkF m 38 #[.val (.int p0), .val (.int p1), .val (.int (own_rem (p0 &&& (2147483647 : Int32)) (3 : Int32))), .val (.int (own_rem (p1 &&& (2147483647 : Int32)) (3 : Int32))), .val (.int 1), .unset, .unset, .unset, .unset] [(.int (own_rem (p0 &&& (2147483647 : Int32)) (3 : Int32))), (.ref b79), (.ref b79)])) rfl (by rw [hml]; rfl) (argsL := [(.int (own_rem (p0 &&& (2147483647 : Int32)) (3 : Int32)))]) (rest := [(.ref b79), (.ref b79)]) (lenOf pd_28I29Lcom2fexample2fforkline2fforkline2fschema2fKeptFor3b rfl) rfl (by show 2 * 0 + _ ≤ _; exact Nat.le_of_eq rfl) (hb hby at_38) (fun _ _ => ⟨rfl, e79, (by decide : 1 + 0 ≤ _), (by decide : 2 + 0 ≤ _)⟩)
      dsimp only [Pt.U, Pt.locs, Pt.cells, Pt.slots] at X85 l85 y85 z85 st85 hQ85
      subst l85 y85 z85
      obtain ⟨rfl, N85q, e85⟩ := hQ85
      have N85 := Fr.app N0 N85q
      obtain ⟨_, _, ⟨T86, L86, k86, n86⟩, -, X86, ⟨Lc86, hQ86, l86, y86, z86⟩, st86⟩ := Jvm.LawKit.callS X85 hx (y := (⟨"com/example/forkline/forkline/schema/TimeToLiveKeepsForExperimentPinLaw", "pick", "(I)Lcom/example/forkline/forkline/schema/KeptFor;"⟩ : MethodName)) hown (mvT hZ (hw _ (List.mem_of_getElem? (i := 4) rfl))) (mvT hZ (hw _ (List.mem_of_getElem? (i := 5) rfl))) (mvT hZ (hw _ (List.mem_of_getElem? (i := 6) rfl))) (mvT hZ (hw _ (List.mem_of_getElem? (i := 7) rfl))) (by decide) (backOf (W := 3) (rm1 l Z a0 hw [] (own_rem (p1 &&& (2147483647 : Int32)) (3 : Int32)) aS aE aX h79 n0 Z79 f80 f81 f82) hZ (hw _ (List.mem_of_getElem? (i := 7) rfl)) (hw _ (List.mem_of_getElem? (i := 6) rfl)) (by decide) (by decide)) (g := (mkF m 42 #[.val (.int p0), .val (.int p1), .val (.int (own_rem (p0 &&& (2147483647 : Int32)) (3 : Int32))), .val (.int (own_rem (p1 &&& (2147483647 : Int32)) (3 : Int32))), .val (.int 1), .unset, .unset, .unset, .unset] [(.int (own_rem (p1 &&& (2147483647 : Int32)) (3 : Int32))), (.ref (own_pk aS aE aX (own_rem (p0 &&& (2147483647 : Int32)) (3 : Int32)))), (.ref b79), (.ref b79)])) rfl (by rw [hml]; rfl) (argsL := [(.int (own_rem (p1 &&& (2147483647 : Int32)) (3 : Int32)))]) (rest := [(.ref (own_pk aS aE aX (own_rem (p0 &&& (2147483647 : Int32)) (3 : Int32)))), (.ref b79), (.ref b79)]) (lenOf pd_28I29Lcom2fexample2fforkline2fforkline2fschema2fKeptFor3b rfl) rfl (by show 2 * 0 + _ ≤ _; exact Nat.le_of_eq rfl) (hb hby at_42) (fun _ _ => ⟨rfl, e85, (by decide : 1 + 0 ≤ _), (by decide : 2 + 0 ≤ _)⟩)
      dsimp only [Pt.U, Pt.locs, Pt.cells, Pt.slots] at X86 l86 y86 z86 st86 hQ86
      subst l86 y86 z86
      obtain ⟨rfl, N86q, e86⟩ := hQ86
      have N86 := Fr.app N85 N86q
      have G88 : ∀ tG, Steps p.tables e below (T86.setTop (mkF m 45 #[.val (.int p0), .val (.int p1), .val (.int (own_rem (p0 &&& (2147483647 : Int32)) (3 : Int32))), .val (.int (own_rem (p1 &&& (2147483647 : Int32)) (3 : Int32))), .val (.int 1), .unset, .unset, .unset, .unset] [(.ref (own_pk aS aE aX (own_rem (p1 &&& (2147483647 : Int32)) (3 : Int32)))), (.ref (own_pk aS aE aX (own_rem (p0 &&& (2147483647 : Int32)) (3 : Int32)))), (.ref b79), (.ref b79)])) tG → Steps p.tables e below (s₁.setTop (mkF m 0 #[.val (.int p0), .val (.int p1), .unset, .unset, .unset, .unset, .unset, .unset, .unset] [])) tG := by
        intro tG kG
        refine G37 _ ?_
        refine own_icmpYes X0.here hx 27 33 rfl (hb hby at_27) (feq hc27).2 (by decide) (by decide) ?_
        refine st79 _ ?_
        show Steps p.tables e below (T79.setTop (mkF m 36 #[.val (.int p0), .val (.int p1), .val (.int (own_rem (p0 &&& (2147483647 : Int32)) (3 : Int32))), .val (.int (own_rem (p1 &&& (2147483647 : Int32)) (3 : Int32))), .val (.int 1), .unset, .unset, .unset, .unset] [(.ref b79)])) _
        refine own_dup X79.here hx (hb hby at_36) rfl ?_
        refine own_iloadN X79.here hx (hb hby at_37) rfl ?_
        refine st85 _ ?_
        show Steps p.tables e below (T85.setTop (mkF m 41 #[.val (.int p0), .val (.int p1), .val (.int (own_rem (p0 &&& (2147483647 : Int32)) (3 : Int32))), .val (.int (own_rem (p1 &&& (2147483647 : Int32)) (3 : Int32))), .val (.int 1), .unset, .unset, .unset, .unset] [(.ref (own_pk aS aE aX (own_rem (p0 &&& (2147483647 : Int32)) (3 : Int32)))), (.ref b79), (.ref b79)])) _
        refine own_iloadN X85.here hx (hb hby at_41) rfl ?_
        refine st86 _ ?_
        exact kG
      obtain ⟨_, _, ⟨T87, L87, k87, n87⟩, -, X87, hS87', hg87', ⟨Lc87, hQ87, l87, y87, z87⟩, st87⟩ := X86.specialBackS hx (y := (⟨"com/example/forkline/forkline/schema/TimeToLive", "<init>", "(Lcom/example/forkline/forkline/schema/KeptFor;Lcom/example/forkline/forkline/schema/KeptFor;)V"⟩ : MethodName)) rfl hown (mvT hZ (hw _ (List.mem_of_getElem? (i := 11) rfl))) (mvT hZ (hw _ (List.mem_of_getElem? (i := 12) rfl))) (mvT hZ (hw _ (List.mem_of_getElem? (i := 13) rfl))) (by decide) (backOfS (W := 1) (rm4 l Z a0 hw [] b79 (own_pk aS aE aX (own_rem (p0 &&& (2147483647 : Int32)) (3 : Int32))) (own_pk aS aE aX (own_rem (p1 &&& (2147483647 : Int32)) (3 : Int32))) h79 n0 Z79 A79 gg79 f83 f84) hZ (hw _ (List.mem_of_getElem? (i := 13) rfl)) (hw _ (List.mem_of_getElem? (i := 3) rfl)) (by decide) (by decide)) (g := (mkF m 45 #[.val (.int p0), .val (.int p1), .val (.int (own_rem (p0 &&& (2147483647 : Int32)) (3 : Int32))), .val (.int (own_rem (p1 &&& (2147483647 : Int32)) (3 : Int32))), .val (.int 1), .unset, .unset, .unset, .unset] [(.ref (own_pk aS aE aX (own_rem (p1 &&& (2147483647 : Int32)) (3 : Int32)))), (.ref (own_pk aS aE aX (own_rem (p0 &&& (2147483647 : Int32)) (3 : Int32)))), (.ref b79), (.ref b79)])) rfl (by rw [hml]; rfl) (Steps.refl _) (a := b79) (argsL := [(.ref (own_pk aS aE aX (own_rem (p0 &&& (2147483647 : Int32)) (3 : Int32)))), (.ref (own_pk aS aE aX (own_rem (p1 &&& (2147483647 : Int32)) (3 : Int32))))]) (rest := [(.ref b79)]) (lenOf pd_28Lcom2fexample2fforkline2fforkline2fschema2fKeptFor3bLcom2fexample2fforkline2fforkline2fschema2fKeptFor3b29V rfl) rfl (by show 2 * 0 + _ ≤ _; exact Nat.le_of_eq rfl) (hb hby at_45) (fun _ _ => ⟨rfl, e86, (by decide : 1 + 4 ≤ _), (by decide : 2 + 96 ≤ _)⟩)
      dsimp only [Pt.U, Pt.locs, Pt.cells, Pt.slots] at X87 l87 y87 z87 st87 hQ87 hS87' hg87'
      subst l87 y87 z87
      obtain ⟨X87, hS87, hZ, hown⟩ := rebS (s := s) (vm0 := s.vm) hS0 (by rw [e86]; exact hk79) X87 hS87' hg87' hZ hown
      have hk87 := Nat.le_refl T87.heap.size
      obtain ⟨rfl, N87q, K87, E87x, F87x, F87y⟩ := hQ87
      have N87 := Fr.app N86 N87q
      have Z87 : n0 ≤ T87.heap.size := Nat.le_trans Z79 K87.1
      have f89 : Sta Z T87.heap "com/example/forkline/forkline/schema/KeptFor" "STATE" "Lcom/example/forkline/forkline/schema/KeptFor;" (.ref aS) := own_sta_keep f80 K87 A79
      have f90 : Sta Z T87.heap "com/example/forkline/forkline/schema/KeptFor" "SESSION" "Lcom/example/forkline/forkline/schema/KeptFor;" (.ref aE) := own_sta_keep f81 K87 A79
      have f91 : Sta Z T87.heap "com/example/forkline/forkline/schema/KeptFor" "EXPERIMENT" "Lcom/example/forkline/forkline/schema/KeptFor;" (.ref aX) := own_sta_keep f82 K87 A79
      have f92 : Exa Z T87.heap b79 "com/example/forkline/forkline/schema/TimeToLive" := A79.keep K87
      obtain ⟨T95, h95, X95, e95, E95, A95, D95, -, st95⟩ := newO X87 hx hZ hown (hw _ (List.mem_of_getElem? (i := 1) rfl)) (hw _ (List.mem_of_getElem? (i := 2) rfl)) (hw _ (List.mem_of_getElem? (i := 3) rfl)) rfl (g := (mkF m 50 #[.val (.int p0), .val (.int p1), .val (.int (own_rem (p0 &&& (2147483647 : Int32)) (3 : Int32))), .val (.int (own_rem (p1 &&& (2147483647 : Int32)) (3 : Int32))), .val (.int 1), .val (.ref b79), .unset, .unset, .unset] [])) rfl (hb hby at_50) (by decide) (by decide)
      obtain ⟨b95, g95⟩ : ∃ z, z = T87.heap.size := ⟨_, rfl⟩
      rw [← g95] at A95 D95 st95
      have E95' := E95
      have gg95 : n0 ≤ b95 := Nat.le_trans Z87 (Nat.le_of_eq g95.symm)
      have ne96 : b79 ≠ b95 := Nat.ne_of_lt (Nat.lt_of_lt_of_le E87x.lt (Nat.le_of_eq g95.symm))
      have Z95 : n0 ≤ h95.size := Nat.le_trans Z87 E95.1
      have hk95 := Nat.le_trans hk87 E95.1
      have f97 : Sta Z h95 "com/example/forkline/forkline/schema/KeptFor" "STATE" "Lcom/example/forkline/forkline/schema/KeptFor;" (.ref aS) := f89.ext E95
      have f98 : Sta Z h95 "com/example/forkline/forkline/schema/KeptFor" "SESSION" "Lcom/example/forkline/forkline/schema/KeptFor;" (.ref aE) := f90.ext E95
      have f99 : Sta Z h95 "com/example/forkline/forkline/schema/KeptFor" "EXPERIMENT" "Lcom/example/forkline/forkline/schema/KeptFor;" (.ref aX) := f91.ext E95
      have f100 : Exa Z h95 b79 "com/example/forkline/forkline/schema/TimeToLive" := E87x.ext E95
      have f101 : Fld Z h95 b79 "com/example/forkline/forkline/schema/TimeToLive" "qualification" "Lcom/example/forkline/forkline/schema/KeptFor;" (.ref (own_pk aS aE aX (own_rem (p0 &&& (2147483647 : Int32)) (3 : Int32)))) := F87x.ext E95
      have f102 : Fld Z h95 b79 "com/example/forkline/forkline/schema/TimeToLive" "targeting" "Lcom/example/forkline/forkline/schema/KeptFor;" (.ref (own_pk aS aE aX (own_rem (p1 &&& (2147483647 : Int32)) (3 : Int32)))) := F87y.ext E95
      have f103 : Fld Z h95 b95 "com/example/forkline/forkline/schema/TimeToLive" "qualification" "Lcom/example/forkline/forkline/schema/KeptFor;" .null := D95 (Or.inr (hw _ (List.mem_of_getElem? (i := 36) rfl))) (ty := (.object "com/example/forkline/forkline/schema/KeptFor")) (by decide)
      have f104 : Fld Z h95 b95 "com/example/forkline/forkline/schema/TimeToLive" "targeting" "Lcom/example/forkline/forkline/schema/KeptFor;" .null := D95 (Or.inr (hw _ (List.mem_of_getElem? (i := 38) rfl))) (ty := (.object "com/example/forkline/forkline/schema/KeptFor")) (by decide)
      obtain ⟨_, _, ⟨T105, L105, k105, n105⟩, -, X105, ⟨Lc105, hQ105, l105, y105, z105⟩, st105⟩ := Jvm.LawKit.callS X95 hx (y := (⟨"com/example/forkline/forkline/schema/TimeToLiveKeepsForExperimentPinLaw", "pick", "(I)Lcom/example/forkline/forkline/schema/KeptFor;"⟩ : MethodName)) hown (mvT hZ (hw _ (List.mem_of_getElem? (i := 4) rfl))) (mvT hZ (hw _ (List.mem_of_getElem? (i := 5) rfl))) (mvT hZ (hw _ (List.mem_of_getElem? (i := 6) rfl))) (mvT hZ (hw _ (List.mem_of_getElem? (i := 7) rfl))) (by decide) (backOf (W := 2) (rm1 l Z a0 hw [] (own_rem (p1 &&& (2147483647 : Int32)) (3 : Int32)) aS aE aX h95 n0 Z95 f97 f98 f99) hZ (hw _ (List.mem_of_getElem? (i := 7) rfl)) (hw _ (List.mem_of_getElem? (i := 6) rfl)) (by decide) (by decide)) (g := (mkF m 55 #[.val (.int p0), .val (.int p1), .val (.int (own_rem (p0 &&& (2147483647 : Int32)) (3 : Int32))), .val (.int (own_rem (p1 &&& (2147483647 : Int32)) (3 : Int32))), .val (.int 1), .val (.ref b79), .unset, .unset, .unset] [(.int (own_rem (p1 &&& (2147483647 : Int32)) (3 : Int32))), (.ref b95), (.ref b95)])) rfl (by rw [hml]; rfl) (argsL := [(.int (own_rem (p1 &&& (2147483647 : Int32)) (3 : Int32)))]) (rest := [(.ref b95), (.ref b95)]) (lenOf pd_28I29Lcom2fexample2fforkline2fforkline2fschema2fKeptFor3b rfl) rfl (by show 2 * 0 + _ ≤ _; exact Nat.le_of_eq rfl) (hb hby at_55) (fun _ _ => ⟨rfl, e95, (by decide : 6 + 0 ≤ _), (by decide : 100 + 0 ≤ _)⟩)
      dsimp only [Pt.U, Pt.locs, Pt.cells, Pt.slots] at X105 l105 y105 z105 st105 hQ105
      subst l105 y105 z105
      obtain ⟨rfl, N105q, e105⟩ := hQ105
      have N105 := Fr.app N87 N105q
      obtain ⟨_, _, ⟨T106, L106, k106, n106⟩, -, X106, ⟨Lc106, hQ106, l106, y106, z106⟩, st106⟩ := Jvm.LawKit.callS X105 hx (y := (⟨"com/example/forkline/forkline/schema/TimeToLiveKeepsForExperimentPinLaw", "pick", "(I)Lcom/example/forkline/forkline/schema/KeptFor;"⟩ : MethodName)) hown (mvT hZ (hw _ (List.mem_of_getElem? (i := 4) rfl))) (mvT hZ (hw _ (List.mem_of_getElem? (i := 5) rfl))) (mvT hZ (hw _ (List.mem_of_getElem? (i := 6) rfl))) (mvT hZ (hw _ (List.mem_of_getElem? (i := 7) rfl))) (by decide) (backOf (W := 3) (rm1 l Z a0 hw [] (own_rem (p0 &&& (2147483647 : Int32)) (3 : Int32)) aS aE aX h95 n0 Z95 f97 f98 f99) hZ (hw _ (List.mem_of_getElem? (i := 7) rfl)) (hw _ (List.mem_of_getElem? (i := 6) rfl)) (by decide) (by decide)) (g := (mkF m 59 #[.val (.int p0), .val (.int p1), .val (.int (own_rem (p0 &&& (2147483647 : Int32)) (3 : Int32))), .val (.int (own_rem (p1 &&& (2147483647 : Int32)) (3 : Int32))), .val (.int 1), .val (.ref b79), .unset, .unset, .unset] [(.int (own_rem (p0 &&& (2147483647 : Int32)) (3 : Int32))), (.ref (own_pk aS aE aX (own_rem (p1 &&& (2147483647 : Int32)) (3 : Int32)))), (.ref b95), (.ref b95)])) rfl (by rw [hml]; rfl) (argsL := [(.int (own_rem (p0 &&& (2147483647 : Int32)) (3 : Int32)))]) (rest := [(.ref (own_pk aS aE aX (own_rem (p1 &&& (2147483647 : Int32)) (3 : Int32)))), (.ref b95), (.ref b95)]) (lenOf pd_28I29Lcom2fexample2fforkline2fforkline2fschema2fKeptFor3b rfl) rfl (by show 2 * 0 + _ ≤ _; exact Nat.le_of_eq rfl) (hb hby at_59) (fun _ _ => ⟨rfl, e105, (by decide : 6 + 0 ≤ _), (by decide : 100 + 0 ≤ _)⟩)
      dsimp only [Pt.U, Pt.locs, Pt.cells, Pt.slots] at X106 l106 y106 z106 st106 hQ106
      subst l106 y106 z106
      obtain ⟨rfl, N106q, e106⟩ := hQ106
      have N106 := Fr.app N105 N106q
      have G108 : ∀ tG, Steps p.tables e below (T106.setTop (mkF m 62 #[.val (.int p0), .val (.int p1), .val (.int (own_rem (p0 &&& (2147483647 : Int32)) (3 : Int32))), .val (.int (own_rem (p1 &&& (2147483647 : Int32)) (3 : Int32))), .val (.int 1), .val (.ref b79), .unset, .unset, .unset] [(.ref (own_pk aS aE aX (own_rem (p0 &&& (2147483647 : Int32)) (3 : Int32)))), (.ref (own_pk aS aE aX (own_rem (p1 &&& (2147483647 : Int32)) (3 : Int32)))), (.ref b95), (.ref b95)])) tG → Steps p.tables e below (s₁.setTop (mkF m 0 #[.val (.int p0), .val (.int p1), .unset, .unset, .unset, .unset, .unset, .unset, .unset] [])) tG := by
        intro tG kG
        refine G88 _ ?_
        refine st87.trans ?_
        show Steps p.tables e below (T87.setTop (mkF m 48 #[.val (.int p0), .val (.int p1), .val (.int (own_rem (p0 &&& (2147483647 : Int32)) (3 : Int32))), .val (.int (own_rem (p1 &&& (2147483647 : Int32)) (3 : Int32))), .val (.int 1), .unset, .unset, .unset, .unset] [(.ref b79)])) _
        refine own_astore X87.here hx (hb hby at_48) rfl (l' := #[.val (.int p0), .val (.int p1), .val (.int (own_rem (p0 &&& (2147483647 : Int32)) (3 : Int32))), .val (.int (own_rem (p1 &&& (2147483647 : Int32)) (3 : Int32))), .val (.int 1), .val (.ref b79), .unset, .unset, .unset]) rfl ?_
        refine st95 _ ?_
        show Steps p.tables e below (T95.setTop (mkF m 53 #[.val (.int p0), .val (.int p1), .val (.int (own_rem (p0 &&& (2147483647 : Int32)) (3 : Int32))), .val (.int (own_rem (p1 &&& (2147483647 : Int32)) (3 : Int32))), .val (.int 1), .val (.ref b79), .unset, .unset, .unset] [(.ref b95)])) _
        refine own_dup X95.here hx (hb hby at_53) rfl ?_
        refine own_iloadN X95.here hx (hb hby at_54) rfl ?_
        refine st105 _ ?_
        show Steps p.tables e below (T105.setTop (mkF m 58 #[.val (.int p0), .val (.int p1), .val (.int (own_rem (p0 &&& (2147483647 : Int32)) (3 : Int32))), .val (.int (own_rem (p1 &&& (2147483647 : Int32)) (3 : Int32))), .val (.int 1), .val (.ref b79), .unset, .unset, .unset] [(.ref (own_pk aS aE aX (own_rem (p1 &&& (2147483647 : Int32)) (3 : Int32)))), (.ref b95), (.ref b95)])) _
        refine own_iloadN X105.here hx (hb hby at_58) rfl ?_
        refine st106 _ ?_
        exact kG
      obtain ⟨_, _, ⟨T107, L107, k107, n107⟩, -, X107, hS107', hg107', ⟨Lc107, hQ107, l107, y107, z107⟩, st107⟩ := X106.specialBackS hx (y := (⟨"com/example/forkline/forkline/schema/TimeToLive", "<init>", "(Lcom/example/forkline/forkline/schema/KeptFor;Lcom/example/forkline/forkline/schema/KeptFor;)V"⟩ : MethodName)) rfl hown (mvT hZ (hw _ (List.mem_of_getElem? (i := 11) rfl))) (mvT hZ (hw _ (List.mem_of_getElem? (i := 12) rfl))) (mvT hZ (hw _ (List.mem_of_getElem? (i := 13) rfl))) (by decide) (backOfS (W := 1) (rm4 l Z a0 hw [] b95 (own_pk aS aE aX (own_rem (p1 &&& (2147483647 : Int32)) (3 : Int32))) (own_pk aS aE aX (own_rem (p0 &&& (2147483647 : Int32)) (3 : Int32))) h95 n0 Z95 A95 gg95 f103 f104) hZ (hw _ (List.mem_of_getElem? (i := 13) rfl)) (hw _ (List.mem_of_getElem? (i := 3) rfl)) (by decide) (by decide)) (g := (mkF m 62 #[.val (.int p0), .val (.int p1), .val (.int (own_rem (p0 &&& (2147483647 : Int32)) (3 : Int32))), .val (.int (own_rem (p1 &&& (2147483647 : Int32)) (3 : Int32))), .val (.int 1), .val (.ref b79), .unset, .unset, .unset] [(.ref (own_pk aS aE aX (own_rem (p0 &&& (2147483647 : Int32)) (3 : Int32)))), (.ref (own_pk aS aE aX (own_rem (p1 &&& (2147483647 : Int32)) (3 : Int32)))), (.ref b95), (.ref b95)])) rfl (by rw [hml]; rfl) (Steps.refl _) (a := b95) (argsL := [(.ref (own_pk aS aE aX (own_rem (p1 &&& (2147483647 : Int32)) (3 : Int32)))), (.ref (own_pk aS aE aX (own_rem (p0 &&& (2147483647 : Int32)) (3 : Int32))))]) (rest := [(.ref b95)]) (lenOf pd_28Lcom2fexample2fforkline2fforkline2fschema2fKeptFor3bLcom2fexample2fforkline2fforkline2fschema2fKeptFor3b29V rfl) rfl (by show 2 * 0 + _ ≤ _; exact Nat.le_of_eq rfl) (hb hby at_62) (fun _ _ => ⟨rfl, e106, (by decide : 6 + 4 ≤ _), (by decide : 100 + 96 ≤ _)⟩)
      dsimp only [Pt.U, Pt.locs, Pt.cells, Pt.slots] at X107 l107 y107 z107 st107 hQ107 hS107' hg107'
      subst l107 y107 z107
      obtain ⟨X107, hS107, hZ, hown⟩ := rebS (s := s) (vm0 := T87.vm) hS87 (by rw [e106]; exact hk95) X107 hS107' hg107' hZ hown
      have hk107 := Nat.le_refl T107.heap.size
      obtain ⟨rfl, N107q, K107, E107x, F107x, F107y⟩ := hQ107
      have N107 := Fr.app N106 N107q
      have Z107 : n0 ≤ T107.heap.size := Nat.le_trans Z95 K107.1
      have f109 : Sta Z T107.heap "com/example/forkline/forkline/schema/KeptFor" "STATE" "Lcom/example/forkline/forkline/schema/KeptFor;" (.ref aS) := own_sta_keep f97 K107 A95
      have f110 : Sta Z T107.heap "com/example/forkline/forkline/schema/KeptFor" "SESSION" "Lcom/example/forkline/forkline/schema/KeptFor;" (.ref aE) := own_sta_keep f98 K107 A95
      have f111 : Sta Z T107.heap "com/example/forkline/forkline/schema/KeptFor" "EXPERIMENT" "Lcom/example/forkline/forkline/schema/KeptFor;" (.ref aX) := own_sta_keep f99 K107 A95
      have f112 : Exa Z T107.heap b79 "com/example/forkline/forkline/schema/TimeToLive" := f100.keep K107
      have f113 : Fld Z T107.heap b79 "com/example/forkline/forkline/schema/TimeToLive" "qualification" "Lcom/example/forkline/forkline/schema/KeptFor;" (.ref (own_pk aS aE aX (own_rem (p0 &&& (2147483647 : Int32)) (3 : Int32)))) := f101.keep K107 (ninS ne96 nin0)
      have f114 : Fld Z T107.heap b79 "com/example/forkline/forkline/schema/TimeToLive" "targeting" "Lcom/example/forkline/forkline/schema/KeptFor;" (.ref (own_pk aS aE aX (own_rem (p1 &&& (2147483647 : Int32)) (3 : Int32)))) := f102.keep K107 (ninS ne96 nin0)
      have f115 : Exa Z T107.heap b95 "com/example/forkline/forkline/schema/TimeToLive" := A95.keep K107
      obtain ⟨cq118, kq118, q118a, q118b, q118c⟩ := isOf hZ rfl f112
      obtain ⟨_, _, ⟨T118, L118, k118, n118⟩, -, X118, ⟨Lc118, hQ118, l118, y118, z118⟩, st118⟩ := X107.virtualBack hx (y := (⟨"com/example/forkline/forkline/schema/TimeToLive", "keepsForExperiment", "()Z"⟩ : MethodName)) (z := (⟨"com/example/forkline/forkline/schema/TimeToLive", "keepsForExperiment", "()Z"⟩ : MethodName)) hown (mvT hZ (hw _ (List.mem_of_getElem? (i := 39) rfl))) (mvT hZ (hw _ (List.mem_of_getElem? (i := 40) rfl))) (notFace_of_selects (args := #[]) (mvT hZ (hw _ (List.mem_of_getElem? (i := 42) rfl)))) (mvT hZ (hw _ (List.mem_of_getElem? (i := 42) rfl))) (mvT hZ (hw _ (List.mem_of_getElem? (i := 41) rfl))) (by decide) (backOf (W := 0) (rm5 l Z a0 hw [] b79 (own_pk aS aE aX (own_rem (p0 &&& (2147483647 : Int32)) (3 : Int32))) (own_pk aS aE aX (own_rem (p1 &&& (2147483647 : Int32)) (3 : Int32))) aX T107.heap n0 Z107 f113 f114 f111) hZ (hw _ (List.mem_of_getElem? (i := 43) rfl)) (hw _ (List.mem_of_getElem? (i := 3) rfl)) (by decide) (by decide)) q118a q118c (g := (mkF m 69 #[.val (.int p0), .val (.int p1), .val (.int (own_rem (p0 &&& (2147483647 : Int32)) (3 : Int32))), .val (.int (own_rem (p1 &&& (2147483647 : Int32)) (3 : Int32))), .val (.int 1), .val (.ref b79), .val (.ref b95), .unset, .unset] [(.ref b79)])) rfl (by rw [hml]; rfl) (Steps.refl _) (argsL := []) (rest := []) (lenOf pd_2829Z rfl) rfl (by show 2 * 0 + _ ≤ _; exact Nat.le_of_eq rfl) (hb hby at_69) (fun _ _ => ⟨rfl, rfl, (by decide : 10 + 0 ≤ _), (by decide : 196 + 0 ≤ _)⟩)
      dsimp only [Pt.U, Pt.locs, Pt.cells, Pt.slots] at X118 l118 y118 z118 st118 hQ118
      subst l118 y118 z118
      obtain ⟨rfl, N118q, e118⟩ := hQ118
      have N118 := Fr.app N107 N118q
      obtain ⟨cq119, kq119, q119a, q119b, q119c⟩ := isOf hZ e118 E107x
      obtain ⟨_, _, ⟨T119, L119, k119, n119⟩, -, X119, ⟨Lc119, hQ119, l119, y119, z119⟩, st119⟩ := X118.virtualBack hx (y := (⟨"com/example/forkline/forkline/schema/TimeToLive", "keepsForExperiment", "()Z"⟩ : MethodName)) (z := (⟨"com/example/forkline/forkline/schema/TimeToLive", "keepsForExperiment", "()Z"⟩ : MethodName)) hown (mvT hZ (hw _ (List.mem_of_getElem? (i := 39) rfl))) (mvT hZ (hw _ (List.mem_of_getElem? (i := 40) rfl))) (notFace_of_selects (args := #[]) (mvT hZ (hw _ (List.mem_of_getElem? (i := 42) rfl)))) (mvT hZ (hw _ (List.mem_of_getElem? (i := 42) rfl))) (mvT hZ (hw _ (List.mem_of_getElem? (i := 41) rfl))) (by decide) (backOf (W := 0) (rm5 l Z a0 hw [] b95 (own_pk aS aE aX (own_rem (p1 &&& (2147483647 : Int32)) (3 : Int32))) (own_pk aS aE aX (own_rem (p0 &&& (2147483647 : Int32)) (3 : Int32))) aX T107.heap n0 Z107 F107x F107y f111) hZ (hw _ (List.mem_of_getElem? (i := 43) rfl)) (hw _ (List.mem_of_getElem? (i := 3) rfl)) (by decide) (by decide)) q119a q119c (g := (mkF m 76 #[.val (.int p0), .val (.int p1), .val (.int (own_rem (p0 &&& (2147483647 : Int32)) (3 : Int32))), .val (.int (own_rem (p1 &&& (2147483647 : Int32)) (3 : Int32))), .val (.int 1), .val (.ref b79), .val (.ref b95), .val (.int (own_keeps (own_pk aS aE aX (own_rem (p0 &&& (2147483647 : Int32)) (3 : Int32))) (own_pk aS aE aX (own_rem (p1 &&& (2147483647 : Int32)) (3 : Int32))) aX)), .unset] [(.ref b95)])) rfl (by rw [hml]; rfl) (Steps.refl _) (argsL := []) (rest := []) (lenOf pd_2829Z rfl) rfl (by show 2 * 0 + _ ≤ _; exact Nat.le_of_eq rfl) (hb hby at_76) (fun _ _ => ⟨rfl, e118, (by decide : 10 + 0 ≤ _), (by decide : 196 + 0 ≤ _)⟩)
      dsimp only [Pt.U, Pt.locs, Pt.cells, Pt.slots] at X119 l119 y119 z119 st119 hQ119
      subst l119 y119 z119
      obtain ⟨rfl, N119q, e119⟩ := hQ119
      have N119 := Fr.app N118 N119q
      obtain ⟨fs, hr, hrun, hended, hW⟩ := Stand.leaveW (s := s) (vm₁ := T107.vm) X119 hS107 (by rw [e119]; exact hk107) (v := some (.int 1)) (fun h => by rw [Bd.returns] at h; cases h)
      refine ⟨_, _, pre0 _ ?_, hrun, hended, _, _, rfl, ?_, hW.1, hW.2.1, hW.2.2.1, hW.2.2.2.mono (by decide) (by decide)⟩
      · refine G108 _ ?_
        refine st107.trans ?_
        show Steps p.tables e below (T107.setTop (mkF m 65 #[.val (.int p0), .val (.int p1), .val (.int (own_rem (p0 &&& (2147483647 : Int32)) (3 : Int32))), .val (.int (own_rem (p1 &&& (2147483647 : Int32)) (3 : Int32))), .val (.int 1), .val (.ref b79), .unset, .unset, .unset] [(.ref b95)])) _
        refine own_astore X107.here hx (hb hby at_65) rfl (l' := #[.val (.int p0), .val (.int p1), .val (.int (own_rem (p0 &&& (2147483647 : Int32)) (3 : Int32))), .val (.int (own_rem (p1 &&& (2147483647 : Int32)) (3 : Int32))), .val (.int 1), .val (.ref b79), .val (.ref b95), .unset, .unset]) rfl ?_
        refine own_aload X107.here hx (hb hby at_67) rfl rfl ?_
        refine st118.trans ?_
        show Steps p.tables e below (T118.setTop (mkF m 72 #[.val (.int p0), .val (.int p1), .val (.int (own_rem (p0 &&& (2147483647 : Int32)) (3 : Int32))), .val (.int (own_rem (p1 &&& (2147483647 : Int32)) (3 : Int32))), .val (.int 1), .val (.ref b79), .val (.ref b95), .unset, .unset] [(.int (own_keeps (own_pk aS aE aX (own_rem (p0 &&& (2147483647 : Int32)) (3 : Int32))) (own_pk aS aE aX (own_rem (p1 &&& (2147483647 : Int32)) (3 : Int32))) aX))])) _
        refine own_istore X118.here hx (hb hby at_72) (l' := #[.val (.int p0), .val (.int p1), .val (.int (own_rem (p0 &&& (2147483647 : Int32)) (3 : Int32))), .val (.int (own_rem (p1 &&& (2147483647 : Int32)) (3 : Int32))), .val (.int 1), .val (.ref b79), .val (.ref b95), .val (.int (own_keeps (own_pk aS aE aX (own_rem (p0 &&& (2147483647 : Int32)) (3 : Int32))) (own_pk aS aE aX (own_rem (p1 &&& (2147483647 : Int32)) (3 : Int32))) aX)), .unset]) rfl ?_
        refine own_aload X118.here hx (hb hby at_74) rfl rfl ?_
        refine st119.trans ?_
        show Steps p.tables e below (T119.setTop (mkF m 79 #[.val (.int p0), .val (.int p1), .val (.int (own_rem (p0 &&& (2147483647 : Int32)) (3 : Int32))), .val (.int (own_rem (p1 &&& (2147483647 : Int32)) (3 : Int32))), .val (.int 1), .val (.ref b79), .val (.ref b95), .val (.int (own_keeps (own_pk aS aE aX (own_rem (p0 &&& (2147483647 : Int32)) (3 : Int32))) (own_pk aS aE aX (own_rem (p1 &&& (2147483647 : Int32)) (3 : Int32))) aX)), .unset] [(.int (own_keeps (own_pk aS aE aX (own_rem (p1 &&& (2147483647 : Int32)) (3 : Int32))) (own_pk aS aE aX (own_rem (p0 &&& (2147483647 : Int32)) (3 : Int32))) aX))])) _
        refine own_istore X119.here hx (hb hby at_79) (l' := #[.val (.int p0), .val (.int p1), .val (.int (own_rem (p0 &&& (2147483647 : Int32)) (3 : Int32))), .val (.int (own_rem (p1 &&& (2147483647 : Int32)) (3 : Int32))), .val (.int 1), .val (.ref b79), .val (.ref b95), .val (.int (own_keeps (own_pk aS aE aX (own_rem (p0 &&& (2147483647 : Int32)) (3 : Int32))) (own_pk aS aE aX (own_rem (p1 &&& (2147483647 : Int32)) (3 : Int32))) aX)), .val (.int (own_keeps (own_pk aS aE aX (own_rem (p1 &&& (2147483647 : Int32)) (3 : Int32))) (own_pk aS aE aX (own_rem (p0 &&& (2147483647 : Int32)) (3 : Int32))) aX))]) rfl ?_
        refine own_iload X119.here hx (hb hby at_81) rfl ?_
        refine own_iload X119.here hx (hb hby at_83) rfl ?_
        refine own_icmpNo X119.here hx (hb hby at_85) (teq (own_ka (own_pk2 hc19))).2 ?_
        refine own_iload X119.here hx (hb hby at_88) rfl ?_
        refine own_iload X119.here hx (hb hby at_90) rfl ?_
        refine own_icmpNo X119.here hx (hb hby at_92) (teq (own_kb (own_pk2 hc19))).2 ?_
        refine own_iconst X119.here hx (1 : Int32) (hb hby at_95) rfl ?_
        refine own_goto X119.here hx 96 100 rfl (hb hby at_96) (by decide) (by decide) ?_
        exact retN X119 hx (t := .boolean) Bd.returns (by simp) (hb hby at_100) hr
      · show Q0 Z p0 p1 aS aE aX h0 n0 _ T119.heap _
        rw [e119]
        exact ⟨rfl, N119⟩
  · have G120 : ∀ tG, Steps p.tables e below (s₁.setTop (mkF m 27 #[.val (.int p0), .val (.int p1), .val (.int (own_rem (p0 &&& (2147483647 : Int32)) (3 : Int32))), .val (.int (own_rem (p1 &&& (2147483647 : Int32)) (3 : Int32))), .val (.int 0), .unset, .unset, .unset, .unset] [(.int 2), (.int (own_rem (p1 &&& (2147483647 : Int32)) (3 : Int32)))])) tG → Steps p.tables e below (s₁.setTop (mkF m 0 #[.val (.int p0), .val (.int p1), .unset, .unset, .unset, .unset, .unset, .unset, .unset] [])) tG := by
      intro tG kG
      refine G36 _ ?_
      refine own_icmpYes X0.here hx 19 25 rfl (hb hby at_19) (feq hc19).2 (by decide) (by decide) ?_
      refine own_iloadN X0.here hx (hb hby at_25) rfl ?_
      refine own_iconst X0.here hx (2 : Int32) (hb hby at_26) rfl ?_
      exact kG
    by_cases hc27 : (own_rem (p1 &&& (2147483647 : Int32)) (3 : Int32)) = (2 : Int32)
    · obtain ⟨T121, h121, X121, e121, E121, A121, D121, -, st121⟩ := newO X0 hx hZ hown (hw _ (List.mem_of_getElem? (i := 1) rfl)) (hw _ (List.mem_of_getElem? (i := 2) rfl)) (hw _ (List.mem_of_getElem? (i := 3) rfl)) e0 (g := (mkF m 33 #[.val (.int p0), .val (.int p1), .val (.int (own_rem (p0 &&& (2147483647 : Int32)) (3 : Int32))), .val (.int (own_rem (p1 &&& (2147483647 : Int32)) (3 : Int32))), .val (.int 1), .unset, .unset, .unset, .unset] [])) rfl (hb hby at_33) (by decide) (by decide)
      obtain ⟨b121, g121⟩ : ∃ z, z = h0.size := ⟨_, rfl⟩
      rw [← g121] at A121 D121 st121
      have E121' := E121
      have gg121 : n0 ≤ b121 := Nat.le_trans Z0 (Nat.le_of_eq g121.symm)
      have Z121 : n0 ≤ h121.size := Nat.le_trans Z0 E121.1
      have hk121 := Nat.le_trans hk0 E121.1
      have f122 : Sta Z h121 "com/example/forkline/forkline/schema/KeptFor" "STATE" "Lcom/example/forkline/forkline/schema/KeptFor;" (.ref aS) := S_STATE.ext E121
      have f123 : Sta Z h121 "com/example/forkline/forkline/schema/KeptFor" "SESSION" "Lcom/example/forkline/forkline/schema/KeptFor;" (.ref aE) := S_SESSION.ext E121
      have f124 : Sta Z h121 "com/example/forkline/forkline/schema/KeptFor" "EXPERIMENT" "Lcom/example/forkline/forkline/schema/KeptFor;" (.ref aX) := S_EXPERIMENT.ext E121
      have f125 : Fld Z h121 b121 "com/example/forkline/forkline/schema/TimeToLive" "qualification" "Lcom/example/forkline/forkline/schema/KeptFor;" .null := D121 (Or.inr (hw _ (List.mem_of_getElem? (i := 36) rfl))) (ty := (.object "com/example/forkline/forkline/schema/KeptFor")) (by decide)
      have f126 : Fld Z h121 b121 "com/example/forkline/forkline/schema/TimeToLive" "targeting" "Lcom/example/forkline/forkline/schema/KeptFor;" .null := D121 (Or.inr (hw _ (List.mem_of_getElem? (i := 38) rfl))) (ty := (.object "com/example/forkline/forkline/schema/KeptFor")) (by decide)
      obtain ⟨_, _, ⟨T127, L127, k127, n127⟩, -, X127, ⟨Lc127, hQ127, l127, y127, z127⟩, st127⟩ := Jvm.LawKit.callS X121 hx (y := (⟨"com/example/forkline/forkline/schema/TimeToLiveKeepsForExperimentPinLaw", "pick", "(I)Lcom/example/forkline/forkline/schema/KeptFor;"⟩ : MethodName)) hown (mvT hZ (hw _ (List.mem_of_getElem? (i := 4) rfl))) (mvT hZ (hw _ (List.mem_of_getElem? (i := 5) rfl))) (mvT hZ (hw _ (List.mem_of_getElem? (i := 6) rfl))) (mvT hZ (hw _ (List.mem_of_getElem? (i := 7) rfl))) (by decide) (backOf (W := 2) (rm1 l Z a0 hw [] (own_rem (p0 &&& (2147483647 : Int32)) (3 : Int32)) aS aE aX h121 n0 Z121 f122 f123 f124) hZ (hw _ (List.mem_of_getElem? (i := 7) rfl)) (hw _ (List.mem_of_getElem? (i := 6) rfl)) (by decide) (by decide)) (g := (mkF m 38 #[.val (.int p0), .val (.int p1), .val (.int (own_rem (p0 &&& (2147483647 : Int32)) (3 : Int32))), .val (.int (own_rem (p1 &&& (2147483647 : Int32)) (3 : Int32))), .val (.int 1), .unset, .unset, .unset, .unset] [(.int (own_rem (p0 &&& (2147483647 : Int32)) (3 : Int32))), (.ref b121), (.ref b121)])) rfl (by rw [hml]; rfl) (argsL := [(.int (own_rem (p0 &&& (2147483647 : Int32)) (3 : Int32)))]) (rest := [(.ref b121), (.ref b121)]) (lenOf pd_28I29Lcom2fexample2fforkline2fforkline2fschema2fKeptFor3b rfl) rfl (by show 2 * 0 + _ ≤ _; exact Nat.le_of_eq rfl) (hb hby at_38) (fun _ _ => ⟨rfl, e121, (by decide : 1 + 0 ≤ _), (by decide : 2 + 0 ≤ _)⟩)
      dsimp only [Pt.U, Pt.locs, Pt.cells, Pt.slots] at X127 l127 y127 z127 st127 hQ127
      subst l127 y127 z127
      obtain ⟨rfl, N127q, e127⟩ := hQ127
      have N127 := Fr.app N0 N127q
      obtain ⟨_, _, ⟨T128, L128, k128, n128⟩, -, X128, ⟨Lc128, hQ128, l128, y128, z128⟩, st128⟩ := Jvm.LawKit.callS X127 hx (y := (⟨"com/example/forkline/forkline/schema/TimeToLiveKeepsForExperimentPinLaw", "pick", "(I)Lcom/example/forkline/forkline/schema/KeptFor;"⟩ : MethodName)) hown (mvT hZ (hw _ (List.mem_of_getElem? (i := 4) rfl))) (mvT hZ (hw _ (List.mem_of_getElem? (i := 5) rfl))) (mvT hZ (hw _ (List.mem_of_getElem? (i := 6) rfl))) (mvT hZ (hw _ (List.mem_of_getElem? (i := 7) rfl))) (by decide) (backOf (W := 3) (rm1 l Z a0 hw [] (own_rem (p1 &&& (2147483647 : Int32)) (3 : Int32)) aS aE aX h121 n0 Z121 f122 f123 f124) hZ (hw _ (List.mem_of_getElem? (i := 7) rfl)) (hw _ (List.mem_of_getElem? (i := 6) rfl)) (by decide) (by decide)) (g := (mkF m 42 #[.val (.int p0), .val (.int p1), .val (.int (own_rem (p0 &&& (2147483647 : Int32)) (3 : Int32))), .val (.int (own_rem (p1 &&& (2147483647 : Int32)) (3 : Int32))), .val (.int 1), .unset, .unset, .unset, .unset] [(.int (own_rem (p1 &&& (2147483647 : Int32)) (3 : Int32))), (.ref (own_pk aS aE aX (own_rem (p0 &&& (2147483647 : Int32)) (3 : Int32)))), (.ref b121), (.ref b121)])) rfl (by rw [hml]; rfl) (argsL := [(.int (own_rem (p1 &&& (2147483647 : Int32)) (3 : Int32)))]) (rest := [(.ref (own_pk aS aE aX (own_rem (p0 &&& (2147483647 : Int32)) (3 : Int32)))), (.ref b121), (.ref b121)]) (lenOf pd_28I29Lcom2fexample2fforkline2fforkline2fschema2fKeptFor3b rfl) rfl (by show 2 * 0 + _ ≤ _; exact Nat.le_of_eq rfl) (hb hby at_42) (fun _ _ => ⟨rfl, e127, (by decide : 1 + 0 ≤ _), (by decide : 2 + 0 ≤ _)⟩)
      dsimp only [Pt.U, Pt.locs, Pt.cells, Pt.slots] at X128 l128 y128 z128 st128 hQ128
      subst l128 y128 z128
      obtain ⟨rfl, N128q, e128⟩ := hQ128
      have N128 := Fr.app N127 N128q
      have G130 : ∀ tG, Steps p.tables e below (T128.setTop (mkF m 45 #[.val (.int p0), .val (.int p1), .val (.int (own_rem (p0 &&& (2147483647 : Int32)) (3 : Int32))), .val (.int (own_rem (p1 &&& (2147483647 : Int32)) (3 : Int32))), .val (.int 1), .unset, .unset, .unset, .unset] [(.ref (own_pk aS aE aX (own_rem (p1 &&& (2147483647 : Int32)) (3 : Int32)))), (.ref (own_pk aS aE aX (own_rem (p0 &&& (2147483647 : Int32)) (3 : Int32)))), (.ref b121), (.ref b121)])) tG → Steps p.tables e below (s₁.setTop (mkF m 0 #[.val (.int p0), .val (.int p1), .unset, .unset, .unset, .unset, .unset, .unset, .unset] [])) tG := by
        intro tG kG
        refine G120 _ ?_
        refine own_icmpNo X0.here hx (hb hby at_27) (teq hc27).2 ?_
        refine own_iconst X0.here hx (1 : Int32) (hb hby at_30) rfl ?_
        refine own_istore X0.here hx (hb hby at_31) (l' := #[.val (.int p0), .val (.int p1), .val (.int (own_rem (p0 &&& (2147483647 : Int32)) (3 : Int32))), .val (.int (own_rem (p1 &&& (2147483647 : Int32)) (3 : Int32))), .val (.int 1), .unset, .unset, .unset, .unset]) rfl ?_
        refine st121 _ ?_
        show Steps p.tables e below (T121.setTop (mkF m 36 #[.val (.int p0), .val (.int p1), .val (.int (own_rem (p0 &&& (2147483647 : Int32)) (3 : Int32))), .val (.int (own_rem (p1 &&& (2147483647 : Int32)) (3 : Int32))), .val (.int 1), .unset, .unset, .unset, .unset] [(.ref b121)])) _
        refine own_dup X121.here hx (hb hby at_36) rfl ?_
        refine own_iloadN X121.here hx (hb hby at_37) rfl ?_
        refine st127 _ ?_
        show Steps p.tables e below (T127.setTop (mkF m 41 #[.val (.int p0), .val (.int p1), .val (.int (own_rem (p0 &&& (2147483647 : Int32)) (3 : Int32))), .val (.int (own_rem (p1 &&& (2147483647 : Int32)) (3 : Int32))), .val (.int 1), .unset, .unset, .unset, .unset] [(.ref (own_pk aS aE aX (own_rem (p0 &&& (2147483647 : Int32)) (3 : Int32)))), (.ref b121), (.ref b121)])) _
        refine own_iloadN X127.here hx (hb hby at_41) rfl ?_
        refine st128 _ ?_
        exact kG
      obtain ⟨_, _, ⟨T129, L129, k129, n129⟩, -, X129, hS129', hg129', ⟨Lc129, hQ129, l129, y129, z129⟩, st129⟩ := X128.specialBackS hx (y := (⟨"com/example/forkline/forkline/schema/TimeToLive", "<init>", "(Lcom/example/forkline/forkline/schema/KeptFor;Lcom/example/forkline/forkline/schema/KeptFor;)V"⟩ : MethodName)) rfl hown (mvT hZ (hw _ (List.mem_of_getElem? (i := 11) rfl))) (mvT hZ (hw _ (List.mem_of_getElem? (i := 12) rfl))) (mvT hZ (hw _ (List.mem_of_getElem? (i := 13) rfl))) (by decide) (backOfS (W := 1) (rm4 l Z a0 hw [] b121 (own_pk aS aE aX (own_rem (p0 &&& (2147483647 : Int32)) (3 : Int32))) (own_pk aS aE aX (own_rem (p1 &&& (2147483647 : Int32)) (3 : Int32))) h121 n0 Z121 A121 gg121 f125 f126) hZ (hw _ (List.mem_of_getElem? (i := 13) rfl)) (hw _ (List.mem_of_getElem? (i := 3) rfl)) (by decide) (by decide)) (g := (mkF m 45 #[.val (.int p0), .val (.int p1), .val (.int (own_rem (p0 &&& (2147483647 : Int32)) (3 : Int32))), .val (.int (own_rem (p1 &&& (2147483647 : Int32)) (3 : Int32))), .val (.int 1), .unset, .unset, .unset, .unset] [(.ref (own_pk aS aE aX (own_rem (p1 &&& (2147483647 : Int32)) (3 : Int32)))), (.ref (own_pk aS aE aX (own_rem (p0 &&& (2147483647 : Int32)) (3 : Int32)))), (.ref b121), (.ref b121)])) rfl (by rw [hml]; rfl) (Steps.refl _) (a := b121) (argsL := [(.ref (own_pk aS aE aX (own_rem (p0 &&& (2147483647 : Int32)) (3 : Int32)))), (.ref (own_pk aS aE aX (own_rem (p1 &&& (2147483647 : Int32)) (3 : Int32))))]) (rest := [(.ref b121)]) (lenOf pd_28Lcom2fexample2fforkline2fforkline2fschema2fKeptFor3bLcom2fexample2fforkline2fforkline2fschema2fKeptFor3b29V rfl) rfl (by show 2 * 0 + _ ≤ _; exact Nat.le_of_eq rfl) (hb hby at_45) (fun _ _ => ⟨rfl, e128, (by decide : 1 + 4 ≤ _), (by decide : 2 + 96 ≤ _)⟩)
      dsimp only [Pt.U, Pt.locs, Pt.cells, Pt.slots] at X129 l129 y129 z129 st129 hQ129 hS129' hg129'
      subst l129 y129 z129
      obtain ⟨X129, hS129, hZ, hown⟩ := rebS (s := s) (vm0 := s.vm) hS0 (by rw [e128]; exact hk121) X129 hS129' hg129' hZ hown
      have hk129 := Nat.le_refl T129.heap.size
      obtain ⟨rfl, N129q, K129, E129x, F129x, F129y⟩ := hQ129
      have N129 := Fr.app N128 N129q
      have Z129 : n0 ≤ T129.heap.size := Nat.le_trans Z121 K129.1
      have f131 : Sta Z T129.heap "com/example/forkline/forkline/schema/KeptFor" "STATE" "Lcom/example/forkline/forkline/schema/KeptFor;" (.ref aS) := own_sta_keep f122 K129 A121
      have f132 : Sta Z T129.heap "com/example/forkline/forkline/schema/KeptFor" "SESSION" "Lcom/example/forkline/forkline/schema/KeptFor;" (.ref aE) := own_sta_keep f123 K129 A121
      have f133 : Sta Z T129.heap "com/example/forkline/forkline/schema/KeptFor" "EXPERIMENT" "Lcom/example/forkline/forkline/schema/KeptFor;" (.ref aX) := own_sta_keep f124 K129 A121
      have f134 : Exa Z T129.heap b121 "com/example/forkline/forkline/schema/TimeToLive" := A121.keep K129
      obtain ⟨T137, h137, X137, e137, E137, A137, D137, -, st137⟩ := newO X129 hx hZ hown (hw _ (List.mem_of_getElem? (i := 1) rfl)) (hw _ (List.mem_of_getElem? (i := 2) rfl)) (hw _ (List.mem_of_getElem? (i := 3) rfl)) rfl (g := (mkF m 50 #[.val (.int p0), .val (.int p1), .val (.int (own_rem (p0 &&& (2147483647 : Int32)) (3 : Int32))), .val (.int (own_rem (p1 &&& (2147483647 : Int32)) (3 : Int32))), .val (.int 1), .val (.ref b121), .unset, .unset, .unset] [])) rfl (hb hby at_50) (by decide) (by decide)
      obtain ⟨b137, g137⟩ : ∃ z, z = T129.heap.size := ⟨_, rfl⟩
      rw [← g137] at A137 D137 st137
      have E137' := E137
      have gg137 : n0 ≤ b137 := Nat.le_trans Z129 (Nat.le_of_eq g137.symm)
      have ne138 : b121 ≠ b137 := Nat.ne_of_lt (Nat.lt_of_lt_of_le E129x.lt (Nat.le_of_eq g137.symm))
      have Z137 : n0 ≤ h137.size := Nat.le_trans Z129 E137.1
      have hk137 := Nat.le_trans hk129 E137.1
      have f139 : Sta Z h137 "com/example/forkline/forkline/schema/KeptFor" "STATE" "Lcom/example/forkline/forkline/schema/KeptFor;" (.ref aS) := f131.ext E137
      have f140 : Sta Z h137 "com/example/forkline/forkline/schema/KeptFor" "SESSION" "Lcom/example/forkline/forkline/schema/KeptFor;" (.ref aE) := f132.ext E137
      have f141 : Sta Z h137 "com/example/forkline/forkline/schema/KeptFor" "EXPERIMENT" "Lcom/example/forkline/forkline/schema/KeptFor;" (.ref aX) := f133.ext E137
      have f142 : Exa Z h137 b121 "com/example/forkline/forkline/schema/TimeToLive" := E129x.ext E137
      have f143 : Fld Z h137 b121 "com/example/forkline/forkline/schema/TimeToLive" "qualification" "Lcom/example/forkline/forkline/schema/KeptFor;" (.ref (own_pk aS aE aX (own_rem (p0 &&& (2147483647 : Int32)) (3 : Int32)))) := F129x.ext E137
      have f144 : Fld Z h137 b121 "com/example/forkline/forkline/schema/TimeToLive" "targeting" "Lcom/example/forkline/forkline/schema/KeptFor;" (.ref (own_pk aS aE aX (own_rem (p1 &&& (2147483647 : Int32)) (3 : Int32)))) := F129y.ext E137
      have f145 : Fld Z h137 b137 "com/example/forkline/forkline/schema/TimeToLive" "qualification" "Lcom/example/forkline/forkline/schema/KeptFor;" .null := D137 (Or.inr (hw _ (List.mem_of_getElem? (i := 36) rfl))) (ty := (.object "com/example/forkline/forkline/schema/KeptFor")) (by decide)
      have f146 : Fld Z h137 b137 "com/example/forkline/forkline/schema/TimeToLive" "targeting" "Lcom/example/forkline/forkline/schema/KeptFor;" .null := D137 (Or.inr (hw _ (List.mem_of_getElem? (i := 38) rfl))) (ty := (.object "com/example/forkline/forkline/schema/KeptFor")) (by decide)
      obtain ⟨_, _, ⟨T147, L147, k147, n147⟩, -, X147, ⟨Lc147, hQ147, l147, y147, z147⟩, st147⟩ := Jvm.LawKit.callS X137 hx (y := (⟨"com/example/forkline/forkline/schema/TimeToLiveKeepsForExperimentPinLaw", "pick", "(I)Lcom/example/forkline/forkline/schema/KeptFor;"⟩ : MethodName)) hown (mvT hZ (hw _ (List.mem_of_getElem? (i := 4) rfl))) (mvT hZ (hw _ (List.mem_of_getElem? (i := 5) rfl))) (mvT hZ (hw _ (List.mem_of_getElem? (i := 6) rfl))) (mvT hZ (hw _ (List.mem_of_getElem? (i := 7) rfl))) (by decide) (backOf (W := 2) (rm1 l Z a0 hw [] (own_rem (p1 &&& (2147483647 : Int32)) (3 : Int32)) aS aE aX h137 n0 Z137 f139 f140 f141) hZ (hw _ (List.mem_of_getElem? (i := 7) rfl)) (hw _ (List.mem_of_getElem? (i := 6) rfl)) (by decide) (by decide)) (g := (mkF m 55 #[.val (.int p0), .val (.int p1), .val (.int (own_rem (p0 &&& (2147483647 : Int32)) (3 : Int32))), .val (.int (own_rem (p1 &&& (2147483647 : Int32)) (3 : Int32))), .val (.int 1), .val (.ref b121), .unset, .unset, .unset] [(.int (own_rem (p1 &&& (2147483647 : Int32)) (3 : Int32))), (.ref b137), (.ref b137)])) rfl (by rw [hml]; rfl) (argsL := [(.int (own_rem (p1 &&& (2147483647 : Int32)) (3 : Int32)))]) (rest := [(.ref b137), (.ref b137)]) (lenOf pd_28I29Lcom2fexample2fforkline2fforkline2fschema2fKeptFor3b rfl) rfl (by show 2 * 0 + _ ≤ _; exact Nat.le_of_eq rfl) (hb hby at_55) (fun _ _ => ⟨rfl, e137, (by decide : 6 + 0 ≤ _), (by decide : 100 + 0 ≤ _)⟩)
      dsimp only [Pt.U, Pt.locs, Pt.cells, Pt.slots] at X147 l147 y147 z147 st147 hQ147
      subst l147 y147 z147
      obtain ⟨rfl, N147q, e147⟩ := hQ147
      have N147 := Fr.app N129 N147q
      obtain ⟨_, _, ⟨T148, L148, k148, n148⟩, -, X148, ⟨Lc148, hQ148, l148, y148, z148⟩, st148⟩ := Jvm.LawKit.callS X147 hx (y := (⟨"com/example/forkline/forkline/schema/TimeToLiveKeepsForExperimentPinLaw", "pick", "(I)Lcom/example/forkline/forkline/schema/KeptFor;"⟩ : MethodName)) hown (mvT hZ (hw _ (List.mem_of_getElem? (i := 4) rfl))) (mvT hZ (hw _ (List.mem_of_getElem? (i := 5) rfl))) (mvT hZ (hw _ (List.mem_of_getElem? (i := 6) rfl))) (mvT hZ (hw _ (List.mem_of_getElem? (i := 7) rfl))) (by decide) (backOf (W := 3) (rm1 l Z a0 hw [] (own_rem (p0 &&& (2147483647 : Int32)) (3 : Int32)) aS aE aX h137 n0 Z137 f139 f140 f141) hZ (hw _ (List.mem_of_getElem? (i := 7) rfl)) (hw _ (List.mem_of_getElem? (i := 6) rfl)) (by decide) (by decide)) (g := (mkF m 59 #[.val (.int p0), .val (.int p1), .val (.int (own_rem (p0 &&& (2147483647 : Int32)) (3 : Int32))), .val (.int (own_rem (p1 &&& (2147483647 : Int32)) (3 : Int32))), .val (.int 1), .val (.ref b121), .unset, .unset, .unset] [(.int (own_rem (p0 &&& (2147483647 : Int32)) (3 : Int32))), (.ref (own_pk aS aE aX (own_rem (p1 &&& (2147483647 : Int32)) (3 : Int32)))), (.ref b137), (.ref b137)])) rfl (by rw [hml]; rfl) (argsL := [(.int (own_rem (p0 &&& (2147483647 : Int32)) (3 : Int32)))]) (rest := [(.ref (own_pk aS aE aX (own_rem (p1 &&& (2147483647 : Int32)) (3 : Int32)))), (.ref b137), (.ref b137)]) (lenOf pd_28I29Lcom2fexample2fforkline2fforkline2fschema2fKeptFor3b rfl) rfl (by show 2 * 0 + _ ≤ _; exact Nat.le_of_eq rfl) (hb hby at_59) (fun _ _ => ⟨rfl, e147, (by decide : 6 + 0 ≤ _), (by decide : 100 + 0 ≤ _)⟩)
      dsimp only [Pt.U, Pt.locs, Pt.cells, Pt.slots] at X148 l148 y148 z148 st148 hQ148
      subst l148 y148 z148
      obtain ⟨rfl, N148q, e148⟩ := hQ148
      have N148 := Fr.app N147 N148q
      have G150 : ∀ tG, Steps p.tables e below (T148.setTop (mkF m 62 #[.val (.int p0), .val (.int p1), .val (.int (own_rem (p0 &&& (2147483647 : Int32)) (3 : Int32))), .val (.int (own_rem (p1 &&& (2147483647 : Int32)) (3 : Int32))), .val (.int 1), .val (.ref b121), .unset, .unset, .unset] [(.ref (own_pk aS aE aX (own_rem (p0 &&& (2147483647 : Int32)) (3 : Int32)))), (.ref (own_pk aS aE aX (own_rem (p1 &&& (2147483647 : Int32)) (3 : Int32)))), (.ref b137), (.ref b137)])) tG → Steps p.tables e below (s₁.setTop (mkF m 0 #[.val (.int p0), .val (.int p1), .unset, .unset, .unset, .unset, .unset, .unset, .unset] [])) tG := by
        intro tG kG
        refine G130 _ ?_
        refine st129.trans ?_
        show Steps p.tables e below (T129.setTop (mkF m 48 #[.val (.int p0), .val (.int p1), .val (.int (own_rem (p0 &&& (2147483647 : Int32)) (3 : Int32))), .val (.int (own_rem (p1 &&& (2147483647 : Int32)) (3 : Int32))), .val (.int 1), .unset, .unset, .unset, .unset] [(.ref b121)])) _
        refine own_astore X129.here hx (hb hby at_48) rfl (l' := #[.val (.int p0), .val (.int p1), .val (.int (own_rem (p0 &&& (2147483647 : Int32)) (3 : Int32))), .val (.int (own_rem (p1 &&& (2147483647 : Int32)) (3 : Int32))), .val (.int 1), .val (.ref b121), .unset, .unset, .unset]) rfl ?_
        refine st137 _ ?_
        show Steps p.tables e below (T137.setTop (mkF m 53 #[.val (.int p0), .val (.int p1), .val (.int (own_rem (p0 &&& (2147483647 : Int32)) (3 : Int32))), .val (.int (own_rem (p1 &&& (2147483647 : Int32)) (3 : Int32))), .val (.int 1), .val (.ref b121), .unset, .unset, .unset] [(.ref b137)])) _
        refine own_dup X137.here hx (hb hby at_53) rfl ?_
        refine own_iloadN X137.here hx (hb hby at_54) rfl ?_
        refine st147 _ ?_
        show Steps p.tables e below (T147.setTop (mkF m 58 #[.val (.int p0), .val (.int p1), .val (.int (own_rem (p0 &&& (2147483647 : Int32)) (3 : Int32))), .val (.int (own_rem (p1 &&& (2147483647 : Int32)) (3 : Int32))), .val (.int 1), .val (.ref b121), .unset, .unset, .unset] [(.ref (own_pk aS aE aX (own_rem (p1 &&& (2147483647 : Int32)) (3 : Int32)))), (.ref b137), (.ref b137)])) _
        refine own_iloadN X147.here hx (hb hby at_58) rfl ?_
        refine st148 _ ?_
        exact kG
      obtain ⟨_, _, ⟨T149, L149, k149, n149⟩, -, X149, hS149', hg149', ⟨Lc149, hQ149, l149, y149, z149⟩, st149⟩ := X148.specialBackS hx (y := (⟨"com/example/forkline/forkline/schema/TimeToLive", "<init>", "(Lcom/example/forkline/forkline/schema/KeptFor;Lcom/example/forkline/forkline/schema/KeptFor;)V"⟩ : MethodName)) rfl hown (mvT hZ (hw _ (List.mem_of_getElem? (i := 11) rfl))) (mvT hZ (hw _ (List.mem_of_getElem? (i := 12) rfl))) (mvT hZ (hw _ (List.mem_of_getElem? (i := 13) rfl))) (by decide) (backOfS (W := 1) (rm4 l Z a0 hw [] b137 (own_pk aS aE aX (own_rem (p1 &&& (2147483647 : Int32)) (3 : Int32))) (own_pk aS aE aX (own_rem (p0 &&& (2147483647 : Int32)) (3 : Int32))) h137 n0 Z137 A137 gg137 f145 f146) hZ (hw _ (List.mem_of_getElem? (i := 13) rfl)) (hw _ (List.mem_of_getElem? (i := 3) rfl)) (by decide) (by decide)) (g := (mkF m 62 #[.val (.int p0), .val (.int p1), .val (.int (own_rem (p0 &&& (2147483647 : Int32)) (3 : Int32))), .val (.int (own_rem (p1 &&& (2147483647 : Int32)) (3 : Int32))), .val (.int 1), .val (.ref b121), .unset, .unset, .unset] [(.ref (own_pk aS aE aX (own_rem (p0 &&& (2147483647 : Int32)) (3 : Int32)))), (.ref (own_pk aS aE aX (own_rem (p1 &&& (2147483647 : Int32)) (3 : Int32)))), (.ref b137), (.ref b137)])) rfl (by rw [hml]; rfl) (Steps.refl _) (a := b137) (argsL := [(.ref (own_pk aS aE aX (own_rem (p1 &&& (2147483647 : Int32)) (3 : Int32)))), (.ref (own_pk aS aE aX (own_rem (p0 &&& (2147483647 : Int32)) (3 : Int32))))]) (rest := [(.ref b137)]) (lenOf pd_28Lcom2fexample2fforkline2fforkline2fschema2fKeptFor3bLcom2fexample2fforkline2fforkline2fschema2fKeptFor3b29V rfl) rfl (by show 2 * 0 + _ ≤ _; exact Nat.le_of_eq rfl) (hb hby at_62) (fun _ _ => ⟨rfl, e148, (by decide : 6 + 4 ≤ _), (by decide : 100 + 96 ≤ _)⟩)
      dsimp only [Pt.U, Pt.locs, Pt.cells, Pt.slots] at X149 l149 y149 z149 st149 hQ149 hS149' hg149'
      subst l149 y149 z149
      obtain ⟨X149, hS149, hZ, hown⟩ := rebS (s := s) (vm0 := T129.vm) hS129 (by rw [e148]; exact hk137) X149 hS149' hg149' hZ hown
      have hk149 := Nat.le_refl T149.heap.size
      obtain ⟨rfl, N149q, K149, E149x, F149x, F149y⟩ := hQ149
      have N149 := Fr.app N148 N149q
      have Z149 : n0 ≤ T149.heap.size := Nat.le_trans Z137 K149.1
      have f151 : Sta Z T149.heap "com/example/forkline/forkline/schema/KeptFor" "STATE" "Lcom/example/forkline/forkline/schema/KeptFor;" (.ref aS) := own_sta_keep f139 K149 A137
      have f152 : Sta Z T149.heap "com/example/forkline/forkline/schema/KeptFor" "SESSION" "Lcom/example/forkline/forkline/schema/KeptFor;" (.ref aE) := own_sta_keep f140 K149 A137
      have f153 : Sta Z T149.heap "com/example/forkline/forkline/schema/KeptFor" "EXPERIMENT" "Lcom/example/forkline/forkline/schema/KeptFor;" (.ref aX) := own_sta_keep f141 K149 A137
      have f154 : Exa Z T149.heap b121 "com/example/forkline/forkline/schema/TimeToLive" := f142.keep K149
      have f155 : Fld Z T149.heap b121 "com/example/forkline/forkline/schema/TimeToLive" "qualification" "Lcom/example/forkline/forkline/schema/KeptFor;" (.ref (own_pk aS aE aX (own_rem (p0 &&& (2147483647 : Int32)) (3 : Int32)))) := f143.keep K149 (ninS ne138 nin0)
      have f156 : Fld Z T149.heap b121 "com/example/forkline/forkline/schema/TimeToLive" "targeting" "Lcom/example/forkline/forkline/schema/KeptFor;" (.ref (own_pk aS aE aX (own_rem (p1 &&& (2147483647 : Int32)) (3 : Int32)))) := f144.keep K149 (ninS ne138 nin0)
      have f157 : Exa Z T149.heap b137 "com/example/forkline/forkline/schema/TimeToLive" := A137.keep K149
      obtain ⟨cq160, kq160, q160a, q160b, q160c⟩ := isOf hZ rfl f154
      obtain ⟨_, _, ⟨T160, L160, k160, n160⟩, -, X160, ⟨Lc160, hQ160, l160, y160, z160⟩, st160⟩ := X149.virtualBack hx (y := (⟨"com/example/forkline/forkline/schema/TimeToLive", "keepsForExperiment", "()Z"⟩ : MethodName)) (z := (⟨"com/example/forkline/forkline/schema/TimeToLive", "keepsForExperiment", "()Z"⟩ : MethodName)) hown (mvT hZ (hw _ (List.mem_of_getElem? (i := 39) rfl))) (mvT hZ (hw _ (List.mem_of_getElem? (i := 40) rfl))) (notFace_of_selects (args := #[]) (mvT hZ (hw _ (List.mem_of_getElem? (i := 42) rfl)))) (mvT hZ (hw _ (List.mem_of_getElem? (i := 42) rfl))) (mvT hZ (hw _ (List.mem_of_getElem? (i := 41) rfl))) (by decide) (backOf (W := 0) (rm5 l Z a0 hw [] b121 (own_pk aS aE aX (own_rem (p0 &&& (2147483647 : Int32)) (3 : Int32))) (own_pk aS aE aX (own_rem (p1 &&& (2147483647 : Int32)) (3 : Int32))) aX T149.heap n0 Z149 f155 f156 f153) hZ (hw _ (List.mem_of_getElem? (i := 43) rfl)) (hw _ (List.mem_of_getElem? (i := 3) rfl)) (by decide) (by decide)) q160a q160c (g := (mkF m 69 #[.val (.int p0), .val (.int p1), .val (.int (own_rem (p0 &&& (2147483647 : Int32)) (3 : Int32))), .val (.int (own_rem (p1 &&& (2147483647 : Int32)) (3 : Int32))), .val (.int 1), .val (.ref b121), .val (.ref b137), .unset, .unset] [(.ref b121)])) rfl (by rw [hml]; rfl) (Steps.refl _) (argsL := []) (rest := []) (lenOf pd_2829Z rfl) rfl (by show 2 * 0 + _ ≤ _; exact Nat.le_of_eq rfl) (hb hby at_69) (fun _ _ => ⟨rfl, rfl, (by decide : 10 + 0 ≤ _), (by decide : 196 + 0 ≤ _)⟩)
      dsimp only [Pt.U, Pt.locs, Pt.cells, Pt.slots] at X160 l160 y160 z160 st160 hQ160
      subst l160 y160 z160
      obtain ⟨rfl, N160q, e160⟩ := hQ160
      have N160 := Fr.app N149 N160q
      obtain ⟨cq161, kq161, q161a, q161b, q161c⟩ := isOf hZ e160 E149x
      obtain ⟨_, _, ⟨T161, L161, k161, n161⟩, -, X161, ⟨Lc161, hQ161, l161, y161, z161⟩, st161⟩ := X160.virtualBack hx (y := (⟨"com/example/forkline/forkline/schema/TimeToLive", "keepsForExperiment", "()Z"⟩ : MethodName)) (z := (⟨"com/example/forkline/forkline/schema/TimeToLive", "keepsForExperiment", "()Z"⟩ : MethodName)) hown (mvT hZ (hw _ (List.mem_of_getElem? (i := 39) rfl))) (mvT hZ (hw _ (List.mem_of_getElem? (i := 40) rfl))) (notFace_of_selects (args := #[]) (mvT hZ (hw _ (List.mem_of_getElem? (i := 42) rfl)))) (mvT hZ (hw _ (List.mem_of_getElem? (i := 42) rfl))) (mvT hZ (hw _ (List.mem_of_getElem? (i := 41) rfl))) (by decide) (backOf (W := 0) (rm5 l Z a0 hw [] b137 (own_pk aS aE aX (own_rem (p1 &&& (2147483647 : Int32)) (3 : Int32))) (own_pk aS aE aX (own_rem (p0 &&& (2147483647 : Int32)) (3 : Int32))) aX T149.heap n0 Z149 F149x F149y f153) hZ (hw _ (List.mem_of_getElem? (i := 43) rfl)) (hw _ (List.mem_of_getElem? (i := 3) rfl)) (by decide) (by decide)) q161a q161c (g := (mkF m 76 #[.val (.int p0), .val (.int p1), .val (.int (own_rem (p0 &&& (2147483647 : Int32)) (3 : Int32))), .val (.int (own_rem (p1 &&& (2147483647 : Int32)) (3 : Int32))), .val (.int 1), .val (.ref b121), .val (.ref b137), .val (.int (own_keeps (own_pk aS aE aX (own_rem (p0 &&& (2147483647 : Int32)) (3 : Int32))) (own_pk aS aE aX (own_rem (p1 &&& (2147483647 : Int32)) (3 : Int32))) aX)), .unset] [(.ref b137)])) rfl (by rw [hml]; rfl) (Steps.refl _) (argsL := []) (rest := []) (lenOf pd_2829Z rfl) rfl (by show 2 * 0 + _ ≤ _; exact Nat.le_of_eq rfl) (hb hby at_76) (fun _ _ => ⟨rfl, e160, (by decide : 10 + 0 ≤ _), (by decide : 196 + 0 ≤ _)⟩)
      dsimp only [Pt.U, Pt.locs, Pt.cells, Pt.slots] at X161 l161 y161 z161 st161 hQ161
      subst l161 y161 z161
      obtain ⟨rfl, N161q, e161⟩ := hQ161
      have N161 := Fr.app N160 N161q
      obtain ⟨fs, hr, hrun, hended, hW⟩ := Stand.leaveW (s := s) (vm₁ := T149.vm) X161 hS149 (by rw [e161]; exact hk149) (v := some (.int 1)) (fun h => by rw [Bd.returns] at h; cases h)
      refine ⟨_, _, pre0 _ ?_, hrun, hended, _, _, rfl, ?_, hW.1, hW.2.1, hW.2.2.1, hW.2.2.2.mono (by decide) (by decide)⟩
      · refine G150 _ ?_
        refine st149.trans ?_
        show Steps p.tables e below (T149.setTop (mkF m 65 #[.val (.int p0), .val (.int p1), .val (.int (own_rem (p0 &&& (2147483647 : Int32)) (3 : Int32))), .val (.int (own_rem (p1 &&& (2147483647 : Int32)) (3 : Int32))), .val (.int 1), .val (.ref b121), .unset, .unset, .unset] [(.ref b137)])) _
        refine own_astore X149.here hx (hb hby at_65) rfl (l' := #[.val (.int p0), .val (.int p1), .val (.int (own_rem (p0 &&& (2147483647 : Int32)) (3 : Int32))), .val (.int (own_rem (p1 &&& (2147483647 : Int32)) (3 : Int32))), .val (.int 1), .val (.ref b121), .val (.ref b137), .unset, .unset]) rfl ?_
        refine own_aload X149.here hx (hb hby at_67) rfl rfl ?_
        refine st160.trans ?_
        show Steps p.tables e below (T160.setTop (mkF m 72 #[.val (.int p0), .val (.int p1), .val (.int (own_rem (p0 &&& (2147483647 : Int32)) (3 : Int32))), .val (.int (own_rem (p1 &&& (2147483647 : Int32)) (3 : Int32))), .val (.int 1), .val (.ref b121), .val (.ref b137), .unset, .unset] [(.int (own_keeps (own_pk aS aE aX (own_rem (p0 &&& (2147483647 : Int32)) (3 : Int32))) (own_pk aS aE aX (own_rem (p1 &&& (2147483647 : Int32)) (3 : Int32))) aX))])) _
        refine own_istore X160.here hx (hb hby at_72) (l' := #[.val (.int p0), .val (.int p1), .val (.int (own_rem (p0 &&& (2147483647 : Int32)) (3 : Int32))), .val (.int (own_rem (p1 &&& (2147483647 : Int32)) (3 : Int32))), .val (.int 1), .val (.ref b121), .val (.ref b137), .val (.int (own_keeps (own_pk aS aE aX (own_rem (p0 &&& (2147483647 : Int32)) (3 : Int32))) (own_pk aS aE aX (own_rem (p1 &&& (2147483647 : Int32)) (3 : Int32))) aX)), .unset]) rfl ?_
        refine own_aload X160.here hx (hb hby at_74) rfl rfl ?_
        refine st161.trans ?_
        show Steps p.tables e below (T161.setTop (mkF m 79 #[.val (.int p0), .val (.int p1), .val (.int (own_rem (p0 &&& (2147483647 : Int32)) (3 : Int32))), .val (.int (own_rem (p1 &&& (2147483647 : Int32)) (3 : Int32))), .val (.int 1), .val (.ref b121), .val (.ref b137), .val (.int (own_keeps (own_pk aS aE aX (own_rem (p0 &&& (2147483647 : Int32)) (3 : Int32))) (own_pk aS aE aX (own_rem (p1 &&& (2147483647 : Int32)) (3 : Int32))) aX)), .unset] [(.int (own_keeps (own_pk aS aE aX (own_rem (p1 &&& (2147483647 : Int32)) (3 : Int32))) (own_pk aS aE aX (own_rem (p0 &&& (2147483647 : Int32)) (3 : Int32))) aX))])) _
        refine own_istore X161.here hx (hb hby at_79) (l' := #[.val (.int p0), .val (.int p1), .val (.int (own_rem (p0 &&& (2147483647 : Int32)) (3 : Int32))), .val (.int (own_rem (p1 &&& (2147483647 : Int32)) (3 : Int32))), .val (.int 1), .val (.ref b121), .val (.ref b137), .val (.int (own_keeps (own_pk aS aE aX (own_rem (p0 &&& (2147483647 : Int32)) (3 : Int32))) (own_pk aS aE aX (own_rem (p1 &&& (2147483647 : Int32)) (3 : Int32))) aX)), .val (.int (own_keeps (own_pk aS aE aX (own_rem (p1 &&& (2147483647 : Int32)) (3 : Int32))) (own_pk aS aE aX (own_rem (p0 &&& (2147483647 : Int32)) (3 : Int32))) aX))]) rfl ?_
        refine own_iload X161.here hx (hb hby at_81) rfl ?_
        refine own_iload X161.here hx (hb hby at_83) rfl ?_
        refine own_icmpNo X161.here hx (hb hby at_85) (teq (own_kb (own_pk2 hc27))).2 ?_
        refine own_iload X161.here hx (hb hby at_88) rfl ?_
        refine own_iload X161.here hx (hb hby at_90) rfl ?_
        refine own_icmpNo X161.here hx (hb hby at_92) (teq (own_ka (own_pk2 hc27))).2 ?_
        refine own_iconst X161.here hx (1 : Int32) (hb hby at_95) rfl ?_
        refine own_goto X161.here hx 96 100 rfl (hb hby at_96) (by decide) (by decide) ?_
        exact retN X161 hx (t := .boolean) Bd.returns (by simp) (hb hby at_100) hr
      · show Q0 Z p0 p1 aS aE aX h0 n0 _ T161.heap _
        rw [e161]
        exact ⟨rfl, N161⟩
    · obtain ⟨T162, h162, X162, e162, E162, A162, D162, -, st162⟩ := newO X0 hx hZ hown (hw _ (List.mem_of_getElem? (i := 1) rfl)) (hw _ (List.mem_of_getElem? (i := 2) rfl)) (hw _ (List.mem_of_getElem? (i := 3) rfl)) e0 (g := (mkF m 33 #[.val (.int p0), .val (.int p1), .val (.int (own_rem (p0 &&& (2147483647 : Int32)) (3 : Int32))), .val (.int (own_rem (p1 &&& (2147483647 : Int32)) (3 : Int32))), .val (.int 0), .unset, .unset, .unset, .unset] [])) rfl (hb hby at_33) (by decide) (by decide)
      obtain ⟨b162, g162⟩ : ∃ z, z = h0.size := ⟨_, rfl⟩
      rw [← g162] at A162 D162 st162
      have E162' := E162
      have gg162 : n0 ≤ b162 := Nat.le_trans Z0 (Nat.le_of_eq g162.symm)
      have Z162 : n0 ≤ h162.size := Nat.le_trans Z0 E162.1
      have hk162 := Nat.le_trans hk0 E162.1
      have f163 : Sta Z h162 "com/example/forkline/forkline/schema/KeptFor" "STATE" "Lcom/example/forkline/forkline/schema/KeptFor;" (.ref aS) := S_STATE.ext E162
      have f164 : Sta Z h162 "com/example/forkline/forkline/schema/KeptFor" "SESSION" "Lcom/example/forkline/forkline/schema/KeptFor;" (.ref aE) := S_SESSION.ext E162
      have f165 : Sta Z h162 "com/example/forkline/forkline/schema/KeptFor" "EXPERIMENT" "Lcom/example/forkline/forkline/schema/KeptFor;" (.ref aX) := S_EXPERIMENT.ext E162
      have f166 : Fld Z h162 b162 "com/example/forkline/forkline/schema/TimeToLive" "qualification" "Lcom/example/forkline/forkline/schema/KeptFor;" .null := D162 (Or.inr (hw _ (List.mem_of_getElem? (i := 36) rfl))) (ty := (.object "com/example/forkline/forkline/schema/KeptFor")) (by decide)
      have f167 : Fld Z h162 b162 "com/example/forkline/forkline/schema/TimeToLive" "targeting" "Lcom/example/forkline/forkline/schema/KeptFor;" .null := D162 (Or.inr (hw _ (List.mem_of_getElem? (i := 38) rfl))) (ty := (.object "com/example/forkline/forkline/schema/KeptFor")) (by decide)
      obtain ⟨_, _, ⟨T168, L168, k168, n168⟩, -, X168, ⟨Lc168, hQ168, l168, y168, z168⟩, st168⟩ := Jvm.LawKit.callS X162 hx (y := (⟨"com/example/forkline/forkline/schema/TimeToLiveKeepsForExperimentPinLaw", "pick", "(I)Lcom/example/forkline/forkline/schema/KeptFor;"⟩ : MethodName)) hown (mvT hZ (hw _ (List.mem_of_getElem? (i := 4) rfl))) (mvT hZ (hw _ (List.mem_of_getElem? (i := 5) rfl))) (mvT hZ (hw _ (List.mem_of_getElem? (i := 6) rfl))) (mvT hZ (hw _ (List.mem_of_getElem? (i := 7) rfl))) (by decide) (backOf (W := 2) (rm1 l Z a0 hw [] (own_rem (p0 &&& (2147483647 : Int32)) (3 : Int32)) aS aE aX h162 n0 Z162 f163 f164 f165) hZ (hw _ (List.mem_of_getElem? (i := 7) rfl)) (hw _ (List.mem_of_getElem? (i := 6) rfl)) (by decide) (by decide)) (g := (mkF m 38 #[.val (.int p0), .val (.int p1), .val (.int (own_rem (p0 &&& (2147483647 : Int32)) (3 : Int32))), .val (.int (own_rem (p1 &&& (2147483647 : Int32)) (3 : Int32))), .val (.int 0), .unset, .unset, .unset, .unset] [(.int (own_rem (p0 &&& (2147483647 : Int32)) (3 : Int32))), (.ref b162), (.ref b162)])) rfl (by rw [hml]; rfl) (argsL := [(.int (own_rem (p0 &&& (2147483647 : Int32)) (3 : Int32)))]) (rest := [(.ref b162), (.ref b162)]) (lenOf pd_28I29Lcom2fexample2fforkline2fforkline2fschema2fKeptFor3b rfl) rfl (by show 2 * 0 + _ ≤ _; exact Nat.le_of_eq rfl) (hb hby at_38) (fun _ _ => ⟨rfl, e162, (by decide : 1 + 0 ≤ _), (by decide : 2 + 0 ≤ _)⟩)
      dsimp only [Pt.U, Pt.locs, Pt.cells, Pt.slots] at X168 l168 y168 z168 st168 hQ168
      subst l168 y168 z168
      obtain ⟨rfl, N168q, e168⟩ := hQ168
      have N168 := Fr.app N0 N168q
      obtain ⟨_, _, ⟨T169, L169, k169, n169⟩, -, X169, ⟨Lc169, hQ169, l169, y169, z169⟩, st169⟩ := Jvm.LawKit.callS X168 hx (y := (⟨"com/example/forkline/forkline/schema/TimeToLiveKeepsForExperimentPinLaw", "pick", "(I)Lcom/example/forkline/forkline/schema/KeptFor;"⟩ : MethodName)) hown (mvT hZ (hw _ (List.mem_of_getElem? (i := 4) rfl))) (mvT hZ (hw _ (List.mem_of_getElem? (i := 5) rfl))) (mvT hZ (hw _ (List.mem_of_getElem? (i := 6) rfl))) (mvT hZ (hw _ (List.mem_of_getElem? (i := 7) rfl))) (by decide) (backOf (W := 3) (rm1 l Z a0 hw [] (own_rem (p1 &&& (2147483647 : Int32)) (3 : Int32)) aS aE aX h162 n0 Z162 f163 f164 f165) hZ (hw _ (List.mem_of_getElem? (i := 7) rfl)) (hw _ (List.mem_of_getElem? (i := 6) rfl)) (by decide) (by decide)) (g := (mkF m 42 #[.val (.int p0), .val (.int p1), .val (.int (own_rem (p0 &&& (2147483647 : Int32)) (3 : Int32))), .val (.int (own_rem (p1 &&& (2147483647 : Int32)) (3 : Int32))), .val (.int 0), .unset, .unset, .unset, .unset] [(.int (own_rem (p1 &&& (2147483647 : Int32)) (3 : Int32))), (.ref (own_pk aS aE aX (own_rem (p0 &&& (2147483647 : Int32)) (3 : Int32)))), (.ref b162), (.ref b162)])) rfl (by rw [hml]; rfl) (argsL := [(.int (own_rem (p1 &&& (2147483647 : Int32)) (3 : Int32)))]) (rest := [(.ref (own_pk aS aE aX (own_rem (p0 &&& (2147483647 : Int32)) (3 : Int32)))), (.ref b162), (.ref b162)]) (lenOf pd_28I29Lcom2fexample2fforkline2fforkline2fschema2fKeptFor3b rfl) rfl (by show 2 * 0 + _ ≤ _; exact Nat.le_of_eq rfl) (hb hby at_42) (fun _ _ => ⟨rfl, e168, (by decide : 1 + 0 ≤ _), (by decide : 2 + 0 ≤ _)⟩)
      dsimp only [Pt.U, Pt.locs, Pt.cells, Pt.slots] at X169 l169 y169 z169 st169 hQ169
      subst l169 y169 z169
      obtain ⟨rfl, N169q, e169⟩ := hQ169
      have N169 := Fr.app N168 N169q
      have G171 : ∀ tG, Steps p.tables e below (T169.setTop (mkF m 45 #[.val (.int p0), .val (.int p1), .val (.int (own_rem (p0 &&& (2147483647 : Int32)) (3 : Int32))), .val (.int (own_rem (p1 &&& (2147483647 : Int32)) (3 : Int32))), .val (.int 0), .unset, .unset, .unset, .unset] [(.ref (own_pk aS aE aX (own_rem (p1 &&& (2147483647 : Int32)) (3 : Int32)))), (.ref (own_pk aS aE aX (own_rem (p0 &&& (2147483647 : Int32)) (3 : Int32)))), (.ref b162), (.ref b162)])) tG → Steps p.tables e below (s₁.setTop (mkF m 0 #[.val (.int p0), .val (.int p1), .unset, .unset, .unset, .unset, .unset, .unset, .unset] [])) tG := by
        intro tG kG
        refine G120 _ ?_
        refine own_icmpYes X0.here hx 27 33 rfl (hb hby at_27) (feq hc27).2 (by decide) (by decide) ?_
        refine st162 _ ?_
        show Steps p.tables e below (T162.setTop (mkF m 36 #[.val (.int p0), .val (.int p1), .val (.int (own_rem (p0 &&& (2147483647 : Int32)) (3 : Int32))), .val (.int (own_rem (p1 &&& (2147483647 : Int32)) (3 : Int32))), .val (.int 0), .unset, .unset, .unset, .unset] [(.ref b162)])) _
        refine own_dup X162.here hx (hb hby at_36) rfl ?_
        refine own_iloadN X162.here hx (hb hby at_37) rfl ?_
        refine st168 _ ?_
        show Steps p.tables e below (T168.setTop (mkF m 41 #[.val (.int p0), .val (.int p1), .val (.int (own_rem (p0 &&& (2147483647 : Int32)) (3 : Int32))), .val (.int (own_rem (p1 &&& (2147483647 : Int32)) (3 : Int32))), .val (.int 0), .unset, .unset, .unset, .unset] [(.ref (own_pk aS aE aX (own_rem (p0 &&& (2147483647 : Int32)) (3 : Int32)))), (.ref b162), (.ref b162)])) _
        refine own_iloadN X168.here hx (hb hby at_41) rfl ?_
        refine st169 _ ?_
        exact kG
      obtain ⟨_, _, ⟨T170, L170, k170, n170⟩, -, X170, hS170', hg170', ⟨Lc170, hQ170, l170, y170, z170⟩, st170⟩ := X169.specialBackS hx (y := (⟨"com/example/forkline/forkline/schema/TimeToLive", "<init>", "(Lcom/example/forkline/forkline/schema/KeptFor;Lcom/example/forkline/forkline/schema/KeptFor;)V"⟩ : MethodName)) rfl hown (mvT hZ (hw _ (List.mem_of_getElem? (i := 11) rfl))) (mvT hZ (hw _ (List.mem_of_getElem? (i := 12) rfl))) (mvT hZ (hw _ (List.mem_of_getElem? (i := 13) rfl))) (by decide) (backOfS (W := 1) (rm4 l Z a0 hw [] b162 (own_pk aS aE aX (own_rem (p0 &&& (2147483647 : Int32)) (3 : Int32))) (own_pk aS aE aX (own_rem (p1 &&& (2147483647 : Int32)) (3 : Int32))) h162 n0 Z162 A162 gg162 f166 f167) hZ (hw _ (List.mem_of_getElem? (i := 13) rfl)) (hw _ (List.mem_of_getElem? (i := 3) rfl)) (by decide) (by decide)) (g := (mkF m 45 #[.val (.int p0), .val (.int p1), .val (.int (own_rem (p0 &&& (2147483647 : Int32)) (3 : Int32))), .val (.int (own_rem (p1 &&& (2147483647 : Int32)) (3 : Int32))), .val (.int 0), .unset, .unset, .unset, .unset] [(.ref (own_pk aS aE aX (own_rem (p1 &&& (2147483647 : Int32)) (3 : Int32)))), (.ref (own_pk aS aE aX (own_rem (p0 &&& (2147483647 : Int32)) (3 : Int32)))), (.ref b162), (.ref b162)])) rfl (by rw [hml]; rfl) (Steps.refl _) (a := b162) (argsL := [(.ref (own_pk aS aE aX (own_rem (p0 &&& (2147483647 : Int32)) (3 : Int32)))), (.ref (own_pk aS aE aX (own_rem (p1 &&& (2147483647 : Int32)) (3 : Int32))))]) (rest := [(.ref b162)]) (lenOf pd_28Lcom2fexample2fforkline2fforkline2fschema2fKeptFor3bLcom2fexample2fforkline2fforkline2fschema2fKeptFor3b29V rfl) rfl (by show 2 * 0 + _ ≤ _; exact Nat.le_of_eq rfl) (hb hby at_45) (fun _ _ => ⟨rfl, e169, (by decide : 1 + 4 ≤ _), (by decide : 2 + 96 ≤ _)⟩)
      dsimp only [Pt.U, Pt.locs, Pt.cells, Pt.slots] at X170 l170 y170 z170 st170 hQ170 hS170' hg170'
      subst l170 y170 z170
      obtain ⟨X170, hS170, hZ, hown⟩ := rebS (s := s) (vm0 := s.vm) hS0 (by rw [e169]; exact hk162) X170 hS170' hg170' hZ hown
      have hk170 := Nat.le_refl T170.heap.size
      obtain ⟨rfl, N170q, K170, E170x, F170x, F170y⟩ := hQ170
      have N170 := Fr.app N169 N170q
      have Z170 : n0 ≤ T170.heap.size := Nat.le_trans Z162 K170.1
      have f172 : Sta Z T170.heap "com/example/forkline/forkline/schema/KeptFor" "STATE" "Lcom/example/forkline/forkline/schema/KeptFor;" (.ref aS) := own_sta_keep f163 K170 A162
      have f173 : Sta Z T170.heap "com/example/forkline/forkline/schema/KeptFor" "SESSION" "Lcom/example/forkline/forkline/schema/KeptFor;" (.ref aE) := own_sta_keep f164 K170 A162
      have f174 : Sta Z T170.heap "com/example/forkline/forkline/schema/KeptFor" "EXPERIMENT" "Lcom/example/forkline/forkline/schema/KeptFor;" (.ref aX) := own_sta_keep f165 K170 A162
      have f175 : Exa Z T170.heap b162 "com/example/forkline/forkline/schema/TimeToLive" := A162.keep K170
      obtain ⟨T178, h178, X178, e178, E178, A178, D178, -, st178⟩ := newO X170 hx hZ hown (hw _ (List.mem_of_getElem? (i := 1) rfl)) (hw _ (List.mem_of_getElem? (i := 2) rfl)) (hw _ (List.mem_of_getElem? (i := 3) rfl)) rfl (g := (mkF m 50 #[.val (.int p0), .val (.int p1), .val (.int (own_rem (p0 &&& (2147483647 : Int32)) (3 : Int32))), .val (.int (own_rem (p1 &&& (2147483647 : Int32)) (3 : Int32))), .val (.int 0), .val (.ref b162), .unset, .unset, .unset] [])) rfl (hb hby at_50) (by decide) (by decide)
      obtain ⟨b178, g178⟩ : ∃ z, z = T170.heap.size := ⟨_, rfl⟩
      rw [← g178] at A178 D178 st178
      have E178' := E178
      have gg178 : n0 ≤ b178 := Nat.le_trans Z170 (Nat.le_of_eq g178.symm)
      have ne179 : b162 ≠ b178 := Nat.ne_of_lt (Nat.lt_of_lt_of_le E170x.lt (Nat.le_of_eq g178.symm))
      have Z178 : n0 ≤ h178.size := Nat.le_trans Z170 E178.1
      have hk178 := Nat.le_trans hk170 E178.1
      have f180 : Sta Z h178 "com/example/forkline/forkline/schema/KeptFor" "STATE" "Lcom/example/forkline/forkline/schema/KeptFor;" (.ref aS) := f172.ext E178
      have f181 : Sta Z h178 "com/example/forkline/forkline/schema/KeptFor" "SESSION" "Lcom/example/forkline/forkline/schema/KeptFor;" (.ref aE) := f173.ext E178
      have f182 : Sta Z h178 "com/example/forkline/forkline/schema/KeptFor" "EXPERIMENT" "Lcom/example/forkline/forkline/schema/KeptFor;" (.ref aX) := f174.ext E178
      have f183 : Exa Z h178 b162 "com/example/forkline/forkline/schema/TimeToLive" := E170x.ext E178
      have f184 : Fld Z h178 b162 "com/example/forkline/forkline/schema/TimeToLive" "qualification" "Lcom/example/forkline/forkline/schema/KeptFor;" (.ref (own_pk aS aE aX (own_rem (p0 &&& (2147483647 : Int32)) (3 : Int32)))) := F170x.ext E178
      have f185 : Fld Z h178 b162 "com/example/forkline/forkline/schema/TimeToLive" "targeting" "Lcom/example/forkline/forkline/schema/KeptFor;" (.ref (own_pk aS aE aX (own_rem (p1 &&& (2147483647 : Int32)) (3 : Int32)))) := F170y.ext E178
      have f186 : Fld Z h178 b178 "com/example/forkline/forkline/schema/TimeToLive" "qualification" "Lcom/example/forkline/forkline/schema/KeptFor;" .null := D178 (Or.inr (hw _ (List.mem_of_getElem? (i := 36) rfl))) (ty := (.object "com/example/forkline/forkline/schema/KeptFor")) (by decide)
      have f187 : Fld Z h178 b178 "com/example/forkline/forkline/schema/TimeToLive" "targeting" "Lcom/example/forkline/forkline/schema/KeptFor;" .null := D178 (Or.inr (hw _ (List.mem_of_getElem? (i := 38) rfl))) (ty := (.object "com/example/forkline/forkline/schema/KeptFor")) (by decide)
      obtain ⟨_, _, ⟨T188, L188, k188, n188⟩, -, X188, ⟨Lc188, hQ188, l188, y188, z188⟩, st188⟩ := Jvm.LawKit.callS X178 hx (y := (⟨"com/example/forkline/forkline/schema/TimeToLiveKeepsForExperimentPinLaw", "pick", "(I)Lcom/example/forkline/forkline/schema/KeptFor;"⟩ : MethodName)) hown (mvT hZ (hw _ (List.mem_of_getElem? (i := 4) rfl))) (mvT hZ (hw _ (List.mem_of_getElem? (i := 5) rfl))) (mvT hZ (hw _ (List.mem_of_getElem? (i := 6) rfl))) (mvT hZ (hw _ (List.mem_of_getElem? (i := 7) rfl))) (by decide) (backOf (W := 2) (rm1 l Z a0 hw [] (own_rem (p1 &&& (2147483647 : Int32)) (3 : Int32)) aS aE aX h178 n0 Z178 f180 f181 f182) hZ (hw _ (List.mem_of_getElem? (i := 7) rfl)) (hw _ (List.mem_of_getElem? (i := 6) rfl)) (by decide) (by decide)) (g := (mkF m 55 #[.val (.int p0), .val (.int p1), .val (.int (own_rem (p0 &&& (2147483647 : Int32)) (3 : Int32))), .val (.int (own_rem (p1 &&& (2147483647 : Int32)) (3 : Int32))), .val (.int 0), .val (.ref b162), .unset, .unset, .unset] [(.int (own_rem (p1 &&& (2147483647 : Int32)) (3 : Int32))), (.ref b178), (.ref b178)])) rfl (by rw [hml]; rfl) (argsL := [(.int (own_rem (p1 &&& (2147483647 : Int32)) (3 : Int32)))]) (rest := [(.ref b178), (.ref b178)]) (lenOf pd_28I29Lcom2fexample2fforkline2fforkline2fschema2fKeptFor3b rfl) rfl (by show 2 * 0 + _ ≤ _; exact Nat.le_of_eq rfl) (hb hby at_55) (fun _ _ => ⟨rfl, e178, (by decide : 6 + 0 ≤ _), (by decide : 100 + 0 ≤ _)⟩)
      dsimp only [Pt.U, Pt.locs, Pt.cells, Pt.slots] at X188 l188 y188 z188 st188 hQ188
      subst l188 y188 z188
      obtain ⟨rfl, N188q, e188⟩ := hQ188
      have N188 := Fr.app N170 N188q
      obtain ⟨_, _, ⟨T189, L189, k189, n189⟩, -, X189, ⟨Lc189, hQ189, l189, y189, z189⟩, st189⟩ := Jvm.LawKit.callS X188 hx (y := (⟨"com/example/forkline/forkline/schema/TimeToLiveKeepsForExperimentPinLaw", "pick", "(I)Lcom/example/forkline/forkline/schema/KeptFor;"⟩ : MethodName)) hown (mvT hZ (hw _ (List.mem_of_getElem? (i := 4) rfl))) (mvT hZ (hw _ (List.mem_of_getElem? (i := 5) rfl))) (mvT hZ (hw _ (List.mem_of_getElem? (i := 6) rfl))) (mvT hZ (hw _ (List.mem_of_getElem? (i := 7) rfl))) (by decide) (backOf (W := 3) (rm1 l Z a0 hw [] (own_rem (p0 &&& (2147483647 : Int32)) (3 : Int32)) aS aE aX h178 n0 Z178 f180 f181 f182) hZ (hw _ (List.mem_of_getElem? (i := 7) rfl)) (hw _ (List.mem_of_getElem? (i := 6) rfl)) (by decide) (by decide)) (g := (mkF m 59 #[.val (.int p0), .val (.int p1), .val (.int (own_rem (p0 &&& (2147483647 : Int32)) (3 : Int32))), .val (.int (own_rem (p1 &&& (2147483647 : Int32)) (3 : Int32))), .val (.int 0), .val (.ref b162), .unset, .unset, .unset] [(.int (own_rem (p0 &&& (2147483647 : Int32)) (3 : Int32))), (.ref (own_pk aS aE aX (own_rem (p1 &&& (2147483647 : Int32)) (3 : Int32)))), (.ref b178), (.ref b178)])) rfl (by rw [hml]; rfl) (argsL := [(.int (own_rem (p0 &&& (2147483647 : Int32)) (3 : Int32)))]) (rest := [(.ref (own_pk aS aE aX (own_rem (p1 &&& (2147483647 : Int32)) (3 : Int32)))), (.ref b178), (.ref b178)]) (lenOf pd_28I29Lcom2fexample2fforkline2fforkline2fschema2fKeptFor3b rfl) rfl (by show 2 * 0 + _ ≤ _; exact Nat.le_of_eq rfl) (hb hby at_59) (fun _ _ => ⟨rfl, e188, (by decide : 6 + 0 ≤ _), (by decide : 100 + 0 ≤ _)⟩)
      dsimp only [Pt.U, Pt.locs, Pt.cells, Pt.slots] at X189 l189 y189 z189 st189 hQ189
      subst l189 y189 z189
      obtain ⟨rfl, N189q, e189⟩ := hQ189
      have N189 := Fr.app N188 N189q
      have G191 : ∀ tG, Steps p.tables e below (T189.setTop (mkF m 62 #[.val (.int p0), .val (.int p1), .val (.int (own_rem (p0 &&& (2147483647 : Int32)) (3 : Int32))), .val (.int (own_rem (p1 &&& (2147483647 : Int32)) (3 : Int32))), .val (.int 0), .val (.ref b162), .unset, .unset, .unset] [(.ref (own_pk aS aE aX (own_rem (p0 &&& (2147483647 : Int32)) (3 : Int32)))), (.ref (own_pk aS aE aX (own_rem (p1 &&& (2147483647 : Int32)) (3 : Int32)))), (.ref b178), (.ref b178)])) tG → Steps p.tables e below (s₁.setTop (mkF m 0 #[.val (.int p0), .val (.int p1), .unset, .unset, .unset, .unset, .unset, .unset, .unset] [])) tG := by
        intro tG kG
        refine G171 _ ?_
        refine st170.trans ?_
        show Steps p.tables e below (T170.setTop (mkF m 48 #[.val (.int p0), .val (.int p1), .val (.int (own_rem (p0 &&& (2147483647 : Int32)) (3 : Int32))), .val (.int (own_rem (p1 &&& (2147483647 : Int32)) (3 : Int32))), .val (.int 0), .unset, .unset, .unset, .unset] [(.ref b162)])) _
        refine own_astore X170.here hx (hb hby at_48) rfl (l' := #[.val (.int p0), .val (.int p1), .val (.int (own_rem (p0 &&& (2147483647 : Int32)) (3 : Int32))), .val (.int (own_rem (p1 &&& (2147483647 : Int32)) (3 : Int32))), .val (.int 0), .val (.ref b162), .unset, .unset, .unset]) rfl ?_
        refine st178 _ ?_
        show Steps p.tables e below (T178.setTop (mkF m 53 #[.val (.int p0), .val (.int p1), .val (.int (own_rem (p0 &&& (2147483647 : Int32)) (3 : Int32))), .val (.int (own_rem (p1 &&& (2147483647 : Int32)) (3 : Int32))), .val (.int 0), .val (.ref b162), .unset, .unset, .unset] [(.ref b178)])) _
        refine own_dup X178.here hx (hb hby at_53) rfl ?_
        refine own_iloadN X178.here hx (hb hby at_54) rfl ?_
        refine st188 _ ?_
        show Steps p.tables e below (T188.setTop (mkF m 58 #[.val (.int p0), .val (.int p1), .val (.int (own_rem (p0 &&& (2147483647 : Int32)) (3 : Int32))), .val (.int (own_rem (p1 &&& (2147483647 : Int32)) (3 : Int32))), .val (.int 0), .val (.ref b162), .unset, .unset, .unset] [(.ref (own_pk aS aE aX (own_rem (p1 &&& (2147483647 : Int32)) (3 : Int32)))), (.ref b178), (.ref b178)])) _
        refine own_iloadN X188.here hx (hb hby at_58) rfl ?_
        refine st189 _ ?_
        exact kG
      obtain ⟨_, _, ⟨T190, L190, k190, n190⟩, -, X190, hS190', hg190', ⟨Lc190, hQ190, l190, y190, z190⟩, st190⟩ := X189.specialBackS hx (y := (⟨"com/example/forkline/forkline/schema/TimeToLive", "<init>", "(Lcom/example/forkline/forkline/schema/KeptFor;Lcom/example/forkline/forkline/schema/KeptFor;)V"⟩ : MethodName)) rfl hown (mvT hZ (hw _ (List.mem_of_getElem? (i := 11) rfl))) (mvT hZ (hw _ (List.mem_of_getElem? (i := 12) rfl))) (mvT hZ (hw _ (List.mem_of_getElem? (i := 13) rfl))) (by decide) (backOfS (W := 1) (rm4 l Z a0 hw [] b178 (own_pk aS aE aX (own_rem (p1 &&& (2147483647 : Int32)) (3 : Int32))) (own_pk aS aE aX (own_rem (p0 &&& (2147483647 : Int32)) (3 : Int32))) h178 n0 Z178 A178 gg178 f186 f187) hZ (hw _ (List.mem_of_getElem? (i := 13) rfl)) (hw _ (List.mem_of_getElem? (i := 3) rfl)) (by decide) (by decide)) (g := (mkF m 62 #[.val (.int p0), .val (.int p1), .val (.int (own_rem (p0 &&& (2147483647 : Int32)) (3 : Int32))), .val (.int (own_rem (p1 &&& (2147483647 : Int32)) (3 : Int32))), .val (.int 0), .val (.ref b162), .unset, .unset, .unset] [(.ref (own_pk aS aE aX (own_rem (p0 &&& (2147483647 : Int32)) (3 : Int32)))), (.ref (own_pk aS aE aX (own_rem (p1 &&& (2147483647 : Int32)) (3 : Int32)))), (.ref b178), (.ref b178)])) rfl (by rw [hml]; rfl) (Steps.refl _) (a := b178) (argsL := [(.ref (own_pk aS aE aX (own_rem (p1 &&& (2147483647 : Int32)) (3 : Int32)))), (.ref (own_pk aS aE aX (own_rem (p0 &&& (2147483647 : Int32)) (3 : Int32))))]) (rest := [(.ref b178)]) (lenOf pd_28Lcom2fexample2fforkline2fforkline2fschema2fKeptFor3bLcom2fexample2fforkline2fforkline2fschema2fKeptFor3b29V rfl) rfl (by show 2 * 0 + _ ≤ _; exact Nat.le_of_eq rfl) (hb hby at_62) (fun _ _ => ⟨rfl, e189, (by decide : 6 + 4 ≤ _), (by decide : 100 + 96 ≤ _)⟩)
      dsimp only [Pt.U, Pt.locs, Pt.cells, Pt.slots] at X190 l190 y190 z190 st190 hQ190 hS190' hg190'
      subst l190 y190 z190
      obtain ⟨X190, hS190, hZ, hown⟩ := rebS (s := s) (vm0 := T170.vm) hS170 (by rw [e189]; exact hk178) X190 hS190' hg190' hZ hown
      have hk190 := Nat.le_refl T190.heap.size
      obtain ⟨rfl, N190q, K190, E190x, F190x, F190y⟩ := hQ190
      have N190 := Fr.app N189 N190q
      have Z190 : n0 ≤ T190.heap.size := Nat.le_trans Z178 K190.1
      have f192 : Sta Z T190.heap "com/example/forkline/forkline/schema/KeptFor" "STATE" "Lcom/example/forkline/forkline/schema/KeptFor;" (.ref aS) := own_sta_keep f180 K190 A178
      have f193 : Sta Z T190.heap "com/example/forkline/forkline/schema/KeptFor" "SESSION" "Lcom/example/forkline/forkline/schema/KeptFor;" (.ref aE) := own_sta_keep f181 K190 A178
      have f194 : Sta Z T190.heap "com/example/forkline/forkline/schema/KeptFor" "EXPERIMENT" "Lcom/example/forkline/forkline/schema/KeptFor;" (.ref aX) := own_sta_keep f182 K190 A178
      have f195 : Exa Z T190.heap b162 "com/example/forkline/forkline/schema/TimeToLive" := f183.keep K190
      have f196 : Fld Z T190.heap b162 "com/example/forkline/forkline/schema/TimeToLive" "qualification" "Lcom/example/forkline/forkline/schema/KeptFor;" (.ref (own_pk aS aE aX (own_rem (p0 &&& (2147483647 : Int32)) (3 : Int32)))) := f184.keep K190 (ninS ne179 nin0)
      have f197 : Fld Z T190.heap b162 "com/example/forkline/forkline/schema/TimeToLive" "targeting" "Lcom/example/forkline/forkline/schema/KeptFor;" (.ref (own_pk aS aE aX (own_rem (p1 &&& (2147483647 : Int32)) (3 : Int32)))) := f185.keep K190 (ninS ne179 nin0)
      have f198 : Exa Z T190.heap b178 "com/example/forkline/forkline/schema/TimeToLive" := A178.keep K190
      obtain ⟨cq201, kq201, q201a, q201b, q201c⟩ := isOf hZ rfl f195
      obtain ⟨_, _, ⟨T201, L201, k201, n201⟩, -, X201, ⟨Lc201, hQ201, l201, y201, z201⟩, st201⟩ := X190.virtualBack hx (y := (⟨"com/example/forkline/forkline/schema/TimeToLive", "keepsForExperiment", "()Z"⟩ : MethodName)) (z := (⟨"com/example/forkline/forkline/schema/TimeToLive", "keepsForExperiment", "()Z"⟩ : MethodName)) hown (mvT hZ (hw _ (List.mem_of_getElem? (i := 39) rfl))) (mvT hZ (hw _ (List.mem_of_getElem? (i := 40) rfl))) (notFace_of_selects (args := #[]) (mvT hZ (hw _ (List.mem_of_getElem? (i := 42) rfl)))) (mvT hZ (hw _ (List.mem_of_getElem? (i := 42) rfl))) (mvT hZ (hw _ (List.mem_of_getElem? (i := 41) rfl))) (by decide) (backOf (W := 0) (rm5 l Z a0 hw [] b162 (own_pk aS aE aX (own_rem (p0 &&& (2147483647 : Int32)) (3 : Int32))) (own_pk aS aE aX (own_rem (p1 &&& (2147483647 : Int32)) (3 : Int32))) aX T190.heap n0 Z190 f196 f197 f194) hZ (hw _ (List.mem_of_getElem? (i := 43) rfl)) (hw _ (List.mem_of_getElem? (i := 3) rfl)) (by decide) (by decide)) q201a q201c (g := (mkF m 69 #[.val (.int p0), .val (.int p1), .val (.int (own_rem (p0 &&& (2147483647 : Int32)) (3 : Int32))), .val (.int (own_rem (p1 &&& (2147483647 : Int32)) (3 : Int32))), .val (.int 0), .val (.ref b162), .val (.ref b178), .unset, .unset] [(.ref b162)])) rfl (by rw [hml]; rfl) (Steps.refl _) (argsL := []) (rest := []) (lenOf pd_2829Z rfl) rfl (by show 2 * 0 + _ ≤ _; exact Nat.le_of_eq rfl) (hb hby at_69) (fun _ _ => ⟨rfl, rfl, (by decide : 10 + 0 ≤ _), (by decide : 196 + 0 ≤ _)⟩)
      dsimp only [Pt.U, Pt.locs, Pt.cells, Pt.slots] at X201 l201 y201 z201 st201 hQ201
      subst l201 y201 z201
      obtain ⟨rfl, N201q, e201⟩ := hQ201
      have N201 := Fr.app N190 N201q
      obtain ⟨cq202, kq202, q202a, q202b, q202c⟩ := isOf hZ e201 E190x
      obtain ⟨_, _, ⟨T202, L202, k202, n202⟩, -, X202, ⟨Lc202, hQ202, l202, y202, z202⟩, st202⟩ := X201.virtualBack hx (y := (⟨"com/example/forkline/forkline/schema/TimeToLive", "keepsForExperiment", "()Z"⟩ : MethodName)) (z := (⟨"com/example/forkline/forkline/schema/TimeToLive", "keepsForExperiment", "()Z"⟩ : MethodName)) hown (mvT hZ (hw _ (List.mem_of_getElem? (i := 39) rfl))) (mvT hZ (hw _ (List.mem_of_getElem? (i := 40) rfl))) (notFace_of_selects (args := #[]) (mvT hZ (hw _ (List.mem_of_getElem? (i := 42) rfl)))) (mvT hZ (hw _ (List.mem_of_getElem? (i := 42) rfl))) (mvT hZ (hw _ (List.mem_of_getElem? (i := 41) rfl))) (by decide) (backOf (W := 0) (rm5 l Z a0 hw [] b178 (own_pk aS aE aX (own_rem (p1 &&& (2147483647 : Int32)) (3 : Int32))) (own_pk aS aE aX (own_rem (p0 &&& (2147483647 : Int32)) (3 : Int32))) aX T190.heap n0 Z190 F190x F190y f194) hZ (hw _ (List.mem_of_getElem? (i := 43) rfl)) (hw _ (List.mem_of_getElem? (i := 3) rfl)) (by decide) (by decide)) q202a q202c (g := (mkF m 76 #[.val (.int p0), .val (.int p1), .val (.int (own_rem (p0 &&& (2147483647 : Int32)) (3 : Int32))), .val (.int (own_rem (p1 &&& (2147483647 : Int32)) (3 : Int32))), .val (.int 0), .val (.ref b162), .val (.ref b178), .val (.int (own_keeps (own_pk aS aE aX (own_rem (p0 &&& (2147483647 : Int32)) (3 : Int32))) (own_pk aS aE aX (own_rem (p1 &&& (2147483647 : Int32)) (3 : Int32))) aX)), .unset] [(.ref b178)])) rfl (by rw [hml]; rfl) (Steps.refl _) (argsL := []) (rest := []) (lenOf pd_2829Z rfl) rfl (by show 2 * 0 + _ ≤ _; exact Nat.le_of_eq rfl) (hb hby at_76) (fun _ _ => ⟨rfl, e201, (by decide : 10 + 0 ≤ _), (by decide : 196 + 0 ≤ _)⟩)
      dsimp only [Pt.U, Pt.locs, Pt.cells, Pt.slots] at X202 l202 y202 z202 st202 hQ202
      subst l202 y202 z202
      obtain ⟨rfl, N202q, e202⟩ := hQ202
      have N202 := Fr.app N201 N202q
      obtain ⟨fs, hr, hrun, hended, hW⟩ := Stand.leaveW (s := s) (vm₁ := T190.vm) X202 hS190 (by rw [e202]; exact hk190) (v := some (.int 1)) (fun h => by rw [Bd.returns] at h; cases h)
      refine ⟨_, _, pre0 _ ?_, hrun, hended, _, _, rfl, ?_, hW.1, hW.2.1, hW.2.2.1, hW.2.2.2.mono (by decide) (by decide)⟩
      · refine G191 _ ?_
        refine st190.trans ?_
        show Steps p.tables e below (T190.setTop (mkF m 65 #[.val (.int p0), .val (.int p1), .val (.int (own_rem (p0 &&& (2147483647 : Int32)) (3 : Int32))), .val (.int (own_rem (p1 &&& (2147483647 : Int32)) (3 : Int32))), .val (.int 0), .val (.ref b162), .unset, .unset, .unset] [(.ref b178)])) _
        refine own_astore X190.here hx (hb hby at_65) rfl (l' := #[.val (.int p0), .val (.int p1), .val (.int (own_rem (p0 &&& (2147483647 : Int32)) (3 : Int32))), .val (.int (own_rem (p1 &&& (2147483647 : Int32)) (3 : Int32))), .val (.int 0), .val (.ref b162), .val (.ref b178), .unset, .unset]) rfl ?_
        refine own_aload X190.here hx (hb hby at_67) rfl rfl ?_
        refine st201.trans ?_
        show Steps p.tables e below (T201.setTop (mkF m 72 #[.val (.int p0), .val (.int p1), .val (.int (own_rem (p0 &&& (2147483647 : Int32)) (3 : Int32))), .val (.int (own_rem (p1 &&& (2147483647 : Int32)) (3 : Int32))), .val (.int 0), .val (.ref b162), .val (.ref b178), .unset, .unset] [(.int (own_keeps (own_pk aS aE aX (own_rem (p0 &&& (2147483647 : Int32)) (3 : Int32))) (own_pk aS aE aX (own_rem (p1 &&& (2147483647 : Int32)) (3 : Int32))) aX))])) _
        refine own_istore X201.here hx (hb hby at_72) (l' := #[.val (.int p0), .val (.int p1), .val (.int (own_rem (p0 &&& (2147483647 : Int32)) (3 : Int32))), .val (.int (own_rem (p1 &&& (2147483647 : Int32)) (3 : Int32))), .val (.int 0), .val (.ref b162), .val (.ref b178), .val (.int (own_keeps (own_pk aS aE aX (own_rem (p0 &&& (2147483647 : Int32)) (3 : Int32))) (own_pk aS aE aX (own_rem (p1 &&& (2147483647 : Int32)) (3 : Int32))) aX)), .unset]) rfl ?_
        refine own_aload X201.here hx (hb hby at_74) rfl rfl ?_
        refine st202.trans ?_
        show Steps p.tables e below (T202.setTop (mkF m 79 #[.val (.int p0), .val (.int p1), .val (.int (own_rem (p0 &&& (2147483647 : Int32)) (3 : Int32))), .val (.int (own_rem (p1 &&& (2147483647 : Int32)) (3 : Int32))), .val (.int 0), .val (.ref b162), .val (.ref b178), .val (.int (own_keeps (own_pk aS aE aX (own_rem (p0 &&& (2147483647 : Int32)) (3 : Int32))) (own_pk aS aE aX (own_rem (p1 &&& (2147483647 : Int32)) (3 : Int32))) aX)), .unset] [(.int (own_keeps (own_pk aS aE aX (own_rem (p1 &&& (2147483647 : Int32)) (3 : Int32))) (own_pk aS aE aX (own_rem (p0 &&& (2147483647 : Int32)) (3 : Int32))) aX))])) _
        refine own_istore X202.here hx (hb hby at_79) (l' := #[.val (.int p0), .val (.int p1), .val (.int (own_rem (p0 &&& (2147483647 : Int32)) (3 : Int32))), .val (.int (own_rem (p1 &&& (2147483647 : Int32)) (3 : Int32))), .val (.int 0), .val (.ref b162), .val (.ref b178), .val (.int (own_keeps (own_pk aS aE aX (own_rem (p0 &&& (2147483647 : Int32)) (3 : Int32))) (own_pk aS aE aX (own_rem (p1 &&& (2147483647 : Int32)) (3 : Int32))) aX)), .val (.int (own_keeps (own_pk aS aE aX (own_rem (p1 &&& (2147483647 : Int32)) (3 : Int32))) (own_pk aS aE aX (own_rem (p0 &&& (2147483647 : Int32)) (3 : Int32))) aX))]) rfl ?_
        refine own_iload X202.here hx (hb hby at_81) rfl ?_
        refine own_iload X202.here hx (hb hby at_83) rfl ?_
        refine own_icmpNo X202.here hx (hb hby at_85) (teq (own_kn (own_pkn (own_k3 p0) hc19 d1 d2) (own_pkn (own_k3 p1) hc27 d1 d2))).2 ?_
        refine own_iload X202.here hx (hb hby at_88) rfl ?_
        refine own_iload X202.here hx (hb hby at_90) rfl ?_
        refine own_icmpNo X202.here hx (hb hby at_92) (teq (own_kn (own_pkn (own_k3 p1) hc27 d1 d2) (own_pkn (own_k3 p0) hc19 d1 d2))).2 ?_
        refine own_iconst X202.here hx (1 : Int32) (hb hby at_95) rfl ?_
        refine own_goto X202.here hx 96 100 rfl (hb hby at_96) (by decide) (by decide) ?_
        exact retN X202 hx (t := .boolean) Bd.returns (by simp) (hb hby at_100) hr
      · show Q0 Z p0 p1 aS aE aX h0 n0 _ T202.heap _
        rw [e202]
        exact ⟨rfl, N202⟩
theorem own_eqI {args : Array Value} {first s : State} {o : Option Outcome} {idx : List Nat} {t : Term} {k : Int32} (h : (Cond.eq t (.int k)).value args first o s idx = some true) : t.eval args first o idx s = some (.int k) := by
  cases ha : t.eval args first o idx s with
  | none => simp [Cond.value, ha] at h
  | some x => cases x <;> simp_all [Cond.value, Term.eval]
set_option maxRecDepth 65536 in
set_option maxHeartbeats 40000000 in
theorem comes_1 {Post : Tables → Env → Array Value → State → Outcome → State → Prop} (hpost : ∀ tb e args s v u, (limb_1_1.after args s (.returned v) u = true ∧ limb_1_2.after args s (.returned v) u = true ∧ True) → ReturnedEndW s (.returned v) u (Jvm.fieldLocs frame_1_writes args s ++ Jvm.arrayLocs frame_1_arrays args s ++ Jvm.staticLocs frame_1_statics s) 16 2176 → Post tb e args s (.returned v) u) :
    ArmFor flags0 classFile x code maxLocals ret World_1 tables_1 room_1 Calls_1 rest_1 Pre_1 Post := by
  intro l hfl _ _ p e ha hc hk s m args below hf hA hF happ hP
  obtain ⟨hcalls, hrest, hpre⟩ := hP
  obtain ⟨-, -, -, hnamed, -, -, -, hat⟩ := (Spec.applies_iff hf).mp happ
  obtain ⟨hg, hn⟩ := and_e (Cond.before_iff.mp (show (Jvm.Cond.and given_1 narrow_1).before args s = true from hpre))
  obtain ⟨gv1, gv2⟩ := and_e hg
  obtain ⟨gv3, gv4⟩ := and_e gv2
  obtain ⟨w0, w1, rfl⟩ : ∃ w0 w1 : Value, args = #[w0, w1] := by
    have hs : args.size = 2 := by simpa [Cond.value, given_1] using gv1
    obtain ⟨L⟩ := args
    match L, hs with
    | [w0, w1], _ => exact ⟨w0, w1, rfl⟩
  have hw := fun d (hd : d ∈ tables_1) => atoms_spec (ws := Jvm.Cond.code x code maxLocals ret :: tables_1) hat d (List.mem_cons_of_mem _ hd)
  have hfit : Fit s := fun {y c} hc i hi => by
    obtain ⟨ha, rfl⟩ := Array.getElem?_eq_some_iff.mp hc
    have q := List.all_eq_true.mp ((Array.all_eq_true_iff_forall_mem.mp hF) _ (Array.getElem_mem ha)) i (List.mem_range.mpr hi)
    simpa [Array.getElem?_eq_getElem hi] using q
  obtain ⟨i0, ei0⟩ := is_v gv3
  obtain rfl : w0 = (.int i0) := Option.some.inj ei0
  obtain ⟨i1, ei1⟩ := is_v gv4
  obtain rfl : w1 = (.int i1) := Option.some.inj ei1
  obtain ⟨n0, r0⟩ := and_e hn
  obtain ⟨n1, r1⟩ := and_e r0
  obtain ⟨n2, r2⟩ := and_e r1
  obtain ⟨n3, r3⟩ := and_e r2
  obtain ⟨n4, r4⟩ := and_e r3
  obtain ⟨aS, evS⟩ := exa_v n0
  obtain ⟨aX, evX⟩ := exa_v n1
  obtain ⟨aE, evE⟩ := exa_v n4
  have FS : Fld s s.heap aS "java/lang/Enum" "ordinal" "I" (.int (0 : Int32)) := Fld.start ((fld_at evS).symm.trans (own_eqI n2))
  have FX : Fld s s.heap aX "java/lang/Enum" "ordinal" "I" (.int (2 : Int32)) := Fld.start ((fld_at evX).symm.trans (own_eqI n3))
  have FE : Fld s s.heap aE "java/lang/Enum" "ordinal" "I" (.int (1 : Int32)) := Fld.start ((fld_at evE).symm.trans (own_eqI r4))
  have d1 : aS ≠ aX := Fld.ne FS FX (by decide)
  have d2 : aE ≠ aX := Fld.ne FE FX (by decide)
  have S_STATE : Sta s s.heap "com/example/forkline/forkline/schema/KeptFor" "STATE" "Lcom/example/forkline/forkline/schema/KeptFor;" (.ref aS) := Sta.start evS (Or.inr ⟨(hw _ (List.mem_of_getElem? (i := 9) rfl)), (hw _ (List.mem_of_getElem? (i := 10) rfl))⟩)
  have S_SESSION : Sta s s.heap "com/example/forkline/forkline/schema/KeptFor" "SESSION" "Lcom/example/forkline/forkline/schema/KeptFor;" (.ref aE) := Sta.start evE (Or.inr ⟨(hw _ (List.mem_of_getElem? (i := 9) rfl)), (hw _ (List.mem_of_getElem? (i := 48) rfl))⟩)
  have S_EXPERIMENT : Sta s s.heap "com/example/forkline/forkline/schema/KeptFor" "EXPERIMENT" "Lcom/example/forkline/forkline/schema/KeptFor;" (.ref aX) := Sta.start evX (Or.inr ⟨(hw _ (List.mem_of_getElem? (i := 9) rfl)), (hw _ (List.mem_of_getElem? (i := 45) rfl))⟩)
  obtain ⟨n, o, h1, h2, h3, _, L, rfl, ⟨rfl, N⟩, hq⟩ := rm0 l s _ hw tables_1 i0 i1 aS aE aX s.heap s.heap.size (Nat.le_refl _) S_STATE S_SESSION S_EXPERIMENT d1 d2 p e ha hc hk s m _ below hf ((Spec.applies_iff_loose hf).mp happ).1 ⟨rfl, State.Warmed39.refl s, rfl, rfl⟩ trivial
  refine ⟨n, _, h1, h2, h3, hpost _ _ _ _ _ _ ⟨Cond.after_iff.mpr rfl, Cond.after_iff.mpr (eq_i res_at (Term.int_eval (1)) rfl), trivial⟩ ⟨hq.1, hq.2.1, hq.2.2.1, (hq.2.2.2.sift fun y hy => Or.inr (N y hy)).mono (by decide) (by decide)⟩⟩
theorem main_1_1 : Claimed_1_1 := comes_1 fun _ _ _ _ _ _ h hF => ⟨h.1, hF⟩
theorem main_1_2 : Claimed_1_2 := comes_1 fun _ _ _ _ _ _ h hF => ⟨h.2.1, hF⟩
end Jvm.Pilot.@@N@@
namespace Jvm.Pilot.@@N@@
open Jvm Jvm.ClassFile Sem Op Lib Jvm.Free Jvm.Stand Jvm.Pilot.@@N@@.Jvm.D
/-! MADE BY PROGRAM (witnessworld.py) out of the Statement's table words and the real class files: 18 classes; the members and pool entries that the words name. The judged class is class 1, her method 2. -/
namespace start1
open Jvm.ClassFile
def u (s : String) : CpInfo := .utf8 (stringToUtf16 s)
/-- a pool by its gaps: so many unusable entries, then the entry; so many at the end -/
def gap : Nat → List CpInfo → List CpInfo
  | 0, r => r
  | n + 1, r => .unusable :: gap n r
def poolList (es : List (Nat × CpInfo)) (last : Nat) : List CpInfo := es.foldr (fun e r => gap e.1 (e.2 :: r)) (gap last [])
def pool (es : List (Nat × CpInfo)) (last : Nat) : Array CpInfo := ⟨poolList es last⟩
def fileOf (pool : Array CpInfo) (this : Nat) (attrs : Array Attribute := #[]) (ms : Array MethodInfo := #[]) (fl : Nat := 33) (sup : Nat := 0) (ifs : Array Nat := #[]) (fds : Array FieldInfo := #[]) : ClassFile where
  minorVersion := 0
  majorVersion := 65
  constantPool := pool
  accessFlags := fl
  thisClass := this
  superClass := sup
  interfaces := ifs
  fields := fds
  methods := ms
  attributes := attrs
def plain (name : String) (sup : Option ClassId) : Class where
  name := name
  kind := .ordinary
  loader := none
  accessFlags := 33
  super := sup
  interfaces := #[]
  cf := none
  fields := #[]
  methods := #[]
  instanceTypes := #[]
  staticTypes := #[]
  resolved := #[]
  callSites := []
  init := .initialized
  statics := none
  mirror := none

def pool0 : Array CpInfo := pool [(5, u "<init>"), (0, u "()V"), (1, .class_ 10), (1, u "java/lang/Object")] 113

def k0c0 : Code := { maxStack := 0, maxLocals := 1, code := object_method_1_code, exceptionTable := #[], attributes := #[] }
def k0m0 : Method := { name := "<init>", desc := "()V", sig := { parameters := [], returnType := none }, accessFlags := 1, code := some k0c0 }
/-- java/lang/Object -/
def k0 : Class := { plain "java/lang/Object" none with
  accessFlags := 33
  interfaces := #[]
  cf := some (fileOf pool0 8 #[] #[{ accessFlags := 1, nameIndex := 5, descriptorIndex := 6, attributes := #[] }] 33 0 #[] #[])
  fields := #[]
  methods := #[k0m0]
  instanceTypes := #[]
  staticTypes := #[]
  resolved := Array.replicate 124 none
  statics := none }

def pool1 : Array CpInfo := pool [(2, .class_ 4), (1, u "java/lang/Object"), (0, u "<init>"), (0, u "()V"), (0, .fieldref 8 9), (0, .class_ 10), (0, .nameAndType 11 12), (0, u "com/example/forkline/forkline/schema/KeptFor"), (0, u "STATE"), (0, u "Lcom/example/forkline/forkline/schema/KeptFor;"), (0, .fieldref 8 14), (0, .nameAndType 15 12), (0, u "SESSION"), (0, .fieldref 8 17), (0, .nameAndType 18 12), (0, u "EXPERIMENT"), (0, .integer 2147483647), (0, .class_ 21), (0, u "com/example/forkline/forkline/schema/TimeToLive"), (0, .methodref 23 24), (0, .class_ 25), (0, .nameAndType 26 27), (0, u "com/example/forkline/forkline/schema/TimeToLiveKeepsForExperimentPinLaw"), (0, u "pick"), (0, u "(I)Lcom/example/forkline/forkline/schema/KeptFor;"), (0, .methodref 20 29), (0, .nameAndType 5 30), (0, u "(Lcom/example/forkline/forkline/schema/KeptFor;Lcom/example/forkline/forkline/schema/KeptFor;)V"), (0, .methodref 20 32), (0, .nameAndType 33 34), (0, u "keepsForExperiment"), (0, u "()Z"), (3, u "law"), (0, u "(II)Z")] 2

def k1m0 : Method := { name := "<init>", desc := "()V", sig := { parameters := [], returnType := none }, accessFlags := 1, code := none }
def k1c1 : Code := { maxStack := 2, maxLocals := 1, code := method_2_code, exceptionTable := #[], attributes := #[] }
def k1m1 : Method := { name := "pick", desc := "(I)Lcom/example/forkline/forkline/schema/KeptFor;", sig := { parameters := [.int], returnType := some (.object "com/example/forkline/forkline/schema/KeptFor") }, accessFlags := 10, code := some k1c1 }
def k1c2 : Code := { maxStack := 4, maxLocals := 9, code := code, exceptionTable := #[], attributes := #[] }
def k1m2 : Method := { name := "law", desc := "(II)Z", sig := { parameters := [.int, .int], returnType := some .boolean }, accessFlags := 9, code := some k1c2 }
/-- com/example/forkline/forkline/schema/TimeToLiveKeepsForExperimentPinLaw -/
def k1 : Class := { plain "com/example/forkline/forkline/schema/TimeToLiveKeepsForExperimentPinLaw" (some 0) with
  accessFlags := 49
  interfaces := #[]
  cf := some (fileOf pool1 23 #[] #[{ accessFlags := 1, nameIndex := 5, descriptorIndex := 6, attributes := #[] }, { accessFlags := 10, nameIndex := 26, descriptorIndex := 27, attributes := #[] }, { accessFlags := 9, nameIndex := 38, descriptorIndex := 39, attributes := #[] }] 49 2 #[] #[])
  fields := #[]
  methods := #[k1m0, k1m1, k1m2]
  instanceTypes := #[]
  staticTypes := #[]
  resolved := Array.replicate 42 none
  statics := none }

def pool2 : Array CpInfo := pool [(1, .methodref 2 3), (0, .class_ 4), (0, .nameAndType 5 6), (0, u "java/lang/Object"), (0, u "<init>"), (0, u "()V"), (0, .class_ 8), (0, u "java/lang/Record")] 13

def k2c0 : Code := { maxStack := 1, maxLocals := 1, code := jdk_30_method_1_code, exceptionTable := #[], attributes := #[] }
def k2m0 : Method := { name := "<init>", desc := "()V", sig := { parameters := [], returnType := none }, accessFlags := 4, code := some k2c0 }
/-- java/lang/Record -/
def k2 : Class := { plain "java/lang/Record" (some 0) with
  accessFlags := 1057
  interfaces := #[]
  cf := some (fileOf pool2 7 #[] #[{ accessFlags := 4, nameIndex := 5, descriptorIndex := 6, attributes := #[] }] 1057 2 #[] #[])
  fields := #[]
  methods := #[k2m0]
  instanceTypes := #[]
  staticTypes := #[]
  resolved := Array.replicate 22 none
  statics := none }

def pool3 : Array CpInfo := pool [(1, .methodref 2 3), (0, .class_ 4), (0, .nameAndType 5 6), (0, u "java/lang/Record"), (0, u "<init>"), (0, u "()V"), (0, .string 8), (0, u "qualification"), (0, .methodref 10 11), (0, .class_ 12), (0, .nameAndType 13 14), (0, u "java/util/Objects"), (0, u "requireNonNull"), (0, u "(Ljava/lang/Object;Ljava/lang/String;)Ljava/lang/Object;"), (0, .string 16), (0, u "targeting"), (0, .fieldref 18 19), (0, .class_ 20), (0, .nameAndType 8 21), (0, u "com/example/forkline/forkline/schema/TimeToLive"), (0, u "Lcom/example/forkline/forkline/schema/KeptFor;"), (0, .fieldref 18 23), (0, .nameAndType 16 21), (0, .fieldref 25 26), (0, .class_ 27), (0, .nameAndType 28 21), (0, u "com/example/forkline/forkline/schema/KeptFor"), (0, u "EXPERIMENT"), (17, u "(Lcom/example/forkline/forkline/schema/KeptFor;Lcom/example/forkline/forkline/schema/KeptFor;)V"), (2, u "DEFAULT"), (0, u "Lcom/example/forkline/forkline/schema/TimeToLive;"), (3, u "keepsForExperiment"), (0, u "()Z")] 27

def k3c0 : Code := { maxStack := 2, maxLocals := 3, code := prog_47_method_1_code, exceptionTable := #[], attributes := #[] }
def k3m0 : Method := { name := "<init>", desc := "(Lcom/example/forkline/forkline/schema/KeptFor;Lcom/example/forkline/forkline/schema/KeptFor;)V", sig := { parameters := [(.object "com/example/forkline/forkline/schema/KeptFor"), (.object "com/example/forkline/forkline/schema/KeptFor")], returnType := none }, accessFlags := 1, code := some k3c0 }
def k3c1 : Code := { maxStack := 2, maxLocals := 1, code := prog_47_method_2_code, exceptionTable := #[], attributes := #[] }
def k3m1 : Method := { name := "keepsForExperiment", desc := "()Z", sig := { parameters := [], returnType := some .boolean }, accessFlags := 1, code := some k3c1 }
/-- com/example/forkline/forkline/schema/TimeToLive -/
def k3 : Class := { plain "com/example/forkline/forkline/schema/TimeToLive" (some 2) with
  accessFlags := 49
  interfaces := #[]
  cf := some (fileOf pool3 18 #[] #[{ accessFlags := 1, nameIndex := 5, descriptorIndex := 46, attributes := #[] }, { accessFlags := 1, nameIndex := 54, descriptorIndex := 55, attributes := #[] }] 49 2 #[] #[{ accessFlags := 18, nameIndex := 8, descriptorIndex := 21, attributes := #[] }, { accessFlags := 18, nameIndex := 16, descriptorIndex := 21, attributes := #[] }, { accessFlags := 25, nameIndex := 49, descriptorIndex := 50, attributes := #[] }])
  fields := #[{ name := "qualification", type := (.object "com/example/forkline/forkline/schema/KeptFor"), accessFlags := 18, slot := 0, constantValue := 0 }, { name := "targeting", type := (.object "com/example/forkline/forkline/schema/KeptFor"), accessFlags := 18, slot := 1, constantValue := 0 }, { name := "DEFAULT", type := (.object "com/example/forkline/forkline/schema/TimeToLive"), accessFlags := 25, slot := 0, constantValue := 0 }]
  methods := #[k3m0, k3m1]
  instanceTypes := #[(.object "com/example/forkline/forkline/schema/KeptFor"), (.object "com/example/forkline/forkline/schema/KeptFor")]
  staticTypes := #[(.object "com/example/forkline/forkline/schema/TimeToLive")]
  resolved := Array.replicate 83 none
  statics := none }

def pool4 : Array CpInfo := pool [(1, .class_ 2), (0, u "java/lang/constant/Constable"), (0, .class_ 4), (0, u "java/lang/Object")] 6

/-- java/lang/constant/Constable -/
def k4 : Class := { plain "java/lang/constant/Constable" (some 0) with
  accessFlags := 1537
  interfaces := #[]
  cf := some (fileOf pool4 1 #[] #[] 1537 3 #[] #[])
  fields := #[]
  methods := #[]
  instanceTypes := #[]
  staticTypes := #[]
  resolved := Array.replicate 11 none
  statics := none }

def pool5 : Array CpInfo := pool [(1, .class_ 2), (0, u "java/lang/Comparable"), (0, .class_ 4), (0, u "java/lang/Object")] 7

/-- java/lang/Comparable -/
def k5 : Class := { plain "java/lang/Comparable" (some 0) with
  accessFlags := 1537
  interfaces := #[]
  cf := some (fileOf pool5 1 #[] #[] 1537 3 #[] #[])
  fields := #[]
  methods := #[]
  instanceTypes := #[]
  staticTypes := #[]
  resolved := Array.replicate 12 none
  statics := none }

def pool6 : Array CpInfo := pool [(1, .class_ 2), (0, u "java/io/Serializable"), (0, .class_ 4), (0, u "java/lang/Object")] 2

/-- java/io/Serializable -/
def k6 : Class := { plain "java/io/Serializable" (some 0) with
  accessFlags := 1537
  interfaces := #[]
  cf := some (fileOf pool6 1 #[] #[] 1537 3 #[] #[])
  fields := #[]
  methods := #[]
  instanceTypes := #[]
  staticTypes := #[]
  resolved := Array.replicate 7 none
  statics := none }

def pool7 : Array CpInfo := pool [(2, .class_ 4), (1, u "java/lang/Enum"), (0, u "name"), (0, u "Ljava/lang/String;"), (2, u "ordinal"), (0, u "I"), (1, .class_ 14), (1, u "java/lang/Object"), (4, u "hash"), (86, .class_ 108), (1, u "java/lang/Enum$EnumDesc"), (2, .class_ 112), (0, u "java/lang/constant/Constable"), (0, .class_ 114), (0, u "java/lang/Comparable"), (0, .class_ 116), (0, u "java/io/Serializable")] 87

/-- java/lang/Enum -/
def k7 : Class := { plain "java/lang/Enum" (some 0) with
  accessFlags := 1057
  interfaces := #[4, 5, 6]
  cf := some (fileOf pool7 2 #[.nestMembers #[106]] #[] 1057 12 #[111, 113, 115] #[{ accessFlags := 18, nameIndex := 5, descriptorIndex := 6, attributes := #[] }, { accessFlags := 18, nameIndex := 9, descriptorIndex := 10, attributes := #[] }, { accessFlags := 2, nameIndex := 19, descriptorIndex := 10, attributes := #[] }])
  fields := #[{ name := "name", type := (.object "java/lang/String"), accessFlags := 18, slot := 0, constantValue := 0 }, { name := "ordinal", type := .int, accessFlags := 18, slot := 1, constantValue := 0 }, { name := "hash", type := .int, accessFlags := 2, slot := 2, constantValue := 0 }]
  methods := #[]
  instanceTypes := #[(.object "java/lang/String"), .int, .int]
  staticTypes := #[]
  resolved := Array.replicate 204 none
  statics := none }

def pool8 : Array CpInfo := pool [(1, .class_ 2), (0, u "com/example/forkline/forkline/schema/KeptFor"), (2, u "STATE"), (0, u "Lcom/example/forkline/forkline/schema/KeptFor;"), (2, u "SESSION"), (2, u "EXPERIMENT"), (2, u "$VALUES"), (0, u "[Lcom/example/forkline/forkline/schema/KeptFor;"), (6, .class_ 25), (1, u "java/lang/Enum")] 42

/-- com/example/forkline/forkline/schema/KeptFor -/
def k8 : Class := { plain "com/example/forkline/forkline/schema/KeptFor" (some 7) with
  accessFlags := 16433
  interfaces := #[]
  cf := some (fileOf pool8 1 #[] #[] 16433 23 #[] #[{ accessFlags := 16409, nameIndex := 5, descriptorIndex := 6, attributes := #[] }, { accessFlags := 16409, nameIndex := 9, descriptorIndex := 6, attributes := #[] }, { accessFlags := 16409, nameIndex := 12, descriptorIndex := 6, attributes := #[] }, { accessFlags := 4122, nameIndex := 15, descriptorIndex := 16, attributes := #[] }])
  fields := #[{ name := "STATE", type := (.object "com/example/forkline/forkline/schema/KeptFor"), accessFlags := 16409, slot := 0, constantValue := 0 }, { name := "SESSION", type := (.object "com/example/forkline/forkline/schema/KeptFor"), accessFlags := 16409, slot := 1, constantValue := 0 }, { name := "EXPERIMENT", type := (.object "com/example/forkline/forkline/schema/KeptFor"), accessFlags := 16409, slot := 2, constantValue := 0 }, { name := "$VALUES", type := (.array (.object "com/example/forkline/forkline/schema/KeptFor")), accessFlags := 4122, slot := 3, constantValue := 0 }]
  methods := #[]
  instanceTypes := #[(.object "java/lang/String"), .int, .int]
  staticTypes := #[(.object "com/example/forkline/forkline/schema/KeptFor"), (.object "com/example/forkline/forkline/schema/KeptFor"), (.object "com/example/forkline/forkline/schema/KeptFor"), (.array (.object "com/example/forkline/forkline/schema/KeptFor"))]
  resolved := Array.replicate 68 none
  statics := some 0 }

def pool9 : Array CpInfo := pool [(2, .class_ 4), (1, u "java/lang/CharSequence"), (42, .class_ 48), (0, u "java/lang/CharSequence$1CodePointIterator"), (10, .class_ 60), (0, u "java/lang/CharSequence$1CharIterator"), (5, .class_ 67), (0, u "java/lang/Object")] 63

/-- java/lang/CharSequence -/
def k9 : Class := { plain "java/lang/CharSequence" (some 0) with
  accessFlags := 1537
  interfaces := #[]
  cf := some (fileOf pool9 2 #[.nestMembers #[47, 59]] #[] 1537 66 #[] #[])
  fields := #[]
  methods := #[]
  instanceTypes := #[]
  staticTypes := #[]
  resolved := Array.replicate 131 none
  statics := none }

def pool10 : Array CpInfo := pool [(1, .class_ 2), (0, u "java/lang/constant/ConstantDesc"), (0, .class_ 4), (0, u "java/lang/Object")] 32

/-- java/lang/constant/ConstantDesc -/
def k10 : Class := { plain "java/lang/constant/ConstantDesc" (some 0) with
  accessFlags := 1537
  interfaces := #[]
  cf := some (fileOf pool10 1 #[] #[] 1537 3 #[] #[])
  fields := #[]
  methods := #[]
  instanceTypes := #[]
  staticTypes := #[]
  resolved := Array.replicate 37 none
  statics := none }

def pool11 : Array CpInfo := pool [(2, .class_ 4), (1, u "java/lang/Object"), (0, u "<init>"), (0, u "()V"), (3, .class_ 12), (1, u "java/lang/String"), (0, u "value"), (0, u "[B"), (2, u "coder"), (0, u "B"), (2, u "hash"), (0, u "I"), (2, u "hashIsZero"), (0, u "Z"), (13, u "COMPACT_STRINGS"), (534, .class_ 576), (0, u "java/lang/CharSequence"), (22, u "CASE_INSENSITIVE_ORDER"), (0, u "Ljava/util/Comparator;"), (500, u "serialPersistentFields"), (0, u "[Ljava/io/ObjectStreamField;"), (0, .class_ 1104), (0, u "java/lang/String$CaseInsensitiveComparator"), (1, .class_ 1107), (0, u "java/io/Serializable"), (0, .class_ 1109), (0, u "java/lang/Comparable"), (0, .class_ 1111), (0, u "java/lang/constant/Constable"), (0, .class_ 1113), (0, u "java/lang/constant/ConstantDesc"), (2, u "serialVersionUID"), (0, u "J"), (3, u "REPL"), (0, u "C"), (2, u "LATIN1"), (1, u "UTF16")] 323

def k11m0 : Method := { name := "<init>", desc := "()V", sig := { parameters := [], returnType := none }, accessFlags := 1, code := none }
/-- java/lang/String -/
def k11 : Class := { plain "java/lang/String" (some 0) with
  accessFlags := 49
  interfaces := #[6, 5, 9, 4, 10]
  cf := some (fileOf pool11 10 #[.nestMembers #[1103]] #[{ accessFlags := 1, nameIndex := 5, descriptorIndex := 6, attributes := #[] }] 49 2 #[1106, 1108, 575, 1110, 1112] #[{ accessFlags := 18, nameIndex := 13, descriptorIndex := 14, attributes := #[] }, { accessFlags := 18, nameIndex := 17, descriptorIndex := 18, attributes := #[] }, { accessFlags := 2, nameIndex := 21, descriptorIndex := 22, attributes := #[] }, { accessFlags := 2, nameIndex := 25, descriptorIndex := 26, attributes := #[] }, { accessFlags := 26, nameIndex := 1116, descriptorIndex := 1117, attributes := #[] }, { accessFlags := 24, nameIndex := 40, descriptorIndex := 26, attributes := #[] }, { accessFlags := 26, nameIndex := 1101, descriptorIndex := 1102, attributes := #[] }, { accessFlags := 26, nameIndex := 1121, descriptorIndex := 1122, attributes := #[] }, { accessFlags := 25, nameIndex := 599, descriptorIndex := 600, attributes := #[] }, { accessFlags := 24, nameIndex := 1125, descriptorIndex := 18, attributes := #[] }, { accessFlags := 24, nameIndex := 1127, descriptorIndex := 18, attributes := #[] }])
  fields := #[{ name := "value", type := (.array .byte), accessFlags := 18, slot := 0, constantValue := 0 }, { name := "coder", type := .byte, accessFlags := 18, slot := 1, constantValue := 0 }, { name := "hash", type := .int, accessFlags := 2, slot := 2, constantValue := 0 }, { name := "hashIsZero", type := .boolean, accessFlags := 2, slot := 3, constantValue := 0 }, { name := "serialVersionUID", type := .long, accessFlags := 26, slot := 0, constantValue := 0 }, { name := "COMPACT_STRINGS", type := .boolean, accessFlags := 24, slot := 1, constantValue := 0 }, { name := "serialPersistentFields", type := (.array (.object "java/io/ObjectStreamField")), accessFlags := 26, slot := 2, constantValue := 0 }, { name := "REPL", type := .char, accessFlags := 26, slot := 3, constantValue := 0 }, { name := "CASE_INSENSITIVE_ORDER", type := (.object "java/util/Comparator"), accessFlags := 25, slot := 4, constantValue := 0 }, { name := "LATIN1", type := .byte, accessFlags := 24, slot := 5, constantValue := 0 }, { name := "UTF16", type := .byte, accessFlags := 24, slot := 6, constantValue := 0 }]
  methods := #[k11m0]
  instanceTypes := #[(.array .byte), .byte, .int, .boolean]
  staticTypes := #[.long, .boolean, (.array (.object "java/io/ObjectStreamField")), .char, (.object "java/util/Comparator"), .byte, .byte]
  resolved := Array.replicate 1451 none
  statics := none }

def pool12 : Array CpInfo := pool [(2, .class_ 4), (1, u "java/lang/Object"), (0, u "<init>"), (0, u "()V"), (35, .class_ 44), (1, u "java/util/Objects"), (0, u "requireNonNull"), (48, u "(Ljava/lang/Object;Ljava/lang/String;)Ljava/lang/Object;")] 89

def k12m0 : Method := { name := "<init>", desc := "()V", sig := { parameters := [], returnType := none }, accessFlags := 2, code := none }
def k12c1 : Code := { maxStack := 3, maxLocals := 2, code := jdk_31_method_11_code, exceptionTable := #[], attributes := #[] }
def k12m1 : Method := { name := "requireNonNull", desc := "(Ljava/lang/Object;Ljava/lang/String;)Ljava/lang/Object;", sig := { parameters := [(.object "java/lang/Object"), (.object "java/lang/String")], returnType := some (.object "java/lang/Object") }, accessFlags := 9, code := some k12c1 }
/-- java/util/Objects -/
def k12 : Class := { plain "java/util/Objects" (some 0) with
  accessFlags := 49
  interfaces := #[]
  cf := some (fileOf pool12 42 #[] #[{ accessFlags := 2, nameIndex := 5, descriptorIndex := 6, attributes := #[] }, { accessFlags := 9, nameIndex := 45, descriptorIndex := 94, attributes := #[] }] 49 2 #[] #[])
  fields := #[]
  methods := #[k12m0, k12m1]
  instanceTypes := #[]
  staticTypes := #[]
  resolved := Array.replicate 184 none
  statics := none }

def pool13 : Array CpInfo := pool [(1, u "java/lang/Cloneable"), (0, .class_ 1), (0, u "java/lang/Object"), (0, .class_ 3)] 3

/-- java/lang/Cloneable -/
def k13 : Class := { plain "java/lang/Cloneable" (some 0) with
  accessFlags := 1537
  interfaces := #[]
  cf := some (fileOf pool13 2 #[] #[] 1537 4 #[] #[])
  fields := #[]
  methods := #[]
  instanceTypes := #[]
  staticTypes := #[]
  resolved := Array.replicate 8 none
  statics := none }

/-- the primitive byte -/
def k14 : Class := { plain "byte" none with kind := .primitive 'B', accessFlags := 0x411 }
/-- [B -/
def k15 : Class := { plain "[B" (some 0) with kind := .array 14 .byte, interfaces := #[13, 6], accessFlags := 1041 }

/-- the primitive int -/
def k16 : Class := { plain "int" none with kind := .primitive 'I', accessFlags := 0x411 }
/-- [I -/
def k17 : Class := { plain "[I" (some 0) with kind := .array 16 .int, interfaces := #[13, 6], accessFlags := 1041 }

def heap : Heap := #[{ cls := 8, slots := #[.ref 1, .ref 2, .ref 3, .null], vm := .statics 8 },
  { cls := 8, slots := #[.null, .int 0, .int 0], vm := .none },
  { cls := 8, slots := #[.null, .int 1, .int 0], vm := .none },
  { cls := 8, slots := #[.null, .int 2, .int 0], vm := .none }]
def classes : Array Class := #[k0, k1, k2, k3, k4, k5, k6, k7, k8, k9, k10, k11, k12, k13, k14, k15, k16, k17]
def interned : List (Array UInt16 × Addr) := []
def slotsUsed : Nat := 13
def theMethod : MethodId := ⟨1, 2⟩
def args0 : Array Value := #[.int 5, .int 2]
def aboutOver (below : List Frame) : State where
  vm := { classes := classes, interned := interned.toArray }
  heap := heap
  slotsUsed := slotsUsed
  threads := #[{ frames := .invoking theMethod args0 :: below }]
def below0 : List Frame := [.native { method := ⟨0, 0⟩, args := #[] }]
def about1 : State := aboutOver below0
def p0 : Program := .bare "" "" ""
def e0 : Env := launch0.env 0 0 0
theorem w_frames : about1.frames = Frame.invoking theMethod args0 :: below0 := rfl
set_option maxRecDepth 65536 in
theorem w_args : argsFit about1.vm theMethod args0 = true := by decide +kernel
set_option maxRecDepth 65536 in
theorem w_heap : heapFits about1 = true := by decide +kernel
set_option maxRecDepth 65536 in
theorem w_runnable : about1.curStatus? = some .runnable := by decide +kernel
set_option maxRecDepth 65536 in
theorem w_alone : about1.alone = true := by decide +kernel
set_option maxRecDepth 65536 in
theorem w_named : about1.methodNamed? x = some theMethod := by decide +kernel
set_option maxRecDepth 65536 in
theorem w_hears : about1.hears theMethod below0 = true := by decide +kernel
set_option maxRecDepth 65536 in
theorem w_ripe : about1.ripe theMethod args0 below0 = true := by decide +kernel
theorem w_running : about1.status = .running := rfl
set_option maxRecDepth 65536 in
theorem w_room : about1.hasRoom e0.platform room_1 = true :=
  launch0.hasRoom_least _ room_1 (by decide +kernel) (by decide +kernel) (by decide +kernel) (by decide +kernel) (by decide +kernel) (by decide +kernel)
theorem allAtoms_all (ts : List Jvm.Cond) (a : Array Jvm.Value) (st : Jvm.State) : (allAtoms ts).before a st = ts.all (fun c => c.before a st) := by
  induction ts with
  | nil => rfl
  | cons c t ih =>
    show (Jvm.Cond.and c (allAtoms t)).before a st = _
    rw [Jvm.Cond.before_and, ih, List.all_cons]
def words1 : List Jvm.Cond := Jvm.Cond.code x code maxLocals ret :: tables_1
/-- a 'code' word, met by the world's own term for the bytes: nothing is compared byte by byte -/
theorem code_word {y : MethodName} {bytes : ByteArray} {mx : Nat} {rt : Option FieldType} {a : Array Value} {s : State} {m : MethodId} {meth : Method} {c : Code} (h1 : s.methodNamed? y = some m) (h2 : s.vm.method? m = some meth) (h3 : meth.code = some c) (h4 : c.code = bytes)
    (h5 : (c.maxLocals == mx && c.exceptionTable.isEmpty && decide (c.maxStack ≤ mostOperands) && decide (meth.sig.returnType = rt) && !meth.locks && decide (parseMethodDescriptor y.desc = some meth.sig)) = true) : (Jvm.Cond.code y bytes mx rt).before a s = true := by
  simp only [Bool.and_eq_true, beq_iff_eq, Bool.not_eq_true', decide_eq_true_eq] at h5
  obtain ⟨⟨⟨⟨⟨g1, g2⟩, g3⟩, g4⟩, g5⟩, g6⟩ := h5
  simp [Cond.before, Cond.holds, Cond.value, h1, h2, h3, h4, g1, g2, g3, g4, g5, g6]
def isCode : Jvm.Cond → Bool
  | .code _ _ _ _ => true
  | _ => false
theorem all_split {L : List Jvm.Cond} {P : Jvm.Cond → Bool} (h1 : L.all (fun c => isCode c || P c) = true) (h2 : ∀ c ∈ L.filter isCode, P c = true) : L.all P = true := by
  refine List.all_eq_true.mpr fun c hc => ?_
  have h := List.all_eq_true.mp h1 c hc
  rcases Bool.eq_false_or_eq_true (isCode c) with hi | hi
  · exact h2 c (List.mem_filter.mpr ⟨hc, hi⟩)
  · simpa [hi] using h
set_option maxRecDepth 65536 in
theorem w_c0 : (Jvm.Cond.code x code maxLocals ret).before args0 about1 = true := code_word (m := ⟨1, 2⟩) (meth := k1m2) (c := k1c2) (by decide +kernel) rfl rfl rfl (by decide +kernel)
set_option maxRecDepth 65536 in
theorem w_c1 : (Jvm.Cond.code ({ cls := "com/example/forkline/forkline/schema/TimeToLiveKeepsForExperimentPinLaw", name := "pick", desc := "(I)Lcom/example/forkline/forkline/schema/KeptFor;" } : Jvm.MethodName) method_2_code (1 : Nat) (Option.some (Jvm.ClassFile.FieldType.object "com/example/forkline/forkline/schema/KeptFor"))).before args0 about1 = true := code_word (m := ⟨1, 1⟩) (meth := k1m1) (c := k1c1) (by decide +kernel) rfl rfl rfl (by decide +kernel)
set_option maxRecDepth 65536 in
theorem w_c2 : (Jvm.Cond.code ({ cls := "com/example/forkline/forkline/schema/TimeToLive", name := "<init>", desc := "(Lcom/example/forkline/forkline/schema/KeptFor;Lcom/example/forkline/forkline/schema/KeptFor;)V" } : Jvm.MethodName) prog_47_method_1_code (3 : Nat) (Option.none : Option Jvm.ClassFile.FieldType)).before args0 about1 = true := code_word (m := ⟨3, 0⟩) (meth := k3m0) (c := k3c0) (by decide +kernel) rfl rfl rfl (by decide +kernel)
set_option maxRecDepth 65536 in
theorem w_c3 : (Jvm.Cond.code ({ cls := "java/lang/Record", name := "<init>", desc := "()V" } : Jvm.MethodName) jdk_30_method_1_code (1 : Nat) (Option.none : Option Jvm.ClassFile.FieldType)).before args0 about1 = true := code_word (m := ⟨2, 0⟩) (meth := k2m0) (c := k2c0) (by decide +kernel) rfl rfl rfl (by decide +kernel)
set_option maxRecDepth 65536 in
theorem w_c4 : (Jvm.Cond.code ({ cls := "java/lang/Object", name := "<init>", desc := "()V" } : Jvm.MethodName) object_method_1_code (1 : Nat) (Option.none : Option Jvm.ClassFile.FieldType)).before args0 about1 = true := code_word (m := ⟨0, 0⟩) (meth := k0m0) (c := k0c0) (by decide +kernel) rfl rfl rfl (by decide +kernel)
set_option maxRecDepth 65536 in
theorem w_c5 : (Jvm.Cond.code ({ cls := "java/util/Objects", name := "requireNonNull", desc := "(Ljava/lang/Object;Ljava/lang/String;)Ljava/lang/Object;" } : Jvm.MethodName) jdk_31_method_11_code (2 : Nat) (Option.some (Jvm.ClassFile.FieldType.object "java/lang/Object"))).before args0 about1 = true := code_word (m := ⟨12, 1⟩) (meth := k12m1) (c := k12c1) (by decide +kernel) rfl rfl rfl (by decide +kernel)
set_option maxRecDepth 65536 in
theorem w_c6 : (Jvm.Cond.code ({ cls := "com/example/forkline/forkline/schema/TimeToLive", name := "keepsForExperiment", desc := "()Z" } : Jvm.MethodName) prog_47_method_2_code (1 : Nat) (Option.some Jvm.ClassFile.FieldType.boolean)).before args0 about1 = true := code_word (m := ⟨3, 1⟩) (meth := k3m1) (c := k3c1) (by decide +kernel) rfl rfl rfl (by decide +kernel)
def codes1 : List Jvm.Cond := [Jvm.Cond.code x code maxLocals ret, Jvm.Cond.code ({ cls := "com/example/forkline/forkline/schema/TimeToLiveKeepsForExperimentPinLaw", name := "pick", desc := "(I)Lcom/example/forkline/forkline/schema/KeptFor;" } : Jvm.MethodName) method_2_code (1 : Nat) (Option.some (Jvm.ClassFile.FieldType.object "com/example/forkline/forkline/schema/KeptFor")), Jvm.Cond.code ({ cls := "com/example/forkline/forkline/schema/TimeToLive", name := "<init>", desc := "(Lcom/example/forkline/forkline/schema/KeptFor;Lcom/example/forkline/forkline/schema/KeptFor;)V" } : Jvm.MethodName) prog_47_method_1_code (3 : Nat) (Option.none : Option Jvm.ClassFile.FieldType), Jvm.Cond.code ({ cls := "java/lang/Record", name := "<init>", desc := "()V" } : Jvm.MethodName) jdk_30_method_1_code (1 : Nat) (Option.none : Option Jvm.ClassFile.FieldType), Jvm.Cond.code ({ cls := "java/lang/Object", name := "<init>", desc := "()V" } : Jvm.MethodName) object_method_1_code (1 : Nat) (Option.none : Option Jvm.ClassFile.FieldType), Jvm.Cond.code ({ cls := "java/util/Objects", name := "requireNonNull", desc := "(Ljava/lang/Object;Ljava/lang/String;)Ljava/lang/Object;" } : Jvm.MethodName) jdk_31_method_11_code (2 : Nat) (Option.some (Jvm.ClassFile.FieldType.object "java/lang/Object")), Jvm.Cond.code ({ cls := "com/example/forkline/forkline/schema/TimeToLive", name := "keepsForExperiment", desc := "()Z" } : Jvm.MethodName) prog_47_method_2_code (1 : Nat) (Option.some Jvm.ClassFile.FieldType.boolean)]
set_option maxRecDepth 65536 in
theorem codes_eq : words1.filter isCode = codes1 := rfl
theorem w_codes : ∀ c ∈ words1.filter isCode, c.before args0 about1 = true := by
  rw [codes_eq]
  intro c hc
  simp only [codes1, List.mem_cons, List.not_mem_nil, or_false] at hc
  rcases hc with rfl | rfl | rfl | rfl | rfl | rfl | rfl
  · exact w_c0
  · exact w_c1
  · exact w_c2
  · exact w_c3
  · exact w_c4
  · exact w_c5
  · exact w_c6
set_option maxRecDepth 65536 in
theorem w_t1 : (words1.take 24).all (fun c => isCode c || c.before args0 about1) = true := by decide +kernel
set_option maxRecDepth 65536 in
theorem w_t2 : ((words1.drop 24).take 24).all (fun c => isCode c || c.before args0 about1) = true := by decide +kernel
set_option maxRecDepth 65536 in
theorem w_t3 : ((words1.drop 24).drop 24).all (fun c => isCode c || c.before args0 about1) = true := by decide +kernel
theorem w_tables : (allAtoms (Jvm.Cond.code x code maxLocals ret :: tables_1)).before args0 about1 = true := by
  rw [allAtoms_all]
  show words1.all (fun c => c.before args0 about1) = true
  refine all_split ?_ w_codes
  rw [← List.take_append_drop 24 words1, List.all_append, w_t1, ← List.take_append_drop 24 (words1.drop 24), List.all_append, w_t2, w_t3]
  rfl
set_option maxRecDepth 65536 in
theorem w_case : (Jvm.Cond.and given_1 narrow_1).before args0 about1 = true := by decide +kernel
theorem w_applies : (headSpec (Jvm.Cond.code x code maxLocals ret :: tables_1) room_1).applies x e0.platform about1 = true :=
  (Spec.applies_iff w_frames).mpr ⟨w_running, w_runnable, w_alone, w_named, w_hears, w_ripe, w_room, w_tables⟩
theorem atStart : AtStart classFile x code maxLocals ret World_1 tables_1 room_1 Calls_1 rest_1 Pre_1 launch0 p0 e0 about1 theMethod args0 below0 :=
  ⟨lists_1, trivial, launch0.admits_env _ _ _, launch0.least_env, fairChoices_fair.cas, fairChoices_fair.clock, w_frames, w_args, w_heap, w_applies, trivial, trivial, w_case⟩
end start1
theorem witness_1 : WitnessClaimed_1 := ⟨start1.p0, start1.e0, start1.about1, start1.theMethod, start1.args0, start1.below0, start1.atStart⟩
end Jvm.Pilot.@@N@@
