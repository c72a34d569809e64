import JvmDerived
import JvmDerived.Pilot.@@N@@Statement
import JvmDerived.Pilot.@@N@@Code
set_option linter.unusedVariables false
set_option linter.unusedSimpArgs false
namespace Jvm.RoadKit
open Sem ClassFile Op Lib Jvm.Stand Jvm.Free Jvm.LawKit
section New
variable {p : Program} {l : Launch} {e : Env} {R : Room} {s : State} {m : MethodId} {args : Array Value} {below : List Frame} {meth : Method} {c : Code} {T : State} {locs : List Loc} {cells slots : Nat}
theorem retI (X : Stand p l e R s m args below meth c T locs cells slots) (hx : p.tables.exec = Jvm.exec) {pc : Nat} {Ls : Array Slot} {z : Int32} {rest : List Value} (hret : meth.sig.returnType = some .int) (hd : decode c.code pc = .ok (.ireturn, 1)) {fs : List Frame}
    (hl : ∀ (f : JFrame) (acts : List Action), f.method = m → f.locked = none → f.entered = [] → (doReturn e (T.setTop f) acts (some (.int z))).1 = T.setFrames fs) : Steps p.tables e below (T.setTop (mkF m pc Ls (.int z :: rest))) (T.setFrames fs) := by
  have hm' : T.vm.method? m = some meth := X.method'
  have hn : narrow .int (.int z) = .int z := rfl
  show Steps p.tables e below (T.setTop { method := m, pc := pc, locals := Ls, stack := _ :: rest, locked := none }) _
  jvm_step X.here [X.here.top, hx, hd, hm', hret, hn]
  first | (intro acts; rw [hl _ acts rfl rfl rfl]) | rw [hl _ _ rfl rfl rfl]
  exact Steps.refl _
end New
end Jvm.RoadKit
namespace Jvm.Pilot.@@N@@
open Jvm Jvm.ClassFile Sem Op Lib Jvm.Free Jvm.Stand Jvm.LawKit Jvm.RoadKit Bundle Jvm.Pilot.@@N@@.Jvm.D
def own_rem (x y : Int32) : Int32 := x - (x / y) * y
section OwnSteps
variable {tb : Tables} [Ours tb] {e : Env} {below : List Frame} {T target : State} {m : MethodId} {c : Code} {pc : Nat} {ls : Array Slot} {st : List Value}
theorem own_iloadN (h : At T m c below) (hx : tb.exec = Jvm.exec) {k : Fin 4} {v : Int32} (hd : decode c.code pc = .ok (.iload_n k, 1)) (hl : ls[k.val]? = some (.val (.int v))) (hr : Steps tb e below (T.setTop (mkF m (pc + 1) ls (.int v :: st))) target) : Steps tb e below (T.setTop (mkF m pc ls (st))) target := XS.iloadN h hx rfl hd hl hr
theorem own_iload (h : At T m c below) (hx : tb.exec = Jvm.exec) {k : Nat} {v : Int32} (hd : decode c.code pc = .ok (.iload k, 2)) (hl : ls[k]? = some (.val (.int v))) (hr : Steps tb e below (T.setTop (mkF m (pc + 2) ls (.int v :: st))) target) : Steps tb e below (T.setTop (mkF m pc ls (st))) target := XS.iload h hx rfl hd hl hr
theorem own_istoreN (h : At T m c below) (hx : tb.exec = Jvm.exec) {k : Fin 4} {v : Int32} {l' : Array Slot} (hd : decode c.code pc = .ok (.istore_n k, 1)) (hl : storeLocals ls k.val (.int v) = some l') (hr : Steps tb e below (T.setTop (mkF m (pc + 1) l' (st))) target) : Steps tb e below (T.setTop (mkF m pc ls (.int v :: st))) target := XS.istoreN h hx rfl hd rfl hl hr
theorem own_istore (h : At T m c below) (hx : tb.exec = Jvm.exec) {k : Nat} {v : Int32} {l' : Array Slot} (hd : decode c.code pc = .ok (.istore k, 2)) (hl : storeLocals ls k (.int v) = some l') (hr : Steps tb e below (T.setTop (mkF m (pc + 2) l' (st))) target) : Steps tb e below (T.setTop (mkF m pc ls (.int v :: st))) target := XS.istore h hx rfl hd rfl hl hr
theorem own_lloadN (h : At T m c below) (hx : tb.exec = Jvm.exec) {k : Fin 4} {v : Int64} (hd : decode c.code pc = .ok (.lload_n k, 1)) (hl : ls[k.val]? = some (.val (.long v))) (hr : Steps tb e below (T.setTop (mkF m (pc + 1) ls (.long v :: st))) target) : Steps tb e below (T.setTop (mkF m pc ls (st))) target := XS.lloadN h hx rfl hd hl hr
theorem own_lload (h : At T m c below) (hx : tb.exec = Jvm.exec) {k : Nat} {v : Int64} (hd : decode c.code pc = .ok (.lload k, 2)) (hl : ls[k]? = some (.val (.long v))) (hr : Steps tb e below (T.setTop (mkF m (pc + 2) ls (.long v :: st))) target) : Steps tb e below (T.setTop (mkF m pc ls (st))) target := XS.lload h hx rfl hd hl hr
theorem own_lstoreN (h : At T m c below) (hx : tb.exec = Jvm.exec) {k : Fin 4} {v : Int64} {l' : Array Slot} (hd : decode c.code pc = .ok (.lstore_n k, 1)) (hl : storeLocals ls k.val (.long v) = some l') (hr : Steps tb e below (T.setTop (mkF m (pc + 1) l' (st))) target) : Steps tb e below (T.setTop (mkF m pc ls (.long v :: st))) target := XS.lstoreN h hx rfl hd rfl hl hr
theorem own_lstore (h : At T m c below) (hx : tb.exec = Jvm.exec) {k : Nat} {v : Int64} {l' : Array Slot} (hd : decode c.code pc = .ok (.lstore k, 2)) (hl : storeLocals ls k (.long v) = some l') (hr : Steps tb e below (T.setTop (mkF m (pc + 2) l' (st))) target) : Steps tb e below (T.setTop (mkF m pc ls (.long v :: st))) target := XS.lstore h hx rfl hd rfl hl hr
theorem own_dloadN (h : At T m c below) (hx : tb.exec = Jvm.exec) {k : Fin 4} {v : UInt64} (hd : decode c.code pc = .ok (.dload_n k, 1)) (hl : ls[k.val]? = some (.val (.double v))) (hr : Steps tb e below (T.setTop (mkF m (pc + 1) ls (.double v :: st))) target) : Steps tb e below (T.setTop (mkF m pc ls (st))) target := XS.dloadN h hx rfl hd hl hr
theorem own_dload (h : At T m c below) (hx : tb.exec = Jvm.exec) {k : Nat} {v : UInt64} (hd : decode c.code pc = .ok (.dload k, 2)) (hl : ls[k]? = some (.val (.double v))) (hr : Steps tb e below (T.setTop (mkF m (pc + 2) ls (.double v :: st))) target) : Steps tb e below (T.setTop (mkF m pc ls (st))) target := XS.dload h hx rfl hd hl hr
theorem own_dstoreN (h : At T m c below) (hx : tb.exec = Jvm.exec) {k : Fin 4} {v : UInt64} {l' : Array Slot} (hd : decode c.code pc = .ok (.dstore_n k, 1)) (hl : storeLocals ls k.val (.double v) = some l') (hr : Steps tb e below (T.setTop (mkF m (pc + 1) l' (st))) target) : Steps tb e below (T.setTop (mkF m pc ls (.double v :: st))) target := XS.dstoreN h hx rfl hd rfl hl hr
theorem own_dstore (h : At T m c below) (hx : tb.exec = Jvm.exec) {k : Nat} {v : UInt64} {l' : Array Slot} (hd : decode c.code pc = .ok (.dstore k, 2)) (hl : storeLocals ls k (.double v) = some l') (hr : Steps tb e below (T.setTop (mkF m (pc + 2) l' (st))) target) : Steps tb e below (T.setTop (mkF m pc ls (.double v :: st))) target := XS.dstore h hx rfl hd rfl hl hr
theorem own_aloadN (h : At T m c below) (hx : tb.exec = Jvm.exec) {k : Fin 4} {v : Value} (hd : decode c.code pc = .ok (.aload_n k, 1)) (hl : ls[k.val]? = some (.val v)) (hv : v.isRef = true) (hr : Steps tb e below (T.setTop (mkF m (pc + 1) ls (v :: st))) target) : Steps tb e below (T.setTop (mkF m pc ls (st))) target := XS.aloadN h hx rfl hd hl hv hr
theorem own_aload (h : At T m c below) (hx : tb.exec = Jvm.exec) {k : Nat} {v : Value} (hd : decode c.code pc = .ok (.aload k, 2)) (hl : ls[k]? = some (.val v)) (hv : v.isRef = true) (hr : Steps tb e below (T.setTop (mkF m (pc + 2) ls (v :: st))) target) : Steps tb e below (T.setTop (mkF m pc ls (st))) target := XS.aload h hx rfl hd hl hv hr
theorem own_astoreN (h : At T m c below) (hx : tb.exec = Jvm.exec) {k : Fin 4} {v : Value} {l' : Array Slot} (hd : decode c.code pc = .ok (.astore_n k, 1)) (hv : v.isRef = true) (hl : storeLocals ls k.val v = some l') (hr : Steps tb e below (T.setTop (mkF m (pc + 1) l' (st))) target) : Steps tb e below (T.setTop (mkF m pc ls (v :: st))) target := XS.astoreN h hx rfl hd rfl hv hl hr
theorem own_astore (h : At T m c below) (hx : tb.exec = Jvm.exec) {k : Nat} {v : Value} {l' : Array Slot} (hd : decode c.code pc = .ok (.astore k, 2)) (hv : v.isRef = true) (hl : storeLocals ls k v = some l') (hr : Steps tb e below (T.setTop (mkF m (pc + 2) l' (st))) target) : Steps tb e below (T.setTop (mkF m pc ls (v :: st))) target := XS.astore h hx rfl hd rfl hv hl hr
theorem own_iconst (h : At T m c below) (hx : tb.exec = Jvm.exec) {i : Int} (z : Int32) (hd : decode c.code pc = .ok (.iconst i, 1)) (hz : Int32.ofInt i = z) (hr : Steps tb e below (T.setTop (mkF m (pc + 1) ls (.int z :: st))) target) : Steps tb e below (T.setTop (mkF m pc ls st)) target := by
  subst hz; exact XS.iconst h hx rfl hd hr
theorem own_bipush (h : At T m c below) (hx : tb.exec = Jvm.exec) {i : Int} (z : Int32) (hd : decode c.code pc = .ok (.bipush i, 2)) (hz : (Int8.ofInt i).toInt32 = z) (hr : Steps tb e below (T.setTop (mkF m (pc + 2) ls (.int z :: st))) target) : Steps tb e below (T.setTop (mkF m pc ls st)) target := by
  subst hz; exact XS.bipush h hx rfl hd hr
theorem own_sipush (h : At T m c below) (hx : tb.exec = Jvm.exec) {i : Int} (z : Int32) (hd : decode c.code pc = .ok (.sipush i, 3)) (hz : (Int16.ofInt i).toInt32 = z) (hr : Steps tb e below (T.setTop (mkF m (pc + 3) ls (.int z :: st))) target) : Steps tb e below (T.setTop (mkF m pc ls st)) target := by
  subst hz; exact XS.sipush h hx rfl hd hr
theorem own_lconst0 (h : At T m c below) (hx : tb.exec = Jvm.exec) (hd : decode c.code pc = .ok (.lconst 0, 1)) (hr : Steps tb e below (T.setTop (mkF m (pc + 1) ls (.long (0 : Int64) :: st))) target) : Steps tb e below (T.setTop (mkF m pc ls st)) target := XS.lconst h hx rfl hd hr
theorem own_lconst1 (h : At T m c below) (hx : tb.exec = Jvm.exec) (hd : decode c.code pc = .ok (.lconst 1, 1)) (hr : Steps tb e below (T.setTop (mkF m (pc + 1) ls (.long (1 : Int64) :: st))) target) : Steps tb e below (T.setTop (mkF m pc ls st)) target := XS.lconst h hx rfl hd hr
theorem own_aconstNull (h : At T m c below) (hx : tb.exec = Jvm.exec)  (hd : decode c.code pc = .ok (.aconst_null, 1)) (hr : Steps tb e below (T.setTop (mkF m (pc + 1) ls (.null :: st))) target) : Steps tb e below (T.setTop (mkF m pc ls (st))) target := XS.aconstNull h hx rfl hd hr
theorem own_iadd (h : At T m c below) (hx : tb.exec = Jvm.exec) {x y : Int32} (hd : decode c.code pc = .ok (.iadd, 1)) (hr : Steps tb e below (T.setTop (mkF m (pc + 1) ls (.int (x + y) :: st))) target) : Steps tb e below (T.setTop (mkF m pc ls (.int y :: .int x :: st))) target := XS.iadd h hx rfl hd rfl hr
theorem own_isub (h : At T m c below) (hx : tb.exec = Jvm.exec) {x y : Int32} (hd : decode c.code pc = .ok (.isub, 1)) (hr : Steps tb e below (T.setTop (mkF m (pc + 1) ls (.int (x - y) :: st))) target) : Steps tb e below (T.setTop (mkF m pc ls (.int y :: .int x :: st))) target := XS.isub h hx rfl hd rfl hr
theorem own_imul (h : At T m c below) (hx : tb.exec = Jvm.exec) {x y : Int32} (hd : decode c.code pc = .ok (.imul, 1)) (hr : Steps tb e below (T.setTop (mkF m (pc + 1) ls (.int (x * y) :: st))) target) : Steps tb e below (T.setTop (mkF m pc ls (.int y :: .int x :: st))) target := XS.imul h hx rfl hd rfl hr
theorem own_iand (h : At T m c below) (hx : tb.exec = Jvm.exec) {x y : Int32} (hd : decode c.code pc = .ok (.iand, 1)) (hr : Steps tb e below (T.setTop (mkF m (pc + 1) ls (.int (x &&& y) :: st))) target) : Steps tb e below (T.setTop (mkF m pc ls (.int y :: .int x :: st))) target := XS.iand h hx rfl hd rfl hr
theorem own_ior (h : At T m c below) (hx : tb.exec = Jvm.exec) {x y : Int32} (hd : decode c.code pc = .ok (.ior, 1)) (hr : Steps tb e below (T.setTop (mkF m (pc + 1) ls (.int (x ||| y) :: st))) target) : Steps tb e below (T.setTop (mkF m pc ls (.int y :: .int x :: st))) target := XS.ior h hx rfl hd rfl hr
theorem own_ixor (h : At T m c below) (hx : tb.exec = Jvm.exec) {x y : Int32} (hd : decode c.code pc = .ok (.ixor, 1)) (hr : Steps tb e below (T.setTop (mkF m (pc + 1) ls (.int (x ^^^ y) :: st))) target) : Steps tb e below (T.setTop (mkF m pc ls (.int y :: .int x :: st))) target := XS.ixor h hx rfl hd rfl hr
theorem own_idiv (h : At T m c below) (hx : tb.exec = Jvm.exec) {x y : Int32} (hd : decode c.code pc = .ok (.idiv, 1)) (hy : y ≠ 0) (hr : Steps tb e below (T.setTop (mkF m (pc + 1) ls (.int (x / y) :: st))) target) : Steps tb e below (T.setTop (mkF m pc ls (.int y :: .int x :: st))) target := XS.idiv h hx rfl hd rfl hy hr
theorem own_ladd (h : At T m c below) (hx : tb.exec = Jvm.exec) {x y : Int64} (hd : decode c.code pc = .ok (.ladd, 1)) (hr : Steps tb e below (T.setTop (mkF m (pc + 1) ls (.long (x + y) :: st))) target) : Steps tb e below (T.setTop (mkF m pc ls (.long y :: .long x :: st))) target := XS.ladd h hx rfl hd rfl hr
theorem own_lsub (h : At T m c below) (hx : tb.exec = Jvm.exec) {x y : Int64} (hd : decode c.code pc = .ok (.lsub, 1)) (hr : Steps tb e below (T.setTop (mkF m (pc + 1) ls (.long (x - y) :: st))) target) : Steps tb e below (T.setTop (mkF m pc ls (.long y :: .long x :: st))) target := XS.lsub h hx rfl hd rfl hr
theorem own_lmul (h : At T m c below) (hx : tb.exec = Jvm.exec) {x y : Int64} (hd : decode c.code pc = .ok (.lmul, 1)) (hr : Steps tb e below (T.setTop (mkF m (pc + 1) ls (.long (x * y) :: st))) target) : Steps tb e below (T.setTop (mkF m pc ls (.long y :: .long x :: st))) target := XS.lmul h hx rfl hd rfl hr
theorem own_land (h : At T m c below) (hx : tb.exec = Jvm.exec) {x y : Int64} (hd : decode c.code pc = .ok (.land, 1)) (hr : Steps tb e below (T.setTop (mkF m (pc + 1) ls (.long (x &&& y) :: st))) target) : Steps tb e below (T.setTop (mkF m pc ls (.long y :: .long x :: st))) target := XS.land h hx rfl hd rfl hr
theorem own_lor (h : At T m c below) (hx : tb.exec = Jvm.exec) {x y : Int64} (hd : decode c.code pc = .ok (.lor, 1)) (hr : Steps tb e below (T.setTop (mkF m (pc + 1) ls (.long (x ||| y) :: st))) target) : Steps tb e below (T.setTop (mkF m pc ls (.long y :: .long x :: st))) target := XS.lor h hx rfl hd rfl hr
theorem own_lxor (h : At T m c below) (hx : tb.exec = Jvm.exec) {x y : Int64} (hd : decode c.code pc = .ok (.lxor, 1)) (hr : Steps tb e below (T.setTop (mkF m (pc + 1) ls (.long (x ^^^ y) :: st))) target) : Steps tb e below (T.setTop (mkF m pc ls (.long y :: .long x :: st))) target := XS.lxor h hx rfl hd rfl hr
theorem own_ldiv (h : At T m c below) (hx : tb.exec = Jvm.exec) {x y : Int64} (hd : decode c.code pc = .ok (.ldiv, 1)) (hy : y ≠ 0) (hr : Steps tb e below (T.setTop (mkF m (pc + 1) ls (.long (x / y) :: st))) target) : Steps tb e below (T.setTop (mkF m pc ls (.long y :: .long x :: st))) target := XS.ldiv h hx rfl hd rfl hy hr
theorem own_irem (h : At T m c below) (hx : tb.exec = Jvm.exec) {x y : Int32} (hd : decode c.code pc = .ok (.irem, 1)) (hy : y ≠ 0) (hr : Steps tb e below (T.setTop (mkF m (pc + 1) ls (.int (own_rem x y) :: st))) target) : Steps tb e below (T.setTop (mkF m pc ls (.int y :: .int x :: st))) target := XS.irem h hx rfl hd rfl hy hr
theorem own_ishl (h : At T m c below) (hx : tb.exec = Jvm.exec) {x : Int32} {y : Int32} (hd : decode c.code pc = .ok (.ishl, 1)) (hr : Steps tb e below (T.setTop (mkF m (pc + 1) ls (.int (x <<< (y &&& 31)) :: st))) target) : Steps tb e below (T.setTop (mkF m pc ls (.int y :: .int x :: st))) target := XS.ishl h hx rfl hd rfl hr
theorem own_ishr (h : At T m c below) (hx : tb.exec = Jvm.exec) {x : Int32} {y : Int32} (hd : decode c.code pc = .ok (.ishr, 1)) (hr : Steps tb e below (T.setTop (mkF m (pc + 1) ls (.int (x >>> (y &&& 31)) :: st))) target) : Steps tb e below (T.setTop (mkF m pc ls (.int y :: .int x :: st))) target := XS.ishr h hx rfl hd rfl hr
theorem own_iushr (h : At T m c below) (hx : tb.exec = Jvm.exec) {x : Int32} {y : Int32} (hd : decode c.code pc = .ok (.iushr, 1)) (hr : Steps tb e below (T.setTop (mkF m (pc + 1) ls (.int ((x.toUInt32 >>> (y &&& 31).toUInt32).toInt32) :: st))) target) : Steps tb e below (T.setTop (mkF m pc ls (.int y :: .int x :: st))) target := XS.iushr h hx rfl hd rfl hr
theorem own_lshl (h : At T m c below) (hx : tb.exec = Jvm.exec) {x : Int64} {y : Int32} (hd : decode c.code pc = .ok (.lshl, 1)) (hr : Steps tb e below (T.setTop (mkF m (pc + 1) ls (.long (x <<< (y &&& 0x3f).toInt64) :: st))) target) : Steps tb e below (T.setTop (mkF m pc ls (.int y :: .long x :: st))) target := XS.lshl h hx rfl hd rfl hr
theorem own_lshr (h : At T m c below) (hx : tb.exec = Jvm.exec) {x : Int64} {y : Int32} (hd : decode c.code pc = .ok (.lshr, 1)) (hr : Steps tb e below (T.setTop (mkF m (pc + 1) ls (.long (x >>> (y &&& 0x3f).toInt64) :: st))) target) : Steps tb e below (T.setTop (mkF m pc ls (.int y :: .long x :: st))) target := XS.lshr h hx rfl hd rfl hr
theorem own_lushr (h : At T m c below) (hx : tb.exec = Jvm.exec) {x : Int64} {y : Int32} (hd : decode c.code pc = .ok (.lushr, 1)) (hr : Steps tb e below (T.setTop (mkF m (pc + 1) ls (.long ((x.toUInt64 >>> (y &&& 0x3f).toInt64.toUInt64).toInt64) :: st))) target) : Steps tb e below (T.setTop (mkF m pc ls (.int y :: .long x :: st))) target := XS.lushr h hx rfl hd rfl hr
theorem own_ineg (h : At T m c below) (hx : tb.exec = Jvm.exec) {x : Int32} (hd : decode c.code pc = .ok (.ineg, 1)) (hr : Steps tb e below (T.setTop (mkF m (pc + 1) ls (.int (-x) :: st))) target) : Steps tb e below (T.setTop (mkF m pc ls (.int x :: st))) target := XS.ineg h hx rfl hd rfl hr
theorem own_lneg (h : At T m c below) (hx : tb.exec = Jvm.exec) {x : Int64} (hd : decode c.code pc = .ok (.lneg, 1)) (hr : Steps tb e below (T.setTop (mkF m (pc + 1) ls (.long (-x) :: st))) target) : Steps tb e below (T.setTop (mkF m pc ls (.long x :: st))) target := XS.lneg h hx rfl hd rfl hr
theorem own_i2l (h : At T m c below) (hx : tb.exec = Jvm.exec) {x : Int32} (hd : decode c.code pc = .ok (.i2l, 1)) (hr : Steps tb e below (T.setTop (mkF m (pc + 1) ls (.long x.toInt64 :: st))) target) : Steps tb e below (T.setTop (mkF m pc ls (.int x :: st))) target := XS.i2l h hx rfl hd rfl hr
theorem own_l2i (h : At T m c below) (hx : tb.exec = Jvm.exec) {x : Int64} (hd : decode c.code pc = .ok (.l2i, 1)) (hr : Steps tb e below (T.setTop (mkF m (pc + 1) ls (.int x.toInt32 :: st))) target) : Steps tb e below (T.setTop (mkF m pc ls (.long x :: st))) target := XS.l2i h hx rfl hd rfl hr
theorem own_i2b (h : At T m c below) (hx : tb.exec = Jvm.exec) {x : Int32} (hd : decode c.code pc = .ok (.i2b, 1)) (hr : Steps tb e below (T.setTop (mkF m (pc + 1) ls (.int x.toInt8.toInt32 :: st))) target) : Steps tb e below (T.setTop (mkF m pc ls (.int x :: st))) target := XS.i2b h hx rfl hd rfl hr
theorem own_i2s (h : At T m c below) (hx : tb.exec = Jvm.exec) {x : Int32} (hd : decode c.code pc = .ok (.i2s, 1)) (hr : Steps tb e below (T.setTop (mkF m (pc + 1) ls (.int x.toInt16.toInt32 :: st))) target) : Steps tb e below (T.setTop (mkF m pc ls (.int x :: st))) target := XS.i2s h hx rfl hd rfl hr
theorem own_i2c (h : At T m c below) (hx : tb.exec = Jvm.exec) {x : Int32} (hd : decode c.code pc = .ok (.i2c, 1)) (hr : Steps tb e below (T.setTop (mkF m (pc + 1) ls (.int x.toUInt32.toUInt16.toUInt32.toInt32 :: st))) target) : Steps tb e below (T.setTop (mkF m pc ls (.int x :: st))) target := XS.i2c h hx rfl hd rfl hr
theorem own_lcmp (h : At T m c below) (hx : tb.exec = Jvm.exec) {x y : Int64} (hd : decode c.code pc = .ok (.lcmp, 1)) (hr : Steps tb e below (T.setTop (mkF m (pc + 1) ls (.int (lcmpW x y) :: st))) target) : Steps tb e below (T.setTop (mkF m pc ls (.long y :: .long x :: st))) target := XS.lcmp h hx rfl hd rfl hr
theorem own_iinc (h : At T m c below) (hx : tb.exec = Jvm.exec) {k : Nat} {cst : Int} {x : Int32} {l' : Array Slot} (z : Int32) (hd : decode c.code pc = .ok (.iinc k cst, 3)) (hl : ls[k]? = some (.val (.int x))) (hz : Int32.ofInt cst = z) (hl' : storeLocals ls k (.int (x + z)) = some l') (hr : Steps tb e below (T.setTop (mkF m (pc + 3) l' st)) target) : Steps tb e below (T.setTop (mkF m pc ls st)) target := by
  subst hz; exact XS.iinc h hx rfl hd hl hl' hr
theorem own_dup (h : At T m c below) (hx : tb.exec = Jvm.exec) {x : Value} (hd : decode c.code pc = .ok (.dup, 1)) (hc : x.category = 1) (hr : Steps tb e below (T.setTop (mkF m (pc + 1) ls (x :: x :: st))) target) : Steps tb e below (T.setTop (mkF m pc ls (x :: st))) target := XS.dup h hx rfl hd rfl hc hr
theorem own_dupX1 (h : At T m c below) (hx : tb.exec = Jvm.exec) {x y : Value} (hd : decode c.code pc = .ok (.dup_x1, 1)) (hc : x.category = 1) (hc2 : y.category = 1) (hr : Steps tb e below (T.setTop (mkF m (pc + 1) ls (x :: y :: x :: st))) target) : Steps tb e below (T.setTop (mkF m pc ls (x :: y :: st))) target := XS.dupX1 h hx rfl hd rfl hc hc2 hr
theorem own_pop (h : At T m c below) (hx : tb.exec = Jvm.exec) {x : Value} (hd : decode c.code pc = .ok (.pop, 1)) (hc : x.category = 1) (hr : Steps tb e below (T.setTop (mkF m (pc + 1) ls (st))) target) : Steps tb e below (T.setTop (mkF m pc ls (x :: st))) target := XS.pop h hx rfl hd rfl hc hr
theorem own_goto (h : At T m c below) (hx : tb.exec = Jvm.exec) {o : Int} (pc0 pc' : Nat) (hpc : pc = pc0) (hd : decode c.code pc = .ok (.goto o, 3)) (ho : 0 ≤ (pc0 : Int) + o) (hp : ((pc0 : Int) + o).toNat = pc') (hr : Steps tb e below (T.setTop (mkF m pc' ls (st))) target) : Steps tb e below (T.setTop (mkF m pc ls (st))) target := XS.goto h hx rfl hpc hd ho hp hr
theorem own_ifYes (h : At T m c below) (hx : tb.exec = Jvm.exec) {cd : ClassFile.Cond} {o : Int} {x : Int32} (pc0 pc' : Nat) (hpc : pc = pc0) (hd : decode c.code pc = .ok (.ifCond cd o, 3)) (hc : ifCond.holds cd x = true) (ho : 0 ≤ (pc0 : Int) + o) (hp : ((pc0 : Int) + o).toNat = pc') (hr : Steps tb e below (T.setTop (mkF m pc' ls (st))) target) : Steps tb e below (T.setTop (mkF m pc ls (.int x :: st))) target := XS.ifYes h hx rfl hpc hd rfl hc ho hp hr
theorem own_ifNo (h : At T m c below) (hx : tb.exec = Jvm.exec) {cd : ClassFile.Cond} {o : Int} {x : Int32} (hd : decode c.code pc = .ok (.ifCond cd o, 3)) (hc : ifCond.holds cd x = false) (hr : Steps tb e below (T.setTop (mkF m (pc + 3) ls (st))) target) : Steps tb e below (T.setTop (mkF m pc ls (.int x :: st))) target := XS.ifNo h hx rfl hd rfl hc hr
theorem own_icmpYes (h : At T m c below) (hx : tb.exec = Jvm.exec) {cd : ClassFile.Cond} {o : Int} {x y : Int32} (pc0 pc' : Nat) (hpc : pc = pc0) (hd : decode c.code pc = .ok (.if_icmp cd o, 3)) (hc : if_icmp.holds cd x y = true) (ho : 0 ≤ (pc0 : Int) + o) (hp : ((pc0 : Int) + o).toNat = pc') (hr : Steps tb e below (T.setTop (mkF m pc' ls (st))) target) : Steps tb e below (T.setTop (mkF m pc ls (.int y :: .int x :: st))) target := XS.icmpYes h hx rfl hpc hd rfl hc ho hp hr
theorem own_icmpNo (h : At T m c below) (hx : tb.exec = Jvm.exec) {cd : ClassFile.Cond} {o : Int} {x y : Int32} (hd : decode c.code pc = .ok (.if_icmp cd o, 3)) (hc : if_icmp.holds cd x y = false) (hr : Steps tb e below (T.setTop (mkF m (pc + 3) ls (st))) target) : Steps tb e below (T.setTop (mkF m pc ls (.int y :: .int x :: st))) target := XS.icmpNo h hx rfl hd rfl hc hr
theorem own_ifnullYes (h : At T m c below) (hx : tb.exec = Jvm.exec) {o : Int} (pc0 pc' : Nat) (hpc : pc = pc0) (hd : decode c.code pc = .ok (.ifnull o, 3)) (ho : 0 ≤ (pc0 : Int) + o) (hp : ((pc0 : Int) + o).toNat = pc') (hr : Steps tb e below (T.setTop (mkF m pc' ls (st))) target) : Steps tb e below (T.setTop (mkF m pc ls (.null :: st))) target := XS.ifnullYes h hx rfl hpc hd rfl ho hp hr
theorem own_ifnullNo (h : At T m c below) (hx : tb.exec = Jvm.exec) {o : Int} {b : Addr} (hd : decode c.code pc = .ok (.ifnull o, 3)) (hr : Steps tb e below (T.setTop (mkF m (pc + 3) ls (st))) target) : Steps tb e below (T.setTop (mkF m pc ls (.ref b :: st))) target := XS.ifnullNo h hx rfl hd rfl hr
theorem own_ifnonnullYes (h : At T m c below) (hx : tb.exec = Jvm.exec) {o : Int} {b : Addr} (pc0 pc' : Nat) (hpc : pc = pc0) (hd : decode c.code pc = .ok (.ifnonnull o, 3)) (ho : 0 ≤ (pc0 : Int) + o) (hp : ((pc0 : Int) + o).toNat = pc') (hr : Steps tb e below (T.setTop (mkF m pc' ls (st))) target) : Steps tb e below (T.setTop (mkF m pc ls (.ref b :: st))) target := XS.ifnonnullYes h hx rfl hpc hd rfl ho hp hr
theorem own_ifnonnullNo (h : At T m c below) (hx : tb.exec = Jvm.exec) {o : Int} (hd : decode c.code pc = .ok (.ifnonnull o, 3)) (hr : Steps tb e below (T.setTop (mkF m (pc + 3) ls (st))) target) : Steps tb e below (T.setTop (mkF m pc ls (.null :: st))) target := XS.ifnonnullNo h hx rfl hd rfl hr
end OwnSteps

def own_eph (k : Int32) : Int32 := if (k &&& (1 : Int32)) = (0 : Int32) then (0 : Int32) else (1 : Int32)
theorem own_eqI {args : Array Value} {first s : State} {o : Option Outcome} {idx : List Nat} {t : Term} {k : Int32} (h : (Cond.eq t (.int k)).value args first o s idx = some true) : t.eval args first o idx s = some (.int k) := by
  cases ha : t.eval args first o idx s with
  | none => simp [Cond.value, ha] at h
  | some x => cases x <;> simp_all [Cond.value, Term.eval]
theorem ef_rm1 (m : MethodId) (x0 : Addr) : entryFrame m #[(.ref x0)] 1 = mkF m 0 #[.val (.ref x0)] [] := by first | (simp [entryFrame, mkF, argsToLocals, Value.category]; done) | rfl
theorem pn_com_example_ukhetho_ukhetho_protocol_CreateMode : plainName "com/example/ukhetho/ukhetho/protocol/CreateMode" = true := by first | (simp [plainName, overriddenIn]; done) | decide +kernel
def Q1 (Z : State) (a1 : Addr) (k : Int32) (h0 : Heap) (n0 : Nat) (v : Option Value) (h : Heap) (L : List Loc) : Prop := v = some (.int (own_eph k)) ∧ Fr n0 L ∧ h = h0
theorem d_prog_55_method_6_code_0 : decode prog_55_method_6_code 0 = .ok (.aload_n 0, 1) := by decide +kernel
theorem d_prog_55_method_6_code_1 : decode prog_55_method_6_code 1 = .ok (.getfield 35, 3) := by decide +kernel
theorem d_prog_55_method_6_code_4 : decode prog_55_method_6_code 4 = .ok (.iconst 1, 1) := by decide +kernel
theorem d_prog_55_method_6_code_5 : decode prog_55_method_6_code 5 = .ok (.iand, 1) := by decide +kernel
theorem d_prog_55_method_6_code_6 : decode prog_55_method_6_code 6 = .ok (.ifCond .eq 7, 3) := by decide +kernel
theorem d_prog_55_method_6_code_13 : decode prog_55_method_6_code 13 = .ok (.iconst 0, 1) := by decide +kernel
theorem d_prog_55_method_6_code_14 : decode prog_55_method_6_code 14 = .ok (.ireturn, 1) := by decide +kernel
theorem d_prog_55_method_6_code_9 : decode prog_55_method_6_code 9 = .ok (.iconst 1, 1) := by decide +kernel
theorem d_prog_55_method_6_code_10 : decode prog_55_method_6_code 10 = .ok (.goto 4, 3) := by decide +kernel
set_option maxRecDepth 65536 in
set_option maxHeartbeats 40000000 in
theorem rm1 (l : Launch) (Z : State) (aW : Array Value) (hw : ∀ d ∈ tables_1, d.before aW Z = true) (ws : List Jvm.Cond) (a1 : Addr) (k : Int32) (h0 : Heap) (n0 : Nat) (Z0 : n0 ≤ h0.size) (F1 : Fld Z h0 a1 "com/example/ukhetho/ukhetho/protocol/CreateMode" "flags" "I" (.int k)) :
    MetFree l (⟨"com/example/ukhetho/ukhetho/protocol/CreateMode", "ephemeral", "()Z"⟩ : MethodName) (head1 (Jvm.Cond.code (⟨"com/example/ukhetho/ukhetho/protocol/CreateMode", "ephemeral", "()Z"⟩ : MethodName) prog_55_method_6_code 1 (some .boolean) :: ws) ({ frames := 0, cells := 0, slots := 0, locals := 0 } : Room)) (fun a U => a = #[(.ref a1)] ∧ Z.Warmed39 U.vm ∧ U.heap = h0) (fun _ _ _ _ _ => True) (fun _ U o U' => ∃ v L, o = .returned v ∧ Q1 Z a1 k h0 n0 v U'.heap L ∧ FrameEnd U o U' L ({ frames := 0, cells := 0, slots := 0, locals := 0 } : Room).cells ({ frames := 0, cells := 0, slots := 0, locals := 0 } : Room).slots) := by
  refine MetFree.of_bodySF (plainFor_of_name pn_com_example_ukhetho_ukhetho_protocol_CreateMode) hisR ?_
  intro p e s m args below meth c s₁ Bd hml0 hP hK
  obtain ⟨rfl, hZ, hh⟩ := hP
  have hx := Bd.exec
  have hby := Bd.bytes
  have hml : c.maxLocals = 1 := hml0
  have hown : s.vm.findClass "com/example/ukhetho/ukhetho/protocol/CreateMode" = some m.cls := findClass_of_methodNamed Bd.named
  have hnm := (name_of_methodNamed Bd.named Bd.method).1
  have X0 : Stand p l e ({ frames := 0, cells := 0, slots := 0, locals := 0 } : Room) s m #[(.ref a1)] below meth c s₁ [] 0 0 := Stand.of_body Bd
  have e0 : s₁.heap = h0 := by rw [← hh, Bd.state]; rfl
  have N0 := Fr.nil n0
  have pre0 : ∀ t, Steps p.tables e below (s₁.setTop (mkF m 0 #[.val (.ref a1)] [])) t → Steps p.tables e below (s₁.setTop (entryFrame m #[(.ref a1)] 1)) t := fun t k => castTop (ef_rm1 m a1) k
  obtain ⟨T1, X1, e1, st1⟩ := getF X0 hx hZ hown (host := "") (Or.inl (hw _ (List.mem_of_getElem? (i := 8) rfl))) Via.refl e0 F1 (g := (mkF m 1 #[.val (.ref a1)] [(.ref a1)])) rfl rfl (hb hby d_prog_55_method_6_code_1)
  have G2 : ∀ t, Steps p.tables e below (T1.setTop (mkF m 6 #[.val (.ref a1)] [(.int (k &&& (1 : Int32)))])) t → Steps p.tables e below (s₁.setTop (mkF m 0 #[.val (.ref a1)] [])) t := by
    intro tG kG
    refine own_aloadN X0.here hx (hb hby d_prog_55_method_6_code_0) rfl rfl ?_
    refine st1 _ ?_
    show Steps p.tables e below (T1.setTop (mkF m 4 #[.val (.ref a1)] [(.int k)])) _
    refine own_iconst X1.here hx (1 : Int32) (hb hby d_prog_55_method_6_code_4) rfl ?_
    refine own_iand X1.here hx (hb hby d_prog_55_method_6_code_5) ?_
    exact kG
  by_cases hc6 : (k &&& (1 : Int32)) = (0 : Int32)
  · obtain ⟨fs, hr, hrun, hended, hW, hsame⟩ := X1.leave (v := some (.int 0)) (fun h => by rw [Bd.returns] at h; cases h)
    refine ⟨_, _, pre0 _ ?_, hrun, hended, _, _, rfl, ?_, ⟨_, rfl⟩, hW, hsame.mono (by decide) (by decide)⟩
    · refine G2 _ ?_
      refine own_ifYes X1.here hx 6 13 rfl (hb hby d_prog_55_method_6_code_6) ((if0 _ _).trans (teq hc6).1) (by decide) (by decide) ?_
      refine own_iconst X1.here hx (0 : Int32) (hb hby d_prog_55_method_6_code_13) rfl ?_
      exact retN X1 hx (t := .boolean) Bd.returns (by simp) (hb hby d_prog_55_method_6_code_14) hr
    · show Q1 Z a1 k h0 n0 _ T1.heap _
      rw [e1]
      exact ⟨by simp only [own_eph, if_pos hc6], N0, rfl⟩
  · obtain ⟨fs, hr, hrun, hended, hW, hsame⟩ := X1.leave (v := some (.int 1)) (fun h => by rw [Bd.returns] at h; cases h)
    refine ⟨_, _, pre0 _ ?_, hrun, hended, _, _, rfl, ?_, ⟨_, rfl⟩, hW, hsame.mono (by decide) (by decide)⟩
    · refine G2 _ ?_
      refine own_ifNo X1.here hx (hb hby d_prog_55_method_6_code_6) ((if0 _ _).trans (feq hc6).1) ?_
      refine own_iconst X1.here hx (1 : Int32) (hb hby d_prog_55_method_6_code_9) rfl ?_
      refine own_goto X1.here hx 10 14 rfl (hb hby d_prog_55_method_6_code_10) (by decide) (by decide) ?_
      exact retN X1 hx (t := .boolean) Bd.returns (by simp) (hb hby d_prog_55_method_6_code_14) hr
    · show Q1 Z a1 k h0 n0 _ T1.heap _
      rw [e1]
      exact ⟨by simp only [own_eph, if_neg hc6], N0, rfl⟩
theorem ef_rm0 (m : MethodId) (x0 : Int32) : entryFrame m #[(.int x0)] maxLocals = mkF m 0 #[.val (.int x0), .unset, .unset, .unset] [] := by first | (simp [entryFrame, mkF, argsToLocals, Value.category, maxLocals]; done) | rfl
theorem pn_com_example_ukhetho_ukhetho_protocol_CreateModeEphemeralPinLaw : plainName "com/example/ukhetho/ukhetho/protocol/CreateModeEphemeralPinLaw" = true := by first | (simp [plainName, overriddenIn]; done) | decide +kernel
def Q0 (Z : State) (p1 : Int32) (a0 : Addr) (a1 : Addr) (a2 : Addr) (a3 : Addr) (h0 : Heap) (n0 : Nat) (v : Option Value) (h : Heap) (L : List Loc) : Prop := v = some (.int (1 : Int32)) ∧ Fr n0 L
theorem pd_2829Z : parseMethodDescriptor "()Z" = some ⟨[], some .boolean⟩ := by decide +kernel
set_option maxRecDepth 65536 in
set_option maxHeartbeats 40000000 in
theorem rm0 (l : Launch) (Z : State) (aW : Array Value) (hw : ∀ d ∈ tables_1, d.before aW Z = true) (ws : List Jvm.Cond) (p1 : Int32) (a0 : Addr) (a1 : Addr) (a2 : Addr) (a3 : Addr) (h0 : Heap) (n0 : Nat) (Z0 : n0 ≤ h0.size) (S0 : Sta Z h0 "com/example/ukhetho/ukhetho/protocol/CreateMode" "PERSISTENT" "Lcom/example/ukhetho/ukhetho/protocol/CreateMode;" (.ref a0)) (E0 : Exa Z h0 a0 "com/example/ukhetho/ukhetho/protocol/CreateMode") (F0 : Fld Z h0 a0 "com/example/ukhetho/ukhetho/protocol/CreateMode" "flags" "I" (.int (0 : Int32))) (S1 : Sta Z h0 "com/example/ukhetho/ukhetho/protocol/CreateMode" "EPHEMERAL_SEQUENTIAL" "Lcom/example/ukhetho/ukhetho/protocol/CreateMode;" (.ref a1)) (E1 : Exa Z h0 a1 "com/example/ukhetho/ukhetho/protocol/CreateMode") (F1 : Fld Z h0 a1 "com/example/ukhetho/ukhetho/protocol/CreateMode" "flags" "I" (.int (3 : Int32))) (S2 : Sta Z h0 "com/example/ukhetho/ukhetho/protocol/CreateMode" "PERSISTENT_SEQUENTIAL" "Lcom/example/ukhetho/ukhetho/protocol/CreateMode;" (.ref a2)) (E2 : Exa Z h0 a2 "com/example/ukhetho/ukhetho/protocol/CreateMode") (F2 : Fld Z h0 a2 "com/example/ukhetho/ukhetho/protocol/CreateMode" "flags" "I" (.int (2 : Int32))) (S3 : Sta Z h0 "com/example/ukhetho/ukhetho/protocol/CreateMode" "EPHEMERAL" "Lcom/example/ukhetho/ukhetho/protocol/CreateMode;" (.ref a3)) (E3 : Exa Z h0 a3 "com/example/ukhetho/ukhetho/protocol/CreateMode") (F3 : Fld Z h0 a3 "com/example/ukhetho/ukhetho/protocol/CreateMode" "flags" "I" (.int (1 : Int32))) :
    MetFree l x (head1 (Jvm.Cond.code x code maxLocals ret :: ws) room_1) (fun a U => a = #[(.int p1)] ∧ Z.Warmed39 U.vm ∧ U.heap = h0) (fun _ _ _ _ _ => True) (fun _ U o U' => ∃ v L, o = .returned v ∧ Q0 Z p1 a0 a1 a2 a3 h0 n0 v U'.heap L ∧ FrameEnd U o U' L 0 0) := by
  refine MetFree.of_bodySF (plainFor_of_name pn_com_example_ukhetho_ukhetho_protocol_CreateModeEphemeralPinLaw) hisR ?_
  intro p e s m args below meth c s₁ Bd hml0 hP hK
  obtain ⟨rfl, hZ, hh⟩ := hP
  have hx := Bd.exec
  have hby := Bd.bytes
  have hml : c.maxLocals = 4 := hml0
  have hown : s.vm.findClass "com/example/ukhetho/ukhetho/protocol/CreateModeEphemeralPinLaw" = some m.cls := findClass_of_methodNamed Bd.named
  have hnm := (name_of_methodNamed Bd.named Bd.method).1
  have X0 : Stand p l e room_1 s m #[(.int p1)] below meth c s₁ [] 0 0 := Stand.of_body Bd
  have e0 : s₁.heap = h0 := by rw [← hh, Bd.state]; rfl
  have N0 := Fr.nil n0
  have pre0 : ∀ t, Steps p.tables e below (s₁.setTop (mkF m 0 #[.val (.int p1), .unset, .unset, .unset] [])) t → Steps p.tables e below (s₁.setTop (entryFrame m #[(.int p1)] maxLocals)) t := fun t k => castTop (ef_rm0 m p1) k
  have G3 : ∀ t, Steps p.tables e below (s₁.setTop (mkF m 5 #[.val (.int p1), .val (.int (p1 &&& (3 : Int32))), .unset, .unset] [(.int (p1 &&& (3 : Int32)))])) t → Steps p.tables e below (s₁.setTop (mkF m 0 #[.val (.int p1), .unset, .unset, .unset] [])) t := by
    intro tG kG
    refine own_iloadN X0.here hx (hb hby at_0) rfl ?_
    refine own_iconst X0.here hx (3 : Int32) (hb hby at_1) rfl ?_
    refine own_iand X0.here hx (hb hby at_2) ?_
    refine own_istoreN X0.here hx (hb hby at_3) (l' := #[.val (.int p1), .val (.int (p1 &&& (3 : Int32))), .unset, .unset]) rfl ?_
    refine own_iloadN X0.here hx (hb hby at_4) rfl ?_
    exact kG
  by_cases hc5 : (p1 &&& (3 : Int32)) = (0 : Int32)
  · obtain ⟨T4, X4, e4, st4⟩ := getS2 X0 hx hZ hown (host := "") (Or.inl (hw _ (List.mem_of_getElem? (i := 0) rfl))) Via.refl e0 S0 (g := (mkF m 8 #[.val (.int p1), .val (.int (p1 &&& (3 : Int32))), .unset, .unset] [])) rfl (hb hby at_8)
    obtain ⟨cq5, kq5, q5a, q5b, q5c⟩ := isOf hZ e4 E0
    obtain ⟨_, _, ⟨T5, L5, k5, n5⟩, -, X5, ⟨Lc5, hQ5, l5, y5, z5⟩, st5⟩ := X4.virtualBack hx (y := (⟨"com/example/ukhetho/ukhetho/protocol/CreateMode", "ephemeral", "()Z"⟩ : MethodName)) (z := (⟨"com/example/ukhetho/ukhetho/protocol/CreateMode", "ephemeral", "()Z"⟩ : MethodName)) hown (mvT hZ (hw _ (List.mem_of_getElem? (i := 3) rfl))) (mvT hZ (hw _ (List.mem_of_getElem? (i := 4) rfl))) (notFace_of_selects (args := #[]) (mvT hZ (hw _ (List.mem_of_getElem? (i := 6) rfl)))) (mvT hZ (hw _ (List.mem_of_getElem? (i := 6) rfl))) (mvT hZ (hw _ (List.mem_of_getElem? (i := 5) rfl))) (by decide) (backOf (W := 0) (rm1 l Z aW hw [] a0 (0 : Int32) h0 n0 Z0 F0) hZ (hw _ (List.mem_of_getElem? (i := 7) rfl)) (hw _ (List.mem_of_getElem? (i := 1) rfl)) (by decide) (by decide)) q5a q5c (g := (mkF m 52 #[.val (.int p1), .val (.int (p1 &&& (3 : Int32))), .val (.ref a0), .val (.int 0)] [(.ref a0)])) rfl (by rw [hml]; rfl) (Steps.refl _) (argsL := []) (rest := []) (lenOf pd_2829Z rfl) rfl (by show 2 * 0 + _ ≤ _; exact Nat.le_of_eq rfl) (hb hby at_52) (fun _ _ => ⟨rfl, e4, (by decide : 0 + 0 ≤ _), (by decide : 0 + 0 ≤ _)⟩)
    dsimp only [Pt.U, Pt.locs, Pt.cells, Pt.slots] at X5 l5 y5 z5 st5 hQ5
    subst l5 y5 z5
    obtain ⟨rfl, N5q, e5⟩ := hQ5
    have N5 := Fr.app N0 N5q
    obtain ⟨fs, hr, hrun, hended, hW, hsame⟩ := X5.leave (v := some (.int 1)) (fun h => by rw [Bd.returns] at h; cases h)
    refine ⟨_, _, pre0 _ ?_, hrun, hended, _, _, rfl, ?_, ⟨_, rfl⟩, hW, hsame.mono (by decide) (by decide)⟩
    · refine G3 _ ?_
      refine own_ifNo X0.here hx (hb hby at_5) ((if0 _ _).trans (teq hc5).2) ?_
      refine st4 _ ?_
      show Steps p.tables e below (T4.setTop (mkF m 11 #[.val (.int p1), .val (.int (p1 &&& (3 : Int32))), .unset, .unset] [(.ref a0)])) _
      refine own_astoreN X4.here hx (hb hby at_11) rfl (l' := #[.val (.int p1), .val (.int (p1 &&& (3 : Int32))), .val (.ref a0), .unset]) rfl ?_
      refine own_iconst X4.here hx (0 : Int32) (hb hby at_12) rfl ?_
      refine own_istoreN X4.here hx (hb hby at_13) (l' := #[.val (.int p1), .val (.int (p1 &&& (3 : Int32))), .val (.ref a0), .val (.int 0)]) rfl ?_
      refine own_goto X4.here hx 14 51 rfl (hb hby at_14) (by decide) (by decide) ?_
      refine own_aloadN X4.here hx (hb hby at_51) rfl rfl ?_
      refine st5.trans ?_
      show Steps p.tables e below (T5.setTop (mkF m 55 #[.val (.int p1), .val (.int (p1 &&& (3 : Int32))), .val (.ref a0), .val (.int 0)] [(.int (own_eph (0 : Int32)))])) _
      refine own_iloadN X5.here hx (hb hby at_55) rfl ?_
      refine own_icmpNo X5.here hx (hb hby at_56) (teq (by decide : (own_eph (0 : Int32)) = (0 : Int32))).2 ?_
      refine own_iconst X5.here hx (1 : Int32) (hb hby at_59) rfl ?_
      refine own_goto X5.here hx 60 64 rfl (hb hby at_60) (by decide) (by decide) ?_
      exact retN X5 hx (t := .boolean) Bd.returns (by simp) (hb hby at_64) hr
    · show Q0 Z p1 a0 a1 a2 a3 h0 n0 _ T5.heap _
      rw [e5]
      exact ⟨rfl, N5⟩
  · have G6 : ∀ t, Steps p.tables e below (s₁.setTop (mkF m 19 #[.val (.int p1), .val (.int (p1 &&& (3 : Int32))), .unset, .unset] [(.int 1), (.int (p1 &&& (3 : Int32)))])) t → Steps p.tables e below (s₁.setTop (mkF m 0 #[.val (.int p1), .unset, .unset, .unset] [])) t := by
      intro tG kG
      refine G3 _ ?_
      refine own_ifYes X0.here hx 5 17 rfl (hb hby at_5) ((if0 _ _).trans (feq hc5).2) (by decide) (by decide) ?_
      refine own_iloadN X0.here hx (hb hby at_17) rfl ?_
      refine own_iconst X0.here hx (1 : Int32) (hb hby at_18) rfl ?_
      exact kG
    by_cases hc19 : (p1 &&& (3 : Int32)) = (1 : Int32)
    · obtain ⟨T7, X7, e7, st7⟩ := getS2 X0 hx hZ hown (host := "") (Or.inl (hw _ (List.mem_of_getElem? (i := 14) rfl))) Via.refl e0 S3 (g := (mkF m 22 #[.val (.int p1), .val (.int (p1 &&& (3 : Int32))), .unset, .unset] [])) rfl (hb hby at_22)
      obtain ⟨cq8, kq8, q8a, q8b, q8c⟩ := isOf hZ e7 E3
      obtain ⟨_, _, ⟨T8, L8, k8, n8⟩, -, X8, ⟨Lc8, hQ8, l8, y8, z8⟩, st8⟩ := X7.virtualBack hx (y := (⟨"com/example/ukhetho/ukhetho/protocol/CreateMode", "ephemeral", "()Z"⟩ : MethodName)) (z := (⟨"com/example/ukhetho/ukhetho/protocol/CreateMode", "ephemeral", "()Z"⟩ : MethodName)) hown (mvT hZ (hw _ (List.mem_of_getElem? (i := 3) rfl))) (mvT hZ (hw _ (List.mem_of_getElem? (i := 4) rfl))) (notFace_of_selects (args := #[]) (mvT hZ (hw _ (List.mem_of_getElem? (i := 6) rfl)))) (mvT hZ (hw _ (List.mem_of_getElem? (i := 6) rfl))) (mvT hZ (hw _ (List.mem_of_getElem? (i := 5) rfl))) (by decide) (backOf (W := 0) (rm1 l Z aW hw [] a3 (1 : Int32) h0 n0 Z0 F3) hZ (hw _ (List.mem_of_getElem? (i := 7) rfl)) (hw _ (List.mem_of_getElem? (i := 1) rfl)) (by decide) (by decide)) q8a q8c (g := (mkF m 52 #[.val (.int p1), .val (.int (p1 &&& (3 : Int32))), .val (.ref a3), .val (.int 1)] [(.ref a3)])) rfl (by rw [hml]; rfl) (Steps.refl _) (argsL := []) (rest := []) (lenOf pd_2829Z rfl) rfl (by show 2 * 0 + _ ≤ _; exact Nat.le_of_eq rfl) (hb hby at_52) (fun _ _ => ⟨rfl, e7, (by decide : 0 + 0 ≤ _), (by decide : 0 + 0 ≤ _)⟩)
      dsimp only [Pt.U, Pt.locs, Pt.cells, Pt.slots] at X8 l8 y8 z8 st8 hQ8
      subst l8 y8 z8
      obtain ⟨rfl, N8q, e8⟩ := hQ8
      have N8 := Fr.app N0 N8q
      obtain ⟨fs, hr, hrun, hended, hW, hsame⟩ := X8.leave (v := some (.int 1)) (fun h => by rw [Bd.returns] at h; cases h)
      refine ⟨_, _, pre0 _ ?_, hrun, hended, _, _, rfl, ?_, ⟨_, rfl⟩, hW, hsame.mono (by decide) (by decide)⟩
      · refine G6 _ ?_
        refine own_icmpNo X0.here hx (hb hby at_19) (teq hc19).2 ?_
        refine st7 _ ?_
        show Steps p.tables e below (T7.setTop (mkF m 25 #[.val (.int p1), .val (.int (p1 &&& (3 : Int32))), .unset, .unset] [(.ref a3)])) _
        refine own_astoreN X7.here hx (hb hby at_25) rfl (l' := #[.val (.int p1), .val (.int (p1 &&& (3 : Int32))), .val (.ref a3), .unset]) rfl ?_
        refine own_iconst X7.here hx (1 : Int32) (hb hby at_26) rfl ?_
        refine own_istoreN X7.here hx (hb hby at_27) (l' := #[.val (.int p1), .val (.int (p1 &&& (3 : Int32))), .val (.ref a3), .val (.int 1)]) rfl ?_
        refine own_goto X7.here hx 28 51 rfl (hb hby at_28) (by decide) (by decide) ?_
        refine own_aloadN X7.here hx (hb hby at_51) rfl rfl ?_
        refine st8.trans ?_
        show Steps p.tables e below (T8.setTop (mkF m 55 #[.val (.int p1), .val (.int (p1 &&& (3 : Int32))), .val (.ref a3), .val (.int 1)] [(.int (own_eph (1 : Int32)))])) _
        refine own_iloadN X8.here hx (hb hby at_55) rfl ?_
        refine own_icmpNo X8.here hx (hb hby at_56) (teq (by decide : (own_eph (1 : Int32)) = (1 : Int32))).2 ?_
        refine own_iconst X8.here hx (1 : Int32) (hb hby at_59) rfl ?_
        refine own_goto X8.here hx 60 64 rfl (hb hby at_60) (by decide) (by decide) ?_
        exact retN X8 hx (t := .boolean) Bd.returns (by simp) (hb hby at_64) hr
      · show Q0 Z p1 a0 a1 a2 a3 h0 n0 _ T8.heap _
        rw [e8]
        exact ⟨rfl, N8⟩
    · have G9 : ∀ t, Steps p.tables e below (s₁.setTop (mkF m 33 #[.val (.int p1), .val (.int (p1 &&& (3 : Int32))), .unset, .unset] [(.int 2), (.int (p1 &&& (3 : Int32)))])) t → Steps p.tables e below (s₁.setTop (mkF m 0 #[.val (.int p1), .unset, .unset, .unset] [])) t := by
        intro tG kG
        refine G6 _ ?_
        refine own_icmpYes X0.here hx 19 31 rfl (hb hby at_19) (feq hc19).2 (by decide) (by decide) ?_
        refine own_iloadN X0.here hx (hb hby at_31) rfl ?_
        refine own_iconst X0.here hx (2 : Int32) (hb hby at_32) rfl ?_
        exact kG
      by_cases hc33 : (p1 &&& (3 : Int32)) = (2 : Int32)
      · obtain ⟨T10, X10, e10, st10⟩ := getS2 X0 hx hZ hown (host := "") (Or.inl (hw _ (List.mem_of_getElem? (i := 12) rfl))) Via.refl e0 S2 (g := (mkF m 36 #[.val (.int p1), .val (.int (p1 &&& (3 : Int32))), .unset, .unset] [])) rfl (hb hby at_36)
        obtain ⟨cq11, kq11, q11a, q11b, q11c⟩ := isOf hZ e10 E2
        obtain ⟨_, _, ⟨T11, L11, k11, n11⟩, -, X11, ⟨Lc11, hQ11, l11, y11, z11⟩, st11⟩ := X10.virtualBack hx (y := (⟨"com/example/ukhetho/ukhetho/protocol/CreateMode", "ephemeral", "()Z"⟩ : MethodName)) (z := (⟨"com/example/ukhetho/ukhetho/protocol/CreateMode", "ephemeral", "()Z"⟩ : MethodName)) hown (mvT hZ (hw _ (List.mem_of_getElem? (i := 3) rfl))) (mvT hZ (hw _ (List.mem_of_getElem? (i := 4) rfl))) (notFace_of_selects (args := #[]) (mvT hZ (hw _ (List.mem_of_getElem? (i := 6) rfl)))) (mvT hZ (hw _ (List.mem_of_getElem? (i := 6) rfl))) (mvT hZ (hw _ (List.mem_of_getElem? (i := 5) rfl))) (by decide) (backOf (W := 0) (rm1 l Z aW hw [] a2 (2 : Int32) h0 n0 Z0 F2) hZ (hw _ (List.mem_of_getElem? (i := 7) rfl)) (hw _ (List.mem_of_getElem? (i := 1) rfl)) (by decide) (by decide)) q11a q11c (g := (mkF m 52 #[.val (.int p1), .val (.int (p1 &&& (3 : Int32))), .val (.ref a2), .val (.int 0)] [(.ref a2)])) rfl (by rw [hml]; rfl) (Steps.refl _) (argsL := []) (rest := []) (lenOf pd_2829Z rfl) rfl (by show 2 * 0 + _ ≤ _; exact Nat.le_of_eq rfl) (hb hby at_52) (fun _ _ => ⟨rfl, e10, (by decide : 0 + 0 ≤ _), (by decide : 0 + 0 ≤ _)⟩)
        dsimp only [Pt.U, Pt.locs, Pt.cells, Pt.slots] at X11 l11 y11 z11 st11 hQ11
        subst l11 y11 z11
        obtain ⟨rfl, N11q, e11⟩ := hQ11
        have N11 := Fr.app N0 N11q
        obtain ⟨fs, hr, hrun, hended, hW, hsame⟩ := X11.leave (v := some (.int 1)) (fun h => by rw [Bd.returns] at h; cases h)
        refine ⟨_, _, pre0 _ ?_, hrun, hended, _, _, rfl, ?_, ⟨_, rfl⟩, hW, hsame.mono (by decide) (by decide)⟩
        · refine G9 _ ?_
          refine own_icmpNo X0.here hx (hb hby at_33) (teq hc33).2 ?_
          refine st10 _ ?_
          show Steps p.tables e below (T10.setTop (mkF m 39 #[.val (.int p1), .val (.int (p1 &&& (3 : Int32))), .unset, .unset] [(.ref a2)])) _
          refine own_astoreN X10.here hx (hb hby at_39) rfl (l' := #[.val (.int p1), .val (.int (p1 &&& (3 : Int32))), .val (.ref a2), .unset]) rfl ?_
          refine own_iconst X10.here hx (0 : Int32) (hb hby at_40) rfl ?_
          refine own_istoreN X10.here hx (hb hby at_41) (l' := #[.val (.int p1), .val (.int (p1 &&& (3 : Int32))), .val (.ref a2), .val (.int 0)]) rfl ?_
          refine own_goto X10.here hx 42 51 rfl (hb hby at_42) (by decide) (by decide) ?_
          refine own_aloadN X10.here hx (hb hby at_51) rfl rfl ?_
          refine st11.trans ?_
          show Steps p.tables e below (T11.setTop (mkF m 55 #[.val (.int p1), .val (.int (p1 &&& (3 : Int32))), .val (.ref a2), .val (.int 0)] [(.int (own_eph (2 : Int32)))])) _
          refine own_iloadN X11.here hx (hb hby at_55) rfl ?_
          refine own_icmpNo X11.here hx (hb hby at_56) (teq (by decide : (own_eph (2 : Int32)) = (0 : Int32))).2 ?_
          refine own_iconst X11.here hx (1 : Int32) (hb hby at_59) rfl ?_
          refine own_goto X11.here hx 60 64 rfl (hb hby at_60) (by decide) (by decide) ?_
          exact retN X11 hx (t := .boolean) Bd.returns (by simp) (hb hby at_64) hr
        · show Q0 Z p1 a0 a1 a2 a3 h0 n0 _ T11.heap _
          rw [e11]
          exact ⟨rfl, N11⟩
      · obtain ⟨T12, X12, e12, st12⟩ := getS2 X0 hx hZ hown (host := "") (Or.inl (hw _ (List.mem_of_getElem? (i := 10) rfl))) Via.refl e0 S1 (g := (mkF m 45 #[.val (.int p1), .val (.int (p1 &&& (3 : Int32))), .unset, .unset] [])) rfl (hb hby at_45)
        obtain ⟨cq13, kq13, q13a, q13b, q13c⟩ := isOf hZ e12 E1
        obtain ⟨_, _, ⟨T13, L13, k13, n13⟩, -, X13, ⟨Lc13, hQ13, l13, y13, z13⟩, st13⟩ := X12.virtualBack hx (y := (⟨"com/example/ukhetho/ukhetho/protocol/CreateMode", "ephemeral", "()Z"⟩ : MethodName)) (z := (⟨"com/example/ukhetho/ukhetho/protocol/CreateMode", "ephemeral", "()Z"⟩ : MethodName)) hown (mvT hZ (hw _ (List.mem_of_getElem? (i := 3) rfl))) (mvT hZ (hw _ (List.mem_of_getElem? (i := 4) rfl))) (notFace_of_selects (args := #[]) (mvT hZ (hw _ (List.mem_of_getElem? (i := 6) rfl)))) (mvT hZ (hw _ (List.mem_of_getElem? (i := 6) rfl))) (mvT hZ (hw _ (List.mem_of_getElem? (i := 5) rfl))) (by decide) (backOf (W := 0) (rm1 l Z aW hw [] a1 (3 : Int32) h0 n0 Z0 F1) hZ (hw _ (List.mem_of_getElem? (i := 7) rfl)) (hw _ (List.mem_of_getElem? (i := 1) rfl)) (by decide) (by decide)) q13a q13c (g := (mkF m 52 #[.val (.int p1), .val (.int (p1 &&& (3 : Int32))), .val (.ref a1), .val (.int 1)] [(.ref a1)])) rfl (by rw [hml]; rfl) (Steps.refl _) (argsL := []) (rest := []) (lenOf pd_2829Z rfl) rfl (by show 2 * 0 + _ ≤ _; exact Nat.le_of_eq rfl) (hb hby at_52) (fun _ _ => ⟨rfl, e12, (by decide : 0 + 0 ≤ _), (by decide : 0 + 0 ≤ _)⟩)
        dsimp only [Pt.U, Pt.locs, Pt.cells, Pt.slots] at X13 l13 y13 z13 st13 hQ13
        subst l13 y13 z13
        obtain ⟨rfl, N13q, e13⟩ := hQ13
        have N13 := Fr.app N0 N13q
        obtain ⟨fs, hr, hrun, hended, hW, hsame⟩ := X13.leave (v := some (.int 1)) (fun h => by rw [Bd.returns] at h; cases h)
        refine ⟨_, _, pre0 _ ?_, hrun, hended, _, _, rfl, ?_, ⟨_, rfl⟩, hW, hsame.mono (by decide) (by decide)⟩
        · refine G9 _ ?_
          refine own_icmpYes X0.here hx 33 45 rfl (hb hby at_33) (feq hc33).2 (by decide) (by decide) ?_
          refine st12 _ ?_
          show Steps p.tables e below (T12.setTop (mkF m 48 #[.val (.int p1), .val (.int (p1 &&& (3 : Int32))), .unset, .unset] [(.ref a1)])) _
          refine own_astoreN X12.here hx (hb hby at_48) rfl (l' := #[.val (.int p1), .val (.int (p1 &&& (3 : Int32))), .val (.ref a1), .unset]) rfl ?_
          refine own_iconst X12.here hx (1 : Int32) (hb hby at_49) rfl ?_
          refine own_istoreN X12.here hx (hb hby at_50) (l' := #[.val (.int p1), .val (.int (p1 &&& (3 : Int32))), .val (.ref a1), .val (.int 1)]) rfl ?_
          refine own_aloadN X12.here hx (hb hby at_51) rfl rfl ?_
          refine st13.trans ?_
          show Steps p.tables e below (T13.setTop (mkF m 55 #[.val (.int p1), .val (.int (p1 &&& (3 : Int32))), .val (.ref a1), .val (.int 1)] [(.int (own_eph (3 : Int32)))])) _
          refine own_iloadN X13.here hx (hb hby at_55) rfl ?_
          refine own_icmpNo X13.here hx (hb hby at_56) (teq (by decide : (own_eph (3 : Int32)) = (1 : Int32))).2 ?_
          refine own_iconst X13.here hx (1 : Int32) (hb hby at_59) rfl ?_
          refine own_goto X13.here hx 60 64 rfl (hb hby at_60) (by decide) (by decide) ?_
          exact retN X13 hx (t := .boolean) Bd.returns (by simp) (hb hby at_64) hr
        · show Q0 Z p1 a0 a1 a2 a3 h0 n0 _ T13.heap _
          rw [e13]
          exact ⟨rfl, N13⟩
set_option maxRecDepth 65536 in
set_option maxHeartbeats 40000000 in
theorem comes_1 {Post : Tables → Env → Array Value → State → Outcome → State → Prop} (hpost : ∀ tb e args s v u, (limb_1_1.after args s (.returned v) u = true ∧ limb_1_2.after args s (.returned v) u = true ∧ True) → FrameEnd s (.returned v) u (Jvm.fieldLocs frame_1_writes args s ++ Jvm.arrayLocs frame_1_arrays args s ++ Jvm.staticLocs frame_1_statics s) 0 0 → Post tb e args s (.returned v) u) :
    ArmFor flags0 classFile x code maxLocals ret World_1 tables_1 room_1 Calls_1 rest_1 Pre_1 Post := by
  intro l hfl _ _ p e ha hc hk s m args below hf hA hF happ hP
  obtain ⟨hcalls, hrest, hpre⟩ := hP
  obtain ⟨-, -, -, hnamed, -, -, -, hat⟩ := (Spec.applies_iff hf).mp happ
  obtain ⟨hg, hn⟩ := and_e (Cond.before_iff.mp (show (Jvm.Cond.and given_1 narrow_1).before args s = true from hpre))
  obtain ⟨gv1, gv2⟩ := and_e hg
  obtain ⟨w0, rfl⟩ : ∃ w0 : Value, args = #[w0] := by
    have hs : args.size = 1 := by simpa [Cond.value, given_1] using gv1
    obtain ⟨L⟩ := args
    match L, hs with
    | [w0], _ => exact ⟨w0, rfl⟩
  have hw := fun d (hd : d ∈ tables_1) => atoms_spec (ws := Jvm.Cond.code x code maxLocals ret :: tables_1) hat d (List.mem_cons_of_mem _ hd)
  have hfit : Fit s := fun {y c} hc i hi => by
    obtain ⟨ha, rfl⟩ := Array.getElem?_eq_some_iff.mp hc
    have q := List.all_eq_true.mp ((Array.all_eq_true_iff_forall_mem.mp hF) _ (Array.getElem_mem ha)) i (List.mem_range.mpr hi)
    simpa [Array.getElem?_eq_getElem hi] using q
  obtain ⟨i0, ei0⟩ := is_v gv2
  obtain rfl : w0 = (.int i0) := Option.some.inj ei0
  obtain ⟨n0, r0⟩ := and_e hn
  obtain ⟨n1, r1⟩ := and_e r0
  obtain ⟨n2, r2⟩ := and_e r1
  obtain ⟨n3, r3⟩ := and_e r2
  obtain ⟨n4, r4⟩ := and_e r3
  obtain ⟨n5, r5⟩ := and_e r4
  obtain ⟨n6, r6⟩ := and_e r5
  obtain ⟨a0, ev0⟩ := exa_v n0
  have E0 : Exa s s.heap a0 "com/example/ukhetho/ukhetho/protocol/CreateMode" := Exa.start ev0 n0
  have F0 : Fld s s.heap a0 "com/example/ukhetho/ukhetho/protocol/CreateMode" "flags" "I" (.int (0 : Int32)) := Fld.start ((fld_at ev0).symm.trans (own_eqI n1))
  have S0 : Sta s s.heap "com/example/ukhetho/ukhetho/protocol/CreateMode" "PERSISTENT" "Lcom/example/ukhetho/ukhetho/protocol/CreateMode;" (.ref a0) := Sta.start ev0 (Or.inr ⟨(hw _ (List.mem_of_getElem? (i := 1) rfl)), (hw _ (List.mem_of_getElem? (i := 2) rfl))⟩)
  obtain ⟨a1, ev1⟩ := exa_v n2
  have E1 : Exa s s.heap a1 "com/example/ukhetho/ukhetho/protocol/CreateMode" := Exa.start ev1 n2
  have F1 : Fld s s.heap a1 "com/example/ukhetho/ukhetho/protocol/CreateMode" "flags" "I" (.int (3 : Int32)) := Fld.start ((fld_at ev1).symm.trans (own_eqI n3))
  have S1 : Sta s s.heap "com/example/ukhetho/ukhetho/protocol/CreateMode" "EPHEMERAL_SEQUENTIAL" "Lcom/example/ukhetho/ukhetho/protocol/CreateMode;" (.ref a1) := Sta.start ev1 (Or.inr ⟨(hw _ (List.mem_of_getElem? (i := 1) rfl)), (hw _ (List.mem_of_getElem? (i := 11) rfl))⟩)
  obtain ⟨a2, ev2⟩ := exa_v n4
  have E2 : Exa s s.heap a2 "com/example/ukhetho/ukhetho/protocol/CreateMode" := Exa.start ev2 n4
  have F2 : Fld s s.heap a2 "com/example/ukhetho/ukhetho/protocol/CreateMode" "flags" "I" (.int (2 : Int32)) := Fld.start ((fld_at ev2).symm.trans (own_eqI n5))
  have S2 : Sta s s.heap "com/example/ukhetho/ukhetho/protocol/CreateMode" "PERSISTENT_SEQUENTIAL" "Lcom/example/ukhetho/ukhetho/protocol/CreateMode;" (.ref a2) := Sta.start ev2 (Or.inr ⟨(hw _ (List.mem_of_getElem? (i := 1) rfl)), (hw _ (List.mem_of_getElem? (i := 13) rfl))⟩)
  obtain ⟨a3, ev3⟩ := exa_v n6
  have E3 : Exa s s.heap a3 "com/example/ukhetho/ukhetho/protocol/CreateMode" := Exa.start ev3 n6
  have F3 : Fld s s.heap a3 "com/example/ukhetho/ukhetho/protocol/CreateMode" "flags" "I" (.int (1 : Int32)) := Fld.start ((fld_at ev3).symm.trans (own_eqI r6))
  have S3 : Sta s s.heap "com/example/ukhetho/ukhetho/protocol/CreateMode" "EPHEMERAL" "Lcom/example/ukhetho/ukhetho/protocol/CreateMode;" (.ref a3) := Sta.start ev3 (Or.inr ⟨(hw _ (List.mem_of_getElem? (i := 1) rfl)), (hw _ (List.mem_of_getElem? (i := 15) rfl))⟩)
  obtain ⟨n, o, h1, h2, h3, _, L, rfl, ⟨rfl, N⟩, hq⟩ := rm0 l s _ hw tables_1 i0 a0 a1 a2 a3 s.heap s.heap.size (Nat.le_refl _) S0 E0 F0 S1 E1 F1 S2 E2 F2 S3 E3 F3 p e ha hc hk s m _ below hf ((Spec.applies_iff_loose hf).mp happ).1 ⟨rfl, State.Warmed39.refl s, rfl⟩ trivial
  refine ⟨n, _, h1, h2, h3, hpost _ _ _ _ _ _ ⟨Cond.after_iff.mpr rfl, Cond.after_iff.mpr (eq_i res_at (Term.int_eval (1)) rfl), trivial⟩ ⟨hq.1, hq.2.1, (hq.2.2.sift fun y hy => Or.inr (N y hy)).mono (by decide) (by decide)⟩⟩
theorem main_1_1 : Claimed_1_1 := comes_1 fun _ _ _ _ _ _ h hF => ⟨h.1, hF⟩
theorem main_1_2 : Claimed_1_2 := comes_1 fun _ _ _ _ _ _ h hF => ⟨h.2.1, hF⟩
end Jvm.Pilot.@@N@@
namespace Jvm.Pilot.@@N@@
open Jvm Jvm.ClassFile Sem Op Lib Jvm.Free Jvm.Stand Jvm.Pilot.@@N@@.Jvm.D
/-! MADE BY PROGRAM (witnessworld.py) out of the Statement's table words and the real class files: 12 classes; the members and pool entries that the words name. The judged class is class 1, her method 1. -/
namespace start1
open Jvm.ClassFile
def u (s : String) : CpInfo := .utf8 (stringToUtf16 s)
/-- a pool by its gaps: so many unusable entries, then the entry; so many at the end -/
def gap : Nat → List CpInfo → List CpInfo
  | 0, r => r
  | n + 1, r => .unusable :: gap n r
def poolList (es : List (Nat × CpInfo)) (last : Nat) : List CpInfo := es.foldr (fun e r => gap e.1 (e.2 :: r)) (gap last [])
def pool (es : List (Nat × CpInfo)) (last : Nat) : Array CpInfo := ⟨poolList es last⟩
def fileOf (pool : Array CpInfo) (this : Nat) (attrs : Array Attribute := #[]) (ms : Array MethodInfo := #[]) (fl : Nat := 33) (sup : Nat := 0) (ifs : Array Nat := #[]) (fds : Array FieldInfo := #[]) : ClassFile where
  minorVersion := 0
  majorVersion := 65
  constantPool := pool
  accessFlags := fl
  thisClass := this
  superClass := sup
  interfaces := ifs
  fields := fds
  methods := ms
  attributes := attrs
def plain (name : String) (sup : Option ClassId) : Class where
  name := name
  kind := .ordinary
  loader := none
  accessFlags := 33
  super := sup
  interfaces := #[]
  cf := none
  fields := #[]
  methods := #[]
  instanceTypes := #[]
  staticTypes := #[]
  resolved := #[]
  callSites := []
  init := .initialized
  statics := none
  mirror := none

def pool0 : Array CpInfo := pool [(5, u "<init>"), (0, u "()V"), (1, .class_ 10), (1, u "java/lang/Object")] 113

def k0m0 : Method := { name := "<init>", desc := "()V", sig := { parameters := [], returnType := none }, accessFlags := 1, code := none }
/-- java/lang/Object -/
def k0 : Class := { plain "java/lang/Object" none with
  accessFlags := 33
  interfaces := #[]
  cf := some (fileOf pool0 8 #[] #[{ accessFlags := 1, nameIndex := 5, descriptorIndex := 6, attributes := #[] }] 33 0 #[] #[])
  fields := #[]
  methods := #[k0m0]
  instanceTypes := #[]
  staticTypes := #[]
  resolved := Array.replicate 124 none
  statics := none }

def pool1 : Array CpInfo := pool [(2, .class_ 4), (1, u "java/lang/Object"), (0, u "<init>"), (0, u "()V"), (0, .fieldref 8 9), (0, .class_ 10), (0, .nameAndType 11 12), (0, u "com/example/ukhetho/ukhetho/protocol/CreateMode"), (0, u "PERSISTENT"), (0, u "Lcom/example/ukhetho/ukhetho/protocol/CreateMode;"), (0, .fieldref 8 14), (0, .nameAndType 15 12), (0, u "EPHEMERAL"), (0, .fieldref 8 17), (0, .nameAndType 18 12), (0, u "PERSISTENT_SEQUENTIAL"), (0, .fieldref 8 20), (0, .nameAndType 21 12), (0, u "EPHEMERAL_SEQUENTIAL"), (0, .methodref 8 23), (0, .nameAndType 24 25), (0, u "ephemeral"), (0, u "()Z"), (0, .class_ 27), (0, u "com/example/ukhetho/ukhetho/protocol/CreateModeEphemeralPinLaw"), (2, u "law"), (0, u "(I)Z")] 3

def k1m0 : Method := { name := "<init>", desc := "()V", sig := { parameters := [], returnType := none }, accessFlags := 1, code := none }
def k1c1 : Code := { maxStack := 2, maxLocals := 4, code := code, exceptionTable := #[], attributes := #[] }
def k1m1 : Method := { name := "law", desc := "(I)Z", sig := { parameters := [.int], returnType := some .boolean }, accessFlags := 9, code := some k1c1 }
/-- com/example/ukhetho/ukhetho/protocol/CreateModeEphemeralPinLaw -/
def k1 : Class := { plain "com/example/ukhetho/ukhetho/protocol/CreateModeEphemeralPinLaw" (some 0) with
  accessFlags := 49
  interfaces := #[]
  cf := some (fileOf pool1 26 #[] #[{ accessFlags := 1, nameIndex := 5, descriptorIndex := 6, attributes := #[] }, { accessFlags := 9, nameIndex := 30, descriptorIndex := 31, attributes := #[] }] 49 2 #[] #[])
  fields := #[]
  methods := #[k1m0, k1m1]
  instanceTypes := #[]
  staticTypes := #[]
  resolved := Array.replicate 35 none
  statics := none }

def pool2 : Array CpInfo := pool [(1, .class_ 2), (0, u "java/lang/constant/Constable"), (0, .class_ 4), (0, u "java/lang/Object")] 6

/-- java/lang/constant/Constable -/
def k2 : Class := { plain "java/lang/constant/Constable" (some 0) with
  accessFlags := 1537
  interfaces := #[]
  cf := some (fileOf pool2 1 #[] #[] 1537 3 #[] #[])
  fields := #[]
  methods := #[]
  instanceTypes := #[]
  staticTypes := #[]
  resolved := Array.replicate 11 none
  statics := none }

def pool3 : Array CpInfo := pool [(1, .class_ 2), (0, u "java/lang/Comparable"), (0, .class_ 4), (0, u "java/lang/Object")] 7

/-- java/lang/Comparable -/
def k3 : Class := { plain "java/lang/Comparable" (some 0) with
  accessFlags := 1537
  interfaces := #[]
  cf := some (fileOf pool3 1 #[] #[] 1537 3 #[] #[])
  fields := #[]
  methods := #[]
  instanceTypes := #[]
  staticTypes := #[]
  resolved := Array.replicate 12 none
  statics := none }

def pool4 : Array CpInfo := pool [(1, .class_ 2), (0, u "java/io/Serializable"), (0, .class_ 4), (0, u "java/lang/Object")] 2

/-- java/io/Serializable -/
def k4 : Class := { plain "java/io/Serializable" (some 0) with
  accessFlags := 1537
  interfaces := #[]
  cf := some (fileOf pool4 1 #[] #[] 1537 3 #[] #[])
  fields := #[]
  methods := #[]
  instanceTypes := #[]
  staticTypes := #[]
  resolved := Array.replicate 7 none
  statics := none }

def pool5 : Array CpInfo := pool [(2, .class_ 4), (1, u "java/lang/Enum"), (0, u "name"), (0, u "Ljava/lang/String;"), (2, u "ordinal"), (0, u "I"), (1, .class_ 14), (1, u "java/lang/Object"), (4, u "hash"), (86, .class_ 108), (1, u "java/lang/Enum$EnumDesc"), (2, .class_ 112), (0, u "java/lang/constant/Constable"), (0, .class_ 114), (0, u "java/lang/Comparable"), (0, .class_ 116), (0, u "java/io/Serializable")] 87

/-- java/lang/Enum -/
def k5 : Class := { plain "java/lang/Enum" (some 0) with
  accessFlags := 1057
  interfaces := #[2, 3, 4]
  cf := some (fileOf pool5 2 #[.nestMembers #[106]] #[] 1057 12 #[111, 113, 115] #[{ accessFlags := 18, nameIndex := 5, descriptorIndex := 6, attributes := #[] }, { accessFlags := 18, nameIndex := 9, descriptorIndex := 10, attributes := #[] }, { accessFlags := 2, nameIndex := 19, descriptorIndex := 10, attributes := #[] }])
  fields := #[{ name := "name", type := (.object "java/lang/String"), accessFlags := 18, slot := 0, constantValue := 0 }, { name := "ordinal", type := .int, accessFlags := 18, slot := 1, constantValue := 0 }, { name := "hash", type := .int, accessFlags := 2, slot := 2, constantValue := 0 }]
  methods := #[]
  instanceTypes := #[(.object "java/lang/String"), .int, .int]
  staticTypes := #[]
  resolved := Array.replicate 204 none
  statics := none }

def pool6 : Array CpInfo := pool [(1, .class_ 2), (0, u "com/example/ukhetho/ukhetho/protocol/CreateMode"), (2, u "PERSISTENT"), (0, u "Lcom/example/ukhetho/ukhetho/protocol/CreateMode;"), (2, u "EPHEMERAL"), (2, u "PERSISTENT_SEQUENTIAL"), (2, u "EPHEMERAL_SEQUENTIAL"), (2, u "$VALUES"), (0, u "[Lcom/example/ukhetho/ukhetho/protocol/CreateMode;"), (6, .class_ 28), (1, u "java/lang/Enum"), (6, .fieldref 1 36), (0, .nameAndType 37 38), (0, u "flags"), (0, u "I"), (14, u "EPHEMERAL_BIT"), (2, u "SEQUENTIAL_BIT"), (11, u "ephemeral"), (0, u "()Z")] 6

def k6c0 : Code := { maxStack := 2, maxLocals := 1, code := prog_55_method_6_code, exceptionTable := #[], attributes := #[] }
def k6m0 : Method := { name := "ephemeral", desc := "()Z", sig := { parameters := [], returnType := some .boolean }, accessFlags := 1, code := some k6c0 }
/-- com/example/ukhetho/ukhetho/protocol/CreateMode -/
def k6 : Class := { plain "com/example/ukhetho/ukhetho/protocol/CreateMode" (some 5) with
  accessFlags := 16433
  interfaces := #[]
  cf := some (fileOf pool6 1 #[] #[{ accessFlags := 1, nameIndex := 68, descriptorIndex := 69, attributes := #[] }] 16433 26 #[] #[{ accessFlags := 16409, nameIndex := 5, descriptorIndex := 6, attributes := #[] }, { accessFlags := 16409, nameIndex := 9, descriptorIndex := 6, attributes := #[] }, { accessFlags := 16409, nameIndex := 12, descriptorIndex := 6, attributes := #[] }, { accessFlags := 16409, nameIndex := 15, descriptorIndex := 6, attributes := #[] }, { accessFlags := 26, nameIndex := 53, descriptorIndex := 38, attributes := #[] }, { accessFlags := 26, nameIndex := 56, descriptorIndex := 38, attributes := #[] }, { accessFlags := 18, nameIndex := 37, descriptorIndex := 38, attributes := #[] }, { accessFlags := 4122, nameIndex := 18, descriptorIndex := 19, attributes := #[] }])
  fields := #[{ name := "PERSISTENT", type := (.object "com/example/ukhetho/ukhetho/protocol/CreateMode"), accessFlags := 16409, slot := 0, constantValue := 0 }, { name := "EPHEMERAL", type := (.object "com/example/ukhetho/ukhetho/protocol/CreateMode"), accessFlags := 16409, slot := 1, constantValue := 0 }, { name := "PERSISTENT_SEQUENTIAL", type := (.object "com/example/ukhetho/ukhetho/protocol/CreateMode"), accessFlags := 16409, slot := 2, constantValue := 0 }, { name := "EPHEMERAL_SEQUENTIAL", type := (.object "com/example/ukhetho/ukhetho/protocol/CreateMode"), accessFlags := 16409, slot := 3, constantValue := 0 }, { name := "EPHEMERAL_BIT", type := .int, accessFlags := 26, slot := 4, constantValue := 0 }, { name := "SEQUENTIAL_BIT", type := .int, accessFlags := 26, slot := 5, constantValue := 0 }, { name := "flags", type := .int, accessFlags := 18, slot := 3, constantValue := 0 }, { name := "$VALUES", type := (.array (.object "com/example/ukhetho/ukhetho/protocol/CreateMode")), accessFlags := 4122, slot := 6, constantValue := 0 }]
  methods := #[k6m0]
  instanceTypes := #[(.object "java/lang/String"), .int, .int, .int]
  staticTypes := #[(.object "com/example/ukhetho/ukhetho/protocol/CreateMode"), (.object "com/example/ukhetho/ukhetho/protocol/CreateMode"), (.object "com/example/ukhetho/ukhetho/protocol/CreateMode"), (.object "com/example/ukhetho/ukhetho/protocol/CreateMode"), .int, .int, (.array (.object "com/example/ukhetho/ukhetho/protocol/CreateMode"))]
  resolved := Array.replicate 76 none
  statics := some 0 }

def pool7 : Array CpInfo := pool [(1, u "java/lang/Cloneable"), (0, .class_ 1), (0, u "java/lang/Object"), (0, .class_ 3)] 3

/-- java/lang/Cloneable -/
def k7 : Class := { plain "java/lang/Cloneable" (some 0) with
  accessFlags := 1537
  interfaces := #[]
  cf := some (fileOf pool7 2 #[] #[] 1537 4 #[] #[])
  fields := #[]
  methods := #[]
  instanceTypes := #[]
  staticTypes := #[]
  resolved := Array.replicate 8 none
  statics := none }

/-- the primitive byte -/
def k8 : Class := { plain "byte" none with kind := .primitive 'B', accessFlags := 0x411 }
/-- [B -/
def k9 : Class := { plain "[B" (some 0) with kind := .array 8 .byte, interfaces := #[7, 4], accessFlags := 1041 }

/-- the primitive int -/
def k10 : Class := { plain "int" none with kind := .primitive 'I', accessFlags := 0x411 }
/-- [I -/
def k11 : Class := { plain "[I" (some 0) with kind := .array 10 .int, interfaces := #[7, 4], accessFlags := 1041 }

def heap : Heap := #[{ cls := 6, slots := #[.ref 1, .ref 2, .ref 3, .ref 4, .int 0, .int 0, .null], vm := .statics 6 },
  { cls := 6, slots := #[.null, .int 0, .int 0, .int 0], vm := .none },
  { cls := 6, slots := #[.null, .int 1, .int 0, .int 1], vm := .none },
  { cls := 6, slots := #[.null, .int 2, .int 0, .int 2], vm := .none },
  { cls := 6, slots := #[.null, .int 3, .int 0, .int 3], vm := .none }]
def classes : Array Class := #[k0, k1, k2, k3, k4, k5, k6, k7, k8, k9, k10, k11]
def interned : List (Array UInt16 × Addr) := []
def slotsUsed : Nat := 23
def theMethod : MethodId := ⟨1, 1⟩
def args0 : Array Value := #[.int 6]
def aboutOver (below : List Frame) : State where
  vm := { classes := classes, interned := interned.toArray }
  heap := heap
  slotsUsed := slotsUsed
  threads := #[{ frames := .invoking theMethod args0 :: below }]
def below0 : List Frame := [.native { method := ⟨0, 0⟩, args := #[] }]
def about1 : State := aboutOver below0
def p0 : Program := .bare "" "" ""
def e0 : Env := launch0.env 0 0 0
theorem w_frames : about1.frames = Frame.invoking theMethod args0 :: below0 := rfl
set_option maxRecDepth 65536 in
theorem w_args : argsFit about1.vm theMethod args0 = true := by decide +kernel
set_option maxRecDepth 65536 in
theorem w_heap : heapFits about1 = true := by decide +kernel
set_option maxRecDepth 65536 in
theorem w_runnable : about1.curStatus? = some .runnable := by decide +kernel
set_option maxRecDepth 65536 in
theorem w_alone : about1.alone = true := by decide +kernel
set_option maxRecDepth 65536 in
theorem w_named : about1.methodNamed? x = some theMethod := by decide +kernel
set_option maxRecDepth 65536 in
theorem w_hears : about1.hears theMethod below0 = true := by decide +kernel
set_option maxRecDepth 65536 in
theorem w_ripe : about1.ripe theMethod args0 below0 = true := by decide +kernel
theorem w_running : about1.status = .running := rfl
set_option maxRecDepth 65536 in
theorem w_room : about1.hasRoom e0.platform room_1 = true :=
  launch0.hasRoom_least _ room_1 (by decide +kernel) (by decide +kernel) (by decide +kernel) (by decide +kernel) (by decide +kernel) (by decide +kernel)
theorem allAtoms_all (ts : List Jvm.Cond) (a : Array Jvm.Value) (st : Jvm.State) : (allAtoms ts).before a st = ts.all (fun c => c.before a st) := by
  induction ts with
  | nil => rfl
  | cons c t ih =>
    show (Jvm.Cond.and c (allAtoms t)).before a st = _
    rw [Jvm.Cond.before_and, ih, List.all_cons]
def words1 : List Jvm.Cond := Jvm.Cond.code x code maxLocals ret :: tables_1
/-- a 'code' word, met by the world's own term for the bytes: nothing is compared byte by byte -/
theorem code_word {y : MethodName} {bytes : ByteArray} {mx : Nat} {rt : Option FieldType} {a : Array Value} {s : State} {m : MethodId} {meth : Method} {c : Code} (h1 : s.methodNamed? y = some m) (h2 : s.vm.method? m = some meth) (h3 : meth.code = some c) (h4 : c.code = bytes)
    (h5 : (c.maxLocals == mx && c.exceptionTable.isEmpty && decide (c.maxStack ≤ mostOperands) && decide (meth.sig.returnType = rt) && !meth.locks && decide (parseMethodDescriptor y.desc = some meth.sig)) = true) : (Jvm.Cond.code y bytes mx rt).before a s = true := by
  simp only [Bool.and_eq_true, beq_iff_eq, Bool.not_eq_true', decide_eq_true_eq] at h5
  obtain ⟨⟨⟨⟨⟨g1, g2⟩, g3⟩, g4⟩, g5⟩, g6⟩ := h5
  simp [Cond.before, Cond.holds, Cond.value, h1, h2, h3, h4, g1, g2, g3, g4, g5, g6]
def isCode : Jvm.Cond → Bool
  | .code _ _ _ _ => true
  | _ => false
theorem all_split {L : List Jvm.Cond} {P : Jvm.Cond → Bool} (h1 : L.all (fun c => isCode c || P c) = true) (h2 : ∀ c ∈ L.filter isCode, P c = true) : L.all P = true := by
  refine List.all_eq_true.mpr fun c hc => ?_
  have h := List.all_eq_true.mp h1 c hc
  rcases Bool.eq_false_or_eq_true (isCode c) with hi | hi
  · exact h2 c (List.mem_filter.mpr ⟨hc, hi⟩)
  · simpa [hi] using h
set_option maxRecDepth 65536 in
theorem w_c0 : (Jvm.Cond.code x code maxLocals ret).before args0 about1 = true := code_word (m := ⟨1, 1⟩) (meth := k1m1) (c := k1c1) (by decide +kernel) rfl rfl rfl (by decide +kernel)
set_option maxRecDepth 65536 in
theorem w_c1 : (Jvm.Cond.code ({ cls := "com/example/ukhetho/ukhetho/protocol/CreateMode", name := "ephemeral", desc := "()Z" } : Jvm.MethodName) prog_55_method_6_code (1 : Nat) (Option.some Jvm.ClassFile.FieldType.boolean)).before args0 about1 = true := code_word (m := ⟨6, 0⟩) (meth := k6m0) (c := k6c0) (by decide +kernel) rfl rfl rfl (by decide +kernel)
def codes1 : List Jvm.Cond := [Jvm.Cond.code x code maxLocals ret, Jvm.Cond.code ({ cls := "com/example/ukhetho/ukhetho/protocol/CreateMode", name := "ephemeral", desc := "()Z" } : Jvm.MethodName) prog_55_method_6_code (1 : Nat) (Option.some Jvm.ClassFile.FieldType.boolean)]
set_option maxRecDepth 65536 in
theorem codes_eq : words1.filter isCode = codes1 := rfl
theorem w_codes : ∀ c ∈ words1.filter isCode, c.before args0 about1 = true := by
  rw [codes_eq]
  intro c hc
  simp only [codes1, List.mem_cons, List.not_mem_nil, or_false] at hc
  rcases hc with rfl | rfl
  · exact w_c0
  · exact w_c1
set_option maxRecDepth 65536 in
theorem w_t1 : words1.all (fun c => isCode c || c.before args0 about1) = true := by decide +kernel
theorem w_tables : (allAtoms (Jvm.Cond.code x code maxLocals ret :: tables_1)).before args0 about1 = true := by
  rw [allAtoms_all]
  show words1.all (fun c => c.before args0 about1) = true
  refine all_split ?_ w_codes
  rw [w_t1]
set_option maxRecDepth 65536 in
theorem w_case : (Jvm.Cond.and given_1 narrow_1).before args0 about1 = true := by decide +kernel
theorem w_applies : (headSpec (Jvm.Cond.code x code maxLocals ret :: tables_1) room_1).applies x e0.platform about1 = true :=
  (Spec.applies_iff w_frames).mpr ⟨w_running, w_runnable, w_alone, w_named, w_hears, w_ripe, w_room, w_tables⟩
theorem atStart : AtStart classFile x code maxLocals ret World_1 tables_1 room_1 Calls_1 rest_1 Pre_1 launch0 p0 e0 about1 theMethod args0 below0 :=
  ⟨lists_1, trivial, launch0.admits_env _ _ _, launch0.least_env, fairChoices_fair.cas, fairChoices_fair.clock, w_frames, w_args, w_heap, w_applies, trivial, trivial, w_case⟩
end start1
theorem witness_1 : WitnessClaimed_1 := ⟨start1.p0, start1.e0, start1.about1, start1.theMethod, start1.args0, start1.below0, start1.atStart⟩
end Jvm.Pilot.@@N@@
