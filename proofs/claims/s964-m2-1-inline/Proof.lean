import JvmDerived
import JvmDerived.Pilot.@@N@@Statement
import JvmDerived.Pilot.@@N@@Code
set_option linter.unusedVariables false
set_option linter.unusedSimpArgs false
namespace Jvm.RoadKit
open Sem ClassFile Op Lib Jvm.Stand Jvm.Free Jvm.LawKit
section New
variable {p : Program} {l : Launch} {e : Env} {R : Room} {s : State} {m : MethodId} {args : Array Value} {below : List Frame} {meth : Method} {c : Code} {T : State} {locs : List Loc} {cells slots : Nat}
theorem retI (X : Stand p l e R s m args below meth c T locs cells slots) (hx : p.tables.exec = Jvm.exec) {pc : Nat} {Ls : Array Slot} {z : Int32} {rest : List Value} (hret : meth.sig.returnType = some .int) (hd : decode c.code pc = .ok (.ireturn, 1)) {fs : List Frame}
    (hl : ∀ (f : JFrame) (acts : List Action), f.method = m → f.locked = none → f.entered = [] → (doReturn e (T.setTop f) acts (some (.int z))).1 = T.setFrames fs) : Steps p.tables e below (T.setTop (mkF m pc Ls (.int z :: rest))) (T.setFrames fs) := by
  have hm' : T.vm.method? m = some meth := X.method'
  have hn : narrow .int (.int z) = .int z := rfl
  show Steps p.tables e below (T.setTop { method := m, pc := pc, locals := Ls, stack := _ :: rest, locked := none }) _
  jvm_step X.here [X.here.top, hx, hd, hm', hret, hn]
  first | (intro acts; rw [hl _ acts rfl rfl rfl]) | rw [hl _ _ rfl rfl rfl]
  exact Steps.refl _
end New
end Jvm.RoadKit
namespace Jvm.Pilot.@@N@@
open Jvm Jvm.ClassFile Sem Op Lib Jvm.Free Jvm.Stand Jvm.LawKit Jvm.RoadKit Bundle Jvm.Pilot.@@N@@.Jvm.D
def own_rem (x y : Int32) : Int32 := x - (x / y) * y
section OwnSteps
variable {tb : Tables} [Ours tb] {e : Env} {below : List Frame} {T target : State} {m : MethodId} {c : Code} {pc : Nat} {ls : Array Slot} {st : List Value}
theorem own_iloadN (h : At T m c below) (hx : tb.exec = Jvm.exec) {k : Fin 4} {v : Int32} (hd : decode c.code pc = .ok (.iload_n k, 1)) (hl : ls[k.val]? = some (.val (.int v))) (hr : Steps tb e below (T.setTop (mkF m (pc + 1) ls (.int v :: st))) target) : Steps tb e below (T.setTop (mkF m pc ls (st))) target := XS.iloadN h hx rfl hd hl hr
theorem own_iload (h : At T m c below) (hx : tb.exec = Jvm.exec) {k : Nat} {v : Int32} (hd : decode c.code pc = .ok (.iload k, 2)) (hl : ls[k]? = some (.val (.int v))) (hr : Steps tb e below (T.setTop (mkF m (pc + 2) ls (.int v :: st))) target) : Steps tb e below (T.setTop (mkF m pc ls (st))) target := XS.iload h hx rfl hd hl hr
theorem own_istoreN (h : At T m c below) (hx : tb.exec = Jvm.exec) {k : Fin 4} {v : Int32} {l' : Array Slot} (hd : decode c.code pc = .ok (.istore_n k, 1)) (hl : storeLocals ls k.val (.int v) = some l') (hr : Steps tb e below (T.setTop (mkF m (pc + 1) l' (st))) target) : Steps tb e below (T.setTop (mkF m pc ls (.int v :: st))) target := XS.istoreN h hx rfl hd rfl hl hr
theorem own_istore (h : At T m c below) (hx : tb.exec = Jvm.exec) {k : Nat} {v : Int32} {l' : Array Slot} (hd : decode c.code pc = .ok (.istore k, 2)) (hl : storeLocals ls k (.int v) = some l') (hr : Steps tb e below (T.setTop (mkF m (pc + 2) l' (st))) target) : Steps tb e below (T.setTop (mkF m pc ls (.int v :: st))) target := XS.istore h hx rfl hd rfl hl hr
theorem own_lloadN (h : At T m c below) (hx : tb.exec = Jvm.exec) {k : Fin 4} {v : Int64} (hd : decode c.code pc = .ok (.lload_n k, 1)) (hl : ls[k.val]? = some (.val (.long v))) (hr : Steps tb e below (T.setTop (mkF m (pc + 1) ls (.long v :: st))) target) : Steps tb e below (T.setTop (mkF m pc ls (st))) target := XS.lloadN h hx rfl hd hl hr
theorem own_lload (h : At T m c below) (hx : tb.exec = Jvm.exec) {k : Nat} {v : Int64} (hd : decode c.code pc = .ok (.lload k, 2)) (hl : ls[k]? = some (.val (.long v))) (hr : Steps tb e below (T.setTop (mkF m (pc + 2) ls (.long v :: st))) target) : Steps tb e below (T.setTop (mkF m pc ls (st))) target := XS.lload h hx rfl hd hl hr
theorem own_lstoreN (h : At T m c below) (hx : tb.exec = Jvm.exec) {k : Fin 4} {v : Int64} {l' : Array Slot} (hd : decode c.code pc = .ok (.lstore_n k, 1)) (hl : storeLocals ls k.val (.long v) = some l') (hr : Steps tb e below (T.setTop (mkF m (pc + 1) l' (st))) target) : Steps tb e below (T.setTop (mkF m pc ls (.long v :: st))) target := XS.lstoreN h hx rfl hd rfl hl hr
theorem own_lstore (h : At T m c below) (hx : tb.exec = Jvm.exec) {k : Nat} {v : Int64} {l' : Array Slot} (hd : decode c.code pc = .ok (.lstore k, 2)) (hl : storeLocals ls k (.long v) = some l') (hr : Steps tb e below (T.setTop (mkF m (pc + 2) l' (st))) target) : Steps tb e below (T.setTop (mkF m pc ls (.long v :: st))) target := XS.lstore h hx rfl hd rfl hl hr
theorem own_dloadN (h : At T m c below) (hx : tb.exec = Jvm.exec) {k : Fin 4} {v : UInt64} (hd : decode c.code pc = .ok (.dload_n k, 1)) (hl : ls[k.val]? = some (.val (.double v))) (hr : Steps tb e below (T.setTop (mkF m (pc + 1) ls (.double v :: st))) target) : Steps tb e below (T.setTop (mkF m pc ls (st))) target := XS.dloadN h hx rfl hd hl hr
theorem own_dload (h : At T m c below) (hx : tb.exec = Jvm.exec) {k : Nat} {v : UInt64} (hd : decode c.code pc = .ok (.dload k, 2)) (hl : ls[k]? = some (.val (.double v))) (hr : Steps tb e below (T.setTop (mkF m (pc + 2) ls (.double v :: st))) target) : Steps tb e below (T.setTop (mkF m pc ls (st))) target := XS.dload h hx rfl hd hl hr
theorem own_dstoreN (h : At T m c below) (hx : tb.exec = Jvm.exec) {k : Fin 4} {v : UInt64} {l' : Array Slot} (hd : decode c.code pc = .ok (.dstore_n k, 1)) (hl : storeLocals ls k.val (.double v) = some l') (hr : Steps tb e below (T.setTop (mkF m (pc + 1) l' (st))) target) : Steps tb e below (T.setTop (mkF m pc ls (.double v :: st))) target := XS.dstoreN h hx rfl hd rfl hl hr
theorem own_dstore (h : At T m c below) (hx : tb.exec = Jvm.exec) {k : Nat} {v : UInt64} {l' : Array Slot} (hd : decode c.code pc = .ok (.dstore k, 2)) (hl : storeLocals ls k (.double v) = some l') (hr : Steps tb e below (T.setTop (mkF m (pc + 2) l' (st))) target) : Steps tb e below (T.setTop (mkF m pc ls (.double v :: st))) target := XS.dstore h hx rfl hd rfl hl hr
theorem own_aloadN (h : At T m c below) (hx : tb.exec = Jvm.exec) {k : Fin 4} {v : Value} (hd : decode c.code pc = .ok (.aload_n k, 1)) (hl : ls[k.val]? = some (.val v)) (hv : v.isRef = true) (hr : Steps tb e below (T.setTop (mkF m (pc + 1) ls (v :: st))) target) : Steps tb e below (T.setTop (mkF m pc ls (st))) target := XS.aloadN h hx rfl hd hl hv hr
theorem own_aload (h : At T m c below) (hx : tb.exec = Jvm.exec) {k : Nat} {v : Value} (hd : decode c.code pc = .ok (.aload k, 2)) (hl : ls[k]? = some (.val v)) (hv : v.isRef = true) (hr : Steps tb e below (T.setTop (mkF m (pc + 2) ls (v :: st))) target) : Steps tb e below (T.setTop (mkF m pc ls (st))) target := XS.aload h hx rfl hd hl hv hr
theorem own_astoreN (h : At T m c below) (hx : tb.exec = Jvm.exec) {k : Fin 4} {v : Value} {l' : Array Slot} (hd : decode c.code pc = .ok (.astore_n k, 1)) (hv : v.isRef = true) (hl : storeLocals ls k.val v = some l') (hr : Steps tb e below (T.setTop (mkF m (pc + 1) l' (st))) target) : Steps tb e below (T.setTop (mkF m pc ls (v :: st))) target := XS.astoreN h hx rfl hd rfl hv hl hr
theorem own_astore (h : At T m c below) (hx : tb.exec = Jvm.exec) {k : Nat} {v : Value} {l' : Array Slot} (hd : decode c.code pc = .ok (.astore k, 2)) (hv : v.isRef = true) (hl : storeLocals ls k v = some l') (hr : Steps tb e below (T.setTop (mkF m (pc + 2) l' (st))) target) : Steps tb e below (T.setTop (mkF m pc ls (v :: st))) target := XS.astore h hx rfl hd rfl hv hl hr
theorem own_iconst (h : At T m c below) (hx : tb.exec = Jvm.exec) {i : Int} (z : Int32) (hd : decode c.code pc = .ok (.iconst i, 1)) (hz : Int32.ofInt i = z) (hr : Steps tb e below (T.setTop (mkF m (pc + 1) ls (.int z :: st))) target) : Steps tb e below (T.setTop (mkF m pc ls st)) target := by
  subst hz; exact XS.iconst h hx rfl hd hr
theorem own_bipush (h : At T m c below) (hx : tb.exec = Jvm.exec) {i : Int} (z : Int32) (hd : decode c.code pc = .ok (.bipush i, 2)) (hz : (Int8.ofInt i).toInt32 = z) (hr : Steps tb e below (T.setTop (mkF m (pc + 2) ls (.int z :: st))) target) : Steps tb e below (T.setTop (mkF m pc ls st)) target := by
  subst hz; exact XS.bipush h hx rfl hd hr
theorem own_sipush (h : At T m c below) (hx : tb.exec = Jvm.exec) {i : Int} (z : Int32) (hd : decode c.code pc = .ok (.sipush i, 3)) (hz : (Int16.ofInt i).toInt32 = z) (hr : Steps tb e below (T.setTop (mkF m (pc + 3) ls (.int z :: st))) target) : Steps tb e below (T.setTop (mkF m pc ls st)) target := by
  subst hz; exact XS.sipush h hx rfl hd hr
theorem own_lconst0 (h : At T m c below) (hx : tb.exec = Jvm.exec) (hd : decode c.code pc = .ok (.lconst 0, 1)) (hr : Steps tb e below (T.setTop (mkF m (pc + 1) ls (.long (0 : Int64) :: st))) target) : Steps tb e below (T.setTop (mkF m pc ls st)) target := XS.lconst h hx rfl hd hr
theorem own_lconst1 (h : At T m c below) (hx : tb.exec = Jvm.exec) (hd : decode c.code pc = .ok (.lconst 1, 1)) (hr : Steps tb e below (T.setTop (mkF m (pc + 1) ls (.long (1 : Int64) :: st))) target) : Steps tb e below (T.setTop (mkF m pc ls st)) target := XS.lconst h hx rfl hd hr
theorem own_aconstNull (h : At T m c below) (hx : tb.exec = Jvm.exec)  (hd : decode c.code pc = .ok (.aconst_null, 1)) (hr : Steps tb e below (T.setTop (mkF m (pc + 1) ls (.null :: st))) target) : Steps tb e below (T.setTop (mkF m pc ls (st))) target := XS.aconstNull h hx rfl hd hr
theorem own_iadd (h : At T m c below) (hx : tb.exec = Jvm.exec) {x y : Int32} (hd : decode c.code pc = .ok (.iadd, 1)) (hr : Steps tb e below (T.setTop (mkF m (pc + 1) ls (.int (x + y) :: st))) target) : Steps tb e below (T.setTop (mkF m pc ls (.int y :: .int x :: st))) target := XS.iadd h hx rfl hd rfl hr
theorem own_isub (h : At T m c below) (hx : tb.exec = Jvm.exec) {x y : Int32} (hd : decode c.code pc = .ok (.isub, 1)) (hr : Steps tb e below (T.setTop (mkF m (pc + 1) ls (.int (x - y) :: st))) target) : Steps tb e below (T.setTop (mkF m pc ls (.int y :: .int x :: st))) target := XS.isub h hx rfl hd rfl hr
theorem own_imul (h : At T m c below) (hx : tb.exec = Jvm.exec) {x y : Int32} (hd : decode c.code pc = .ok (.imul, 1)) (hr : Steps tb e below (T.setTop (mkF m (pc + 1) ls (.int (x * y) :: st))) target) : Steps tb e below (T.setTop (mkF m pc ls (.int y :: .int x :: st))) target := XS.imul h hx rfl hd rfl hr
theorem own_iand (h : At T m c below) (hx : tb.exec = Jvm.exec) {x y : Int32} (hd : decode c.code pc = .ok (.iand, 1)) (hr : Steps tb e below (T.setTop (mkF m (pc + 1) ls (.int (x &&& y) :: st))) target) : Steps tb e below (T.setTop (mkF m pc ls (.int y :: .int x :: st))) target := XS.iand h hx rfl hd rfl hr
theorem own_ior (h : At T m c below) (hx : tb.exec = Jvm.exec) {x y : Int32} (hd : decode c.code pc = .ok (.ior, 1)) (hr : Steps tb e below (T.setTop (mkF m (pc + 1) ls (.int (x ||| y) :: st))) target) : Steps tb e below (T.setTop (mkF m pc ls (.int y :: .int x :: st))) target := XS.ior h hx rfl hd rfl hr
theorem own_ixor (h : At T m c below) (hx : tb.exec = Jvm.exec) {x y : Int32} (hd : decode c.code pc = .ok (.ixor, 1)) (hr : Steps tb e below (T.setTop (mkF m (pc + 1) ls (.int (x ^^^ y) :: st))) target) : Steps tb e below (T.setTop (mkF m pc ls (.int y :: .int x :: st))) target := XS.ixor h hx rfl hd rfl hr
theorem own_idiv (h : At T m c below) (hx : tb.exec = Jvm.exec) {x y : Int32} (hd : decode c.code pc = .ok (.idiv, 1)) (hy : y ≠ 0) (hr : Steps tb e below (T.setTop (mkF m (pc + 1) ls (.int (x / y) :: st))) target) : Steps tb e below (T.setTop (mkF m pc ls (.int y :: .int x :: st))) target := XS.idiv h hx rfl hd rfl hy hr
theorem own_ladd (h : At T m c below) (hx : tb.exec = Jvm.exec) {x y : Int64} (hd : decode c.code pc = .ok (.ladd, 1)) (hr : Steps tb e below (T.setTop (mkF m (pc + 1) ls (.long (x + y) :: st))) target) : Steps tb e below (T.setTop (mkF m pc ls (.long y :: .long x :: st))) target := XS.ladd h hx rfl hd rfl hr
theorem own_lsub (h : At T m c below) (hx : tb.exec = Jvm.exec) {x y : Int64} (hd : decode c.code pc = .ok (.lsub, 1)) (hr : Steps tb e below (T.setTop (mkF m (pc + 1) ls (.long (x - y) :: st))) target) : Steps tb e below (T.setTop (mkF m pc ls (.long y :: .long x :: st))) target := XS.lsub h hx rfl hd rfl hr
theorem own_lmul (h : At T m c below) (hx : tb.exec = Jvm.exec) {x y : Int64} (hd : decode c.code pc = .ok (.lmul, 1)) (hr : Steps tb e below (T.setTop (mkF m (pc + 1) ls (.long (x * y) :: st))) target) : Steps tb e below (T.setTop (mkF m pc ls (.long y :: .long x :: st))) target := XS.lmul h hx rfl hd rfl hr
theorem own_land (h : At T m c below) (hx : tb.exec = Jvm.exec) {x y : Int64} (hd : decode c.code pc = .ok (.land, 1)) (hr : Steps tb e below (T.setTop (mkF m (pc + 1) ls (.long (x &&& y) :: st))) target) : Steps tb e below (T.setTop (mkF m pc ls (.long y :: .long x :: st))) target := XS.land h hx rfl hd rfl hr
theorem own_lor (h : At T m c below) (hx : tb.exec = Jvm.exec) {x y : Int64} (hd : decode c.code pc = .ok (.lor, 1)) (hr : Steps tb e below (T.setTop (mkF m (pc + 1) ls (.long (x ||| y) :: st))) target) : Steps tb e below (T.setTop (mkF m pc ls (.long y :: .long x :: st))) target := XS.lor h hx rfl hd rfl hr
theorem own_lxor (h : At T m c below) (hx : tb.exec = Jvm.exec) {x y : Int64} (hd : decode c.code pc = .ok (.lxor, 1)) (hr : Steps tb e below (T.setTop (mkF m (pc + 1) ls (.long (x ^^^ y) :: st))) target) : Steps tb e below (T.setTop (mkF m pc ls (.long y :: .long x :: st))) target := XS.lxor h hx rfl hd rfl hr
theorem own_ldiv (h : At T m c below) (hx : tb.exec = Jvm.exec) {x y : Int64} (hd : decode c.code pc = .ok (.ldiv, 1)) (hy : y ≠ 0) (hr : Steps tb e below (T.setTop (mkF m (pc + 1) ls (.long (x / y) :: st))) target) : Steps tb e below (T.setTop (mkF m pc ls (.long y :: .long x :: st))) target := XS.ldiv h hx rfl hd rfl hy hr
theorem own_irem (h : At T m c below) (hx : tb.exec = Jvm.exec) {x y : Int32} (hd : decode c.code pc = .ok (.irem, 1)) (hy : y ≠ 0) (hr : Steps tb e below (T.setTop (mkF m (pc + 1) ls (.int (own_rem x y) :: st))) target) : Steps tb e below (T.setTop (mkF m pc ls (.int y :: .int x :: st))) target := XS.irem h hx rfl hd rfl hy hr
theorem own_ishl (h : At T m c below) (hx : tb.exec = Jvm.exec) {x : Int32} {y : Int32} (hd : decode c.code pc = .ok (.ishl, 1)) (hr : Steps tb e below (T.setTop (mkF m (pc + 1) ls (.int (x <<< (y &&& 31)) :: st))) target) : Steps tb e below (T.setTop (mkF m pc ls (.int y :: .int x :: st))) target := XS.ishl h hx rfl hd rfl hr
theorem own_ishr (h : At T m c below) (hx : tb.exec = Jvm.exec) {x : Int32} {y : Int32} (hd : decode c.code pc = .ok (.ishr, 1)) (hr : Steps tb e below (T.setTop (mkF m (pc + 1) ls (.int (x >>> (y &&& 31)) :: st))) target) : Steps tb e below (T.setTop (mkF m pc ls (.int y :: .int x :: st))) target := XS.ishr h hx rfl hd rfl hr
theorem own_iushr (h : At T m c below) (hx : tb.exec = Jvm.exec) {x : Int32} {y : Int32} (hd : decode c.code pc = .ok (.iushr, 1)) (hr : Steps tb e below (T.setTop (mkF m (pc + 1) ls (.int ((x.toUInt32 >>> (y &&& 31).toUInt32).toInt32) :: st))) target) : Steps tb e below (T.setTop (mkF m pc ls (.int y :: .int x :: st))) target := XS.iushr h hx rfl hd rfl hr
theorem own_lshl (h : At T m c below) (hx : tb.exec = Jvm.exec) {x : Int64} {y : Int32} (hd : decode c.code pc = .ok (.lshl, 1)) (hr : Steps tb e below (T.setTop (mkF m (pc + 1) ls (.long (x <<< (y &&& 0x3f).toInt64) :: st))) target) : Steps tb e below (T.setTop (mkF m pc ls (.int y :: .long x :: st))) target := XS.lshl h hx rfl hd rfl hr
theorem own_lshr (h : At T m c below) (hx : tb.exec = Jvm.exec) {x : Int64} {y : Int32} (hd : decode c.code pc = .ok (.lshr, 1)) (hr : Steps tb e below (T.setTop (mkF m (pc + 1) ls (.long (x >>> (y &&& 0x3f).toInt64) :: st))) target) : Steps tb e below (T.setTop (mkF m pc ls (.int y :: .long x :: st))) target := XS.lshr h hx rfl hd rfl hr
theorem own_lushr (h : At T m c below) (hx : tb.exec = Jvm.exec) {x : Int64} {y : Int32} (hd : decode c.code pc = .ok (.lushr, 1)) (hr : Steps tb e below (T.setTop (mkF m (pc + 1) ls (.long ((x.toUInt64 >>> (y &&& 0x3f).toInt64.toUInt64).toInt64) :: st))) target) : Steps tb e below (T.setTop (mkF m pc ls (.int y :: .long x :: st))) target := XS.lushr h hx rfl hd rfl hr
theorem own_ineg (h : At T m c below) (hx : tb.exec = Jvm.exec) {x : Int32} (hd : decode c.code pc = .ok (.ineg, 1)) (hr : Steps tb e below (T.setTop (mkF m (pc + 1) ls (.int (-x) :: st))) target) : Steps tb e below (T.setTop (mkF m pc ls (.int x :: st))) target := XS.ineg h hx rfl hd rfl hr
theorem own_lneg (h : At T m c below) (hx : tb.exec = Jvm.exec) {x : Int64} (hd : decode c.code pc = .ok (.lneg, 1)) (hr : Steps tb e below (T.setTop (mkF m (pc + 1) ls (.long (-x) :: st))) target) : Steps tb e below (T.setTop (mkF m pc ls (.long x :: st))) target := XS.lneg h hx rfl hd rfl hr
theorem own_i2l (h : At T m c below) (hx : tb.exec = Jvm.exec) {x : Int32} (hd : decode c.code pc = .ok (.i2l, 1)) (hr : Steps tb e below (T.setTop (mkF m (pc + 1) ls (.long x.toInt64 :: st))) target) : Steps tb e below (T.setTop (mkF m pc ls (.int x :: st))) target := XS.i2l h hx rfl hd rfl hr
theorem own_l2i (h : At T m c below) (hx : tb.exec = Jvm.exec) {x : Int64} (hd : decode c.code pc = .ok (.l2i, 1)) (hr : Steps tb e below (T.setTop (mkF m (pc + 1) ls (.int x.toInt32 :: st))) target) : Steps tb e below (T.setTop (mkF m pc ls (.long x :: st))) target := XS.l2i h hx rfl hd rfl hr
theorem own_i2b (h : At T m c below) (hx : tb.exec = Jvm.exec) {x : Int32} (hd : decode c.code pc = .ok (.i2b, 1)) (hr : Steps tb e below (T.setTop (mkF m (pc + 1) ls (.int x.toInt8.toInt32 :: st))) target) : Steps tb e below (T.setTop (mkF m pc ls (.int x :: st))) target := XS.i2b h hx rfl hd rfl hr
theorem own_i2s (h : At T m c below) (hx : tb.exec = Jvm.exec) {x : Int32} (hd : decode c.code pc = .ok (.i2s, 1)) (hr : Steps tb e below (T.setTop (mkF m (pc + 1) ls (.int x.toInt16.toInt32 :: st))) target) : Steps tb e below (T.setTop (mkF m pc ls (.int x :: st))) target := XS.i2s h hx rfl hd rfl hr
theorem own_i2c (h : At T m c below) (hx : tb.exec = Jvm.exec) {x : Int32} (hd : decode c.code pc = .ok (.i2c, 1)) (hr : Steps tb e below (T.setTop (mkF m (pc + 1) ls (.int x.toUInt32.toUInt16.toUInt32.toInt32 :: st))) target) : Steps tb e below (T.setTop (mkF m pc ls (.int x :: st))) target := XS.i2c h hx rfl hd rfl hr
theorem own_lcmp (h : At T m c below) (hx : tb.exec = Jvm.exec) {x y : Int64} (hd : decode c.code pc = .ok (.lcmp, 1)) (hr : Steps tb e below (T.setTop (mkF m (pc + 1) ls (.int (lcmpW x y) :: st))) target) : Steps tb e below (T.setTop (mkF m pc ls (.long y :: .long x :: st))) target := XS.lcmp h hx rfl hd rfl hr
theorem own_iinc (h : At T m c below) (hx : tb.exec = Jvm.exec) {k : Nat} {cst : Int} {x : Int32} {l' : Array Slot} (z : Int32) (hd : decode c.code pc = .ok (.iinc k cst, 3)) (hl : ls[k]? = some (.val (.int x))) (hz : Int32.ofInt cst = z) (hl' : storeLocals ls k (.int (x + z)) = some l') (hr : Steps tb e below (T.setTop (mkF m (pc + 3) l' st)) target) : Steps tb e below (T.setTop (mkF m pc ls st)) target := by
  subst hz; exact XS.iinc h hx rfl hd hl hl' hr
theorem own_dup (h : At T m c below) (hx : tb.exec = Jvm.exec) {x : Value} (hd : decode c.code pc = .ok (.dup, 1)) (hc : x.category = 1) (hr : Steps tb e below (T.setTop (mkF m (pc + 1) ls (x :: x :: st))) target) : Steps tb e below (T.setTop (mkF m pc ls (x :: st))) target := XS.dup h hx rfl hd rfl hc hr
theorem own_dupX1 (h : At T m c below) (hx : tb.exec = Jvm.exec) {x y : Value} (hd : decode c.code pc = .ok (.dup_x1, 1)) (hc : x.category = 1) (hc2 : y.category = 1) (hr : Steps tb e below (T.setTop (mkF m (pc + 1) ls (x :: y :: x :: st))) target) : Steps tb e below (T.setTop (mkF m pc ls (x :: y :: st))) target := XS.dupX1 h hx rfl hd rfl hc hc2 hr
theorem own_pop (h : At T m c below) (hx : tb.exec = Jvm.exec) {x : Value} (hd : decode c.code pc = .ok (.pop, 1)) (hc : x.category = 1) (hr : Steps tb e below (T.setTop (mkF m (pc + 1) ls (st))) target) : Steps tb e below (T.setTop (mkF m pc ls (x :: st))) target := XS.pop h hx rfl hd rfl hc hr
theorem own_goto (h : At T m c below) (hx : tb.exec = Jvm.exec) {o : Int} (pc0 pc' : Nat) (hpc : pc = pc0) (hd : decode c.code pc = .ok (.goto o, 3)) (ho : 0 ≤ (pc0 : Int) + o) (hp : ((pc0 : Int) + o).toNat = pc') (hr : Steps tb e below (T.setTop (mkF m pc' ls (st))) target) : Steps tb e below (T.setTop (mkF m pc ls (st))) target := XS.goto h hx rfl hpc hd ho hp hr
theorem own_ifYes (h : At T m c below) (hx : tb.exec = Jvm.exec) {cd : ClassFile.Cond} {o : Int} {x : Int32} (pc0 pc' : Nat) (hpc : pc = pc0) (hd : decode c.code pc = .ok (.ifCond cd o, 3)) (hc : ifCond.holds cd x = true) (ho : 0 ≤ (pc0 : Int) + o) (hp : ((pc0 : Int) + o).toNat = pc') (hr : Steps tb e below (T.setTop (mkF m pc' ls (st))) target) : Steps tb e below (T.setTop (mkF m pc ls (.int x :: st))) target := XS.ifYes h hx rfl hpc hd rfl hc ho hp hr
theorem own_ifNo (h : At T m c below) (hx : tb.exec = Jvm.exec) {cd : ClassFile.Cond} {o : Int} {x : Int32} (hd : decode c.code pc = .ok (.ifCond cd o, 3)) (hc : ifCond.holds cd x = false) (hr : Steps tb e below (T.setTop (mkF m (pc + 3) ls (st))) target) : Steps tb e below (T.setTop (mkF m pc ls (.int x :: st))) target := XS.ifNo h hx rfl hd rfl hc hr
theorem own_icmpYes (h : At T m c below) (hx : tb.exec = Jvm.exec) {cd : ClassFile.Cond} {o : Int} {x y : Int32} (pc0 pc' : Nat) (hpc : pc = pc0) (hd : decode c.code pc = .ok (.if_icmp cd o, 3)) (hc : if_icmp.holds cd x y = true) (ho : 0 ≤ (pc0 : Int) + o) (hp : ((pc0 : Int) + o).toNat = pc') (hr : Steps tb e below (T.setTop (mkF m pc' ls (st))) target) : Steps tb e below (T.setTop (mkF m pc ls (.int y :: .int x :: st))) target := XS.icmpYes h hx rfl hpc hd rfl hc ho hp hr
theorem own_icmpNo (h : At T m c below) (hx : tb.exec = Jvm.exec) {cd : ClassFile.Cond} {o : Int} {x y : Int32} (hd : decode c.code pc = .ok (.if_icmp cd o, 3)) (hc : if_icmp.holds cd x y = false) (hr : Steps tb e below (T.setTop (mkF m (pc + 3) ls (st))) target) : Steps tb e below (T.setTop (mkF m pc ls (.int y :: .int x :: st))) target := XS.icmpNo h hx rfl hd rfl hc hr
theorem own_ifnullYes (h : At T m c below) (hx : tb.exec = Jvm.exec) {o : Int} (pc0 pc' : Nat) (hpc : pc = pc0) (hd : decode c.code pc = .ok (.ifnull o, 3)) (ho : 0 ≤ (pc0 : Int) + o) (hp : ((pc0 : Int) + o).toNat = pc') (hr : Steps tb e below (T.setTop (mkF m pc' ls (st))) target) : Steps tb e below (T.setTop (mkF m pc ls (.null :: st))) target := XS.ifnullYes h hx rfl hpc hd rfl ho hp hr
theorem own_ifnullNo (h : At T m c below) (hx : tb.exec = Jvm.exec) {o : Int} {b : Addr} (hd : decode c.code pc = .ok (.ifnull o, 3)) (hr : Steps tb e below (T.setTop (mkF m (pc + 3) ls (st))) target) : Steps tb e below (T.setTop (mkF m pc ls (.ref b :: st))) target := XS.ifnullNo h hx rfl hd rfl hr
theorem own_ifnonnullYes (h : At T m c below) (hx : tb.exec = Jvm.exec) {o : Int} {b : Addr} (pc0 pc' : Nat) (hpc : pc = pc0) (hd : decode c.code pc = .ok (.ifnonnull o, 3)) (ho : 0 ≤ (pc0 : Int) + o) (hp : ((pc0 : Int) + o).toNat = pc') (hr : Steps tb e below (T.setTop (mkF m pc' ls (st))) target) : Steps tb e below (T.setTop (mkF m pc ls (.ref b :: st))) target := XS.ifnonnullYes h hx rfl hpc hd rfl ho hp hr
theorem own_ifnonnullNo (h : At T m c below) (hx : tb.exec = Jvm.exec) {o : Int} (hd : decode c.code pc = .ok (.ifnonnull o, 3)) (hr : Steps tb e below (T.setTop (mkF m (pc + 3) ls (st))) target) : Steps tb e below (T.setTop (mkF m pc ls (.null :: st))) target := XS.ifnonnullNo h hx rfl hd rfl hr
end OwnSteps
theorem own_w {Z : State} {a0 : Array Value} (hw : ∀ d ∈ tables_1, d.before a0 Z = true) {d : Jvm.Cond} (i : Nat) (h : tables_1[i]? = some d) : d.before a0 Z = true := hw d (List.mem_of_getElem? h)
def own_max (p1 p2 : Int32) : Int32 := if p1 < p2 then p2 else p1
def own_min (p1 p2 : Int32) : Int32 := if p2 < p1 then p2 else p1
/-- a byte[] of the length z, whatever its bytes are -/
def own_BV (Z : State) (h : Heap) (a : Addr) (z : Int32) : Prop := ∃ (k : ClassId) (vs : List Value), Arv Z h a k .byte z vs (.int 0) ∧ vs.length = z.toNatClampNeg
def own_BA (Z : State) (h : Heap) (a : Addr) (z : Int32) : Prop := Exa Z h a "[B" ∧ own_BV Z h a z
section OwnBytes
variable {Z : State} {h h' : Heap} {a b : Addr} {z : Int32} {ws : List Addr} {sl : Nat} {v : Value}
theorem own_BV.lt (F : own_BV Z h a z) : a < h.size := by obtain ⟨k, vs, A, -⟩ := F; exact A.lt
theorem own_BV.ext (F : own_BV Z h a z) (E : Ext h h') : own_BV Z h' a z := by obtain ⟨k, vs, A, l⟩ := F; exact ⟨k, vs, A.ext E, l⟩
theorem own_BV.other (F : own_BV Z h b z) (W : Wr h h' a sl v) (q : b ≠ a) : own_BV Z h' b z := by obtain ⟨k, vs, A, l⟩ := F; exact ⟨k, vs, A.other W q, l⟩
theorem own_BV.keep (F : own_BV Z h a z) (K : Keep h h' ws) (q : a ∉ ws) : own_BV Z h' a z := by obtain ⟨k, vs, A, l⟩ := F; exact ⟨k, vs, A.keep K q, l⟩
theorem own_BV.pos (F : own_BV Z h a z) : ¬ z < 0 := by obtain ⟨k, vs, ⟨c, A, q, S, M, -⟩, l⟩ := F; exact M
theorem own_BV.st {j x : Int32} (F : own_BV Z h a z) (j0 : ¬ j < 0) (j1 : j < z) (W : Wr h h' a j.toNatClampNeg (.int x)) (hv : fits .byte (.int x) = true) : own_BV Z h' a z := by
  obtain ⟨k, vs, ⟨c, A, q, S, M, H, J⟩, l⟩ := F
  refine ⟨k, _, Arv.set A q S M H J hv W _ rfl ?_, ?_⟩
  · have := inb_of S ⟨j0, j1⟩; rw [l, ← S]; exact Nat.lt_of_not_le fun y => this (Or.inr y)
  · rw [List.length_set]; exact l
theorem own_BV.rd {j : Int32} (F : own_BV Z h a z) (j0 : ¬ j < 0) (j1 : j < z) : ∃ (c : Cell) (x : Int32), Arr Z h a c .byte ∧ ¬ (j < 0 ∨ c.slots.size ≤ j.toNatClampNeg) ∧ c.slots[j.toNatClampNeg]? = some (.int x) := by
  obtain ⟨k, vs, ⟨c, A, q, S, M, H, J⟩, l⟩ := F
  have hin := inb_of S ⟨j0, j1⟩
  have hlt : j.toNatClampNeg < c.slots.size := Nat.lt_of_not_le fun y => hin (Or.inr y)
  have hf := J _ hlt
  have hh := H _ hlt
  cases e : vs.getD j.toNatClampNeg (.int 0) with
  | int x => exact ⟨c, x, A, hin, by rw [hh, e]⟩
  | _ => rw [e] at hf; simp [fits] at hf
theorem own_BA.lt (F : own_BA Z h a z) : a < h.size := F.1.lt
theorem own_BA.ext (F : own_BA Z h a z) (E : Ext h h') : own_BA Z h' a z := ⟨F.1.ext E, F.2.ext E⟩
theorem own_BA.other (F : own_BA Z h b z) (W : Wr h h' a sl v) (q : b ≠ a) : own_BA Z h' b z := ⟨F.1.wr W, F.2.other W q⟩
theorem own_BA.keep (F : own_BA Z h a z) (K : Keep h h' ws) (q : a ∉ ws) : own_BA Z h' a z := ⟨F.1.keep K, F.2.keep K q⟩
theorem own_BA.st {j x : Int32} (F : own_BA Z h a z) (j0 : ¬ j < 0) (j1 : j < z) (W : Wr h h' a j.toNatClampNeg (.int x)) (hv : fits .byte (.int x) = true) : own_BA Z h' a z := ⟨F.1.wr W, F.2.st j0 j1 W hv⟩
theorem own_BV.new {k : ClassId} (A : Arr Z h a (newA k .byte z) .byte) (q : ¬ z < 0) : own_BV Z h a z :=
  ⟨k, List.replicate z.toNatClampNeg (.int 0), (Arv.new A q).pad (pad_rep [] (.int 0) z.toNatClampNeg), by simp⟩
end OwnBytes
theorem own_sta_keep {Z : State} {h h' : Heap} {C n d : String} {w : Value} {ws : List Addr} (F : Sta Z h C n d w) (Kp : Keep h h' ws) (N : ∀ x ∈ ws, ∀ cell : Cell, h[x]? = some cell → cell.vm.isStatics = false) : Sta Z h' C n d w := by
  obtain ⟨cf, i, k, f, st, cell, h1, h2, h3, h4, h5, h6, h7⟩ := F
  refine ⟨cf, i, k, f, st, cell, h1, h2, h3, h4, Kp.2.1 st cell h5 fun q => ?_, h6, h7⟩
  have := N st q cell h5
  rw [this] at h6; cases h6
theorem own_BA.nostat {Z : State} {h : Heap} {a : Addr} {z : Int32} (F : own_BA Z h a z) : ∀ cell : Cell, h[a]? = some cell → cell.vm.isStatics = false := F.1.nostat
theorem own_BV.nostat {Z : State} {h : Heap} {a : Addr} {z : Int32} (F : own_BV Z h a z) : ∀ cell : Cell, h[a]? = some cell → cell.vm.isStatics = false := by obtain ⟨k, vs, A, -⟩ := F; exact A.nostat
/-- an Object[] of the length z: 'own_OL' its length alone, 'own_OA' such that any object may lie in it -/
def own_OL (Z : State) (h : Heap) (a : Addr) (z : Int32) : Prop := ∃ c : Cell, Arr Z h a c (.object "java/lang/Object") ∧ c.slots.size = z.toNatClampNeg ∧ ¬ z < 0
def own_OA (Z : State) (h : Heap) (a : Addr) (z : Int32) : Prop := ∃ c : Cell, Arr Z h a c (.object "java/lang/Object") ∧ c.slots.size = z.toNatClampNeg ∧ ¬ z < 0 ∧ Ovr Z c.cls "java/lang/Object"
section OwnObjs
variable {Z : State} {h h' : Heap} {a b : Addr} {z : Int32} {ws : List Addr} {sl : Nat} {v : Value}
theorem own_OL.lt (F : own_OL Z h a z) : a < h.size := by obtain ⟨c, A, -⟩ := F; exact A.lt
theorem own_OL.ext (F : own_OL Z h a z) (E : Ext h h') : own_OL Z h' a z := by obtain ⟨c, A, r⟩ := F; exact ⟨c, A.ext E, r⟩
theorem own_OL.other (F : own_OL Z h b z) (W : Wr h h' a sl v) (q : b ≠ a) : own_OL Z h' b z := by obtain ⟨c, A, r⟩ := F; exact ⟨c, A.other W q, r⟩
theorem own_OL.keep (F : own_OL Z h a z) (K : Keep h h' ws) (q : a ∉ ws) : own_OL Z h' a z := by obtain ⟨c, A, r⟩ := F; exact ⟨c, ⟨K.2.1 a c A.1 q, A.2⟩, r⟩
theorem own_OL.nostat (F : own_OL Z h a z) : ∀ cell : Cell, h[a]? = some cell → cell.vm.isStatics = false := by obtain ⟨c, A, -⟩ := F; exact A.nostat
theorem own_OA.ol (F : own_OA Z h a z) : own_OL Z h a z := by obtain ⟨c, A, r1, r2, -⟩ := F; exact ⟨c, A, r1, r2⟩
theorem own_OA.lt (F : own_OA Z h a z) : a < h.size := F.ol.lt
theorem own_OA.ext (F : own_OA Z h a z) (E : Ext h h') : own_OA Z h' a z := by obtain ⟨c, A, r⟩ := F; exact ⟨c, A.ext E, r⟩
theorem own_OA.other (F : own_OA Z h b z) (W : Wr h h' a sl v) (q : b ≠ a) : own_OA Z h' b z := by obtain ⟨c, A, r⟩ := F; exact ⟨c, A.other W q, r⟩
theorem own_OA.keep (F : own_OA Z h a z) (K : Keep h h' ws) (q : a ∉ ws) : own_OA Z h' a z := by obtain ⟨c, A, r⟩ := F; exact ⟨c, ⟨K.2.1 a c A.1 q, A.2⟩, r⟩
theorem own_OA.nostat (F : own_OA Z h a z) : ∀ cell : Cell, h[a]? = some cell → cell.vm.isStatics = false := F.ol.nostat
theorem own_OA.st (F : own_OA Z h a z) (W : Wr h h' a sl v) : own_OA Z h' a z := by
  obtain ⟨c, A, r1, r2, r3⟩ := F
  exact ⟨_, A.same W, by rw [show (c.setSlot sl v).slots.size = c.slots.size from by simp [Cell.setSlot]]; exact r1, r2, r3⟩
theorem own_OA.new {k : ClassId} (A : Arr Z h a (newA k (.object "java/lang/Object") z) (.object "java/lang/Object")) (q : ¬ z < 0) (O : Ovr Z k "java/lang/Object") : own_OA Z h a z := ⟨_, A, sz_new _ _ _, q, O⟩
end OwnObjs
theorem own_shr0 (x : Int32) : (x >>> ((0 : Int32) &&& 31)) = x := by
  have h := c_ishr x 0 0 (by decide)
  exact Int32.toInt_inj.mp (by rw [h]; simp)
theorem own_shl0 (x : Int32) : (x <<< ((0 : Int32) &&& 31)) = x := by
  have h := c_ishl x 0 0 (by decide)
  have r1 := rng32 x
  have r2 := rng32 (x <<< ((0 : Int32) &&& 31))
  exact Int32.toInt_inj.mp (by omega)
section OwnCopy
variable {p : Program} {l : Launch} {e : Env} {R : Room} {s : State} {m : MethodId} {args : Array Value} {below : List Frame} {meth : Method} {c : Code} {T : State} {locs : List Loc} {cells slots : Nat} {Z : State} {h : Heap} {a b : Addr}
/-- arraycopy from a byte[] into another, whatever lies in them -/
theorem own_cpB (X : Stand p l e R s m args below meth c T locs cells slots) (hx : p.tables.exec = Jvm.exec) (hZ : Z.Warmed39 s.vm) {a0 : Array Value} {own : String} {index : Nat} (hown : s.vm.findClass own = some m.cls)
    (w1 : (Cond.methodLink own index Jvm.Stand.acN).before a0 Z = true) (w2 : (Cond.native Jvm.Stand.acN).before a0 Z = true) (w3 : (Cond.static Jvm.Stand.acN).before a0 Z = true) (w4 : (Cond.initialized "java/lang/System").before a0 Z = true) (eT : T.heap = h)
    {z z' sp dp nn : Int32} (A : own_BV Z h a z) (B : own_BA Z h b z') (h1 : ¬ sp < 0) (h2 : ¬ dp < 0) (h3 : ¬ nn < 0) (h4 : sp.toInt + nn.toInt ≤ z.toInt) (h5 : dp.toInt + nn.toInt ≤ z'.toInt) {n0 : Nat} (N : Fr n0 locs) (ge : n0 ≤ b)
    {g : JFrame} (hg : g.method = m) (hsize : g.locals.size = c.maxLocals) {rest : List Value} (hs : g.stack = .int nn :: .int dp :: .ref b :: .int sp :: .ref a :: rest) (hd : decode c.code g.pc = .ok (.invokestatic index, 3))
    (hf : 1 ≤ R.frames) {W : Nat} (hW : 2 * g.monitorRoom + (rest.map fun v => v.category).sum ≤ W) (hlo : W + (nativeFrameWords "java/lang/System" "arraycopy" 5 + 11) ≤ R.locals) :
    ∃ T' h' L, Stand p l e R s m args below meth c T' L cells slots ∧ T'.heap = h' ∧ Fr n0 L ∧ Keep h h' [b] ∧ own_BA Z h' b z' ∧
      ∀ target, Steps p.tables e below (T'.setTop { g with pc := g.pc + 3, stack := rest }) target → Steps p.tables e below (T.setTop g) target := by
  obtain ⟨k, vs, A, la⟩ := A
  obtain ⟨E, k', vd, B, lb⟩ := B
  have i1 := nat_of h1
  have i2 := nat_of h2
  have i3 := nat_of h3
  have p1 : ¬ z < 0 := by obtain ⟨_, _, _, _, M, _⟩ := A; exact M
  have p2 : ¬ z' < 0 := by obtain ⟨_, _, _, _, M, _⟩ := B; exact M
  have i4 := nat_of p1
  have i5 := nat_of p2
  obtain ⟨T', h', L, X', e', N', K, A', st⟩ := cpA X hx hZ hown w1 w2 w3 w4 eT A B (Or.inl ⟨rfl, rfl⟩) h1 h2 h3 (by omega) (by omega) rfl (by rw [lb]; omega) N ge hg hsize hs hd hf hW hlo
  refine ⟨T', h', L, X', e', N', K, ⟨E.keep K, k', _, A', ?_⟩, st⟩
  simp only [List.length_append, List.length_take, List.length_drop, List.length_map, List.length_range, lb]
  omega
end OwnCopy
theorem own_same {Z : State} {a0 : Array Value} {y y' : MethodName} {C : String} (wi : (Cond.instanceMethod y).before a0 Z = true) (ws : (Cond.selects C y' y').before a0 Z = true) (hc : y'.cls = y.cls) (hy : y.cls ≠ "java/lang/invoke/MethodHandle" ∧ y.cls ≠ "java/lang/invoke/VarHandle") : (Cond.sameMethod y.cls y.cls y.name y.desc).before a0 Z = true := by
  obtain ⟨mk, methM, hnamed, hmethM, hstM, habM⟩ := Cond.instanceMethod_spec wi
  obtain ⟨c2, r2, m2, q1, q2, q3, q4, kP, hkP, hkPi⟩ := Cond.selects_spec ws
  have f1 := findClass_of_methodNamed hnamed
  obtain ⟨r0, hr0⟩ : ∃ r0, Z.methodNamed? y' = some r0 := ⟨_, q3⟩
  obtain ⟨kr, hkr, hi⟩ := notFace_of_selects ws r0 hr0
  have f2 := findClass_of_methodNamed hr0
  rw [hc, f1] at f2
  have e : mk.cls = r0.cls := Option.some.inj f2
  have hf := State.methodFound?_of_named hnamed hy
  have hn : Z.methodNamed? ⟨y.cls, y.name, y.desc⟩ = some mk := hnamed
  simp only [Cond.before, Cond.holds, Cond.value, f1, hf, hn]
  rw [e, hkr]
  simp [hi]
def own_nc (z m : Int32) : Int32 := z + own_max (m - z) (z + (2 : Int32))
def own_cap (z m : Int32) : Int32 := if (0 : Int32) < (m - z) then own_nc z m else z
theorem own_max_toInt (a b : Int32) : (own_max a b).toInt = if a.toInt < b.toInt then b.toInt else a.toInt := by
  unfold own_max; simp only [Int32.lt_iff_toInt_lt]; split <;> rfl
theorem own_min_toInt (a b : Int32) : (own_min a b).toInt = if b.toInt < a.toInt then b.toInt else a.toInt := by
  unfold own_min; simp only [Int32.lt_iff_toInt_lt]; split <;> rfl
theorem own_sub_toInt {a b : Int32} (h1 : -2147483648 ≤ a.toInt - b.toInt) (h2 : a.toInt - b.toInt < 2147483648) : (a - b).toInt = a.toInt - b.toInt := by have := c_isub a b; have := rng32 (a - b); omega
theorem own_add_toInt {a b : Int32} (h1 : -2147483648 ≤ a.toInt + b.toInt) (h2 : a.toInt + b.toInt < 2147483648) : (a + b).toInt = a.toInt + b.toInt := by have := c_iadd a b; have := rng32 (a + b); omega
theorem own_nc_toInt {z m : Int32} (z0 : 0 ≤ z.toInt) (z1 : z.toInt ≤ 1000) (m0 : 0 ≤ m.toInt) (m1 : m.toInt ≤ 1000) : (own_nc z m).toInt = if m.toInt - z.toInt < z.toInt + 2 then z.toInt + (z.toInt + 2) else m.toInt := by
  have k2 : (2 : Int32).toInt = 2 := rfl
  have e1 : (m - z).toInt = m.toInt - z.toInt := own_sub_toInt (by omega) (by omega)
  have e2 : (z + 2).toInt = z.toInt + 2 := (own_add_toInt (by rw [k2]; omega) (by rw [k2]; omega)).trans (by rw [k2])
  have e3 := own_max_toInt (m - z) (z + 2)
  rw [e1, e2] at e3
  have e4 : (own_nc z m).toInt = z.toInt + (own_max (m - z) (z + 2)).toInt := own_add_toInt (by rw [e3]; split <;> omega) (by rw [e3]; split <;> omega)
  rw [e4, e3]; split <;> omega
theorem own_ltI {a b : Int32} : a < b ↔ a.toInt < b.toInt := Int32.lt_iff_toInt_lt
theorem own_grows {z m : Int32} (z0 : 16 ≤ z.toInt) (z1 : z.toInt ≤ 34) (m0 : 0 ≤ m.toInt) (m1 : m.toInt ≤ 60) (h : (0 : Int32) < (m - z)) :
    (0 : Int32) < own_nc z m ∧ ¬ (2147483639 : Int32) < own_nc z m ∧ (own_nc z m).toNatClampNeg ≤ 70 ∧ ¬ own_nc z m < 0 ∧ ¬ own_nc z m = z ∧ m.toInt ≤ (own_nc z m).toInt ∧ 16 ≤ (own_nc z m).toInt ∧ (own_nc z m).toInt ≤ 70 ∧ ¬ own_nc z m = (2147483647 : Int32) := by
  have e := own_nc_toInt (z := z) (m := m) (by omega) (by omega) m0 (by omega)
  have k0 : (0 : Int32).toInt = 0 := rfl
  have k9 : (2147483639 : Int32).toInt = 2147483639 := by decide
  have k7 : (2147483647 : Int32).toInt = 2147483647 := by decide
  have es : (m - z).toInt = m.toInt - z.toInt := own_sub_toInt (by omega) (by omega)
  rw [own_ltI, k0, es] at h
  have b1 : 16 ≤ (own_nc z m).toInt ∧ (own_nc z m).toInt ≤ 70 ∧ m.toInt ≤ (own_nc z m).toInt ∧ z.toInt < (own_nc z m).toInt := by rw [e]; split <;> omega
  have p : ¬ own_nc z m < 0 := by rw [own_ltI, k0]; omega
  refine ⟨by rw [own_ltI, k0]; omega, by rw [own_ltI, k9]; omega, by have := nat_of p; omega, p, fun q => ?_, b1.2.2.1, b1.1, b1.2.1, fun q => ?_⟩
  · rw [q] at b1; omega
  · rw [q, k7] at b1; omega
theorem own_fitsI {z m : Int32} (z0 : 16 ≤ z.toInt) (z1 : z.toInt ≤ 1000) (m0 : 0 ≤ m.toInt) (m1 : m.toInt ≤ 60) (h : ¬ (0 : Int32) < (m - z)) : m.toInt ≤ z.toInt := by
  have k0 : (0 : Int32).toInt = 0 := rfl
  have es : (m - z).toInt = m.toInt - z.toInt := own_sub_toInt (by omega) (by omega)
  rw [own_ltI, k0, es] at h; omega
theorem own_plus1 {c : Int32} (h0 : 0 ≤ c.toInt) (h1 : c.toInt ≤ 1000) : (c + (1 : Int32)).toInt = c.toInt + 1 := own_add_toInt (by have : (1 : Int32).toInt = 1 := rfl; omega) (by have : (1 : Int32).toInt = 1 := rfl; omega)
theorem own_selp {Z : State} {a0 : Array Value} {y : MethodName} {K : String} (wi : (Cond.instanceMethod y).before a0 Z = true) (wp : (Cond.privateMethod y).before a0 Z = true) (ws : (Cond.selects K y y).before a0 Z = true) (hy : y.cls ≠ "java/lang/invoke/MethodHandle" ∧ y.cls ≠ "java/lang/invoke/VarHandle") : (Cond.selects y.cls y y).before a0 Z = true := by
  obtain ⟨mk, methM, hnamed, hmethM, -, -⟩ := Cond.instanceMethod_spec wi
  obtain ⟨kr, hkr, hi⟩ := notFace_of_selects ws mk hnamed
  exact selects_self_of_private (findClass_of_methodNamed hnamed) hkr hi (Cond.privateMethod_at wp) wi hy
theorem ef_rmMax (m : MethodId) (x0 : Int32) (x1 : Int32) : entryFrame m #[(.int x0), (.int x1)] 2 = mkF m 0 #[.val (.int x0), .val (.int x1)] [] := by first | (simp [entryFrame, mkF, argsToLocals, Value.category]; done) | rfl
def QMax (Z : State) (p1 : Int32) (p2 : Int32) (h0 : Heap) (n0 : Nat) (v : Option Value) (h : Heap) (L : List Loc) : Prop := v = some (.int (own_max p1 p2)) ∧ Fr n0 L ∧ h = h0
theorem d18_0 : decode jdk_29_method_65_code 0 = .ok (.iload_n 0, 1) := by decide +kernel
theorem d18_1 : decode jdk_29_method_65_code 1 = .ok (.iload_n 1, 1) := by decide +kernel
theorem d18_2 : decode jdk_29_method_65_code 2 = .ok (.if_icmp .lt 7, 3) := by decide +kernel
theorem d18_9 : decode jdk_29_method_65_code 9 = .ok (.iload_n 1, 1) := by decide +kernel
theorem d18_10 : decode jdk_29_method_65_code 10 = .ok (.ireturn, 1) := by decide +kernel
theorem d18_5 : decode jdk_29_method_65_code 5 = .ok (.iload_n 0, 1) := by decide +kernel
theorem d18_6 : decode jdk_29_method_65_code 6 = .ok (.goto 4, 3) := by decide +kernel
set_option maxRecDepth 65536 in
set_option maxHeartbeats 40000000 in
theorem rmMax (l : Launch) (Z : State) (a0 : Array Value) (hw : ∀ d ∈ tables_1, d.before a0 Z = true) (ws : List Jvm.Cond) (p1 : Int32) (p2 : Int32) (h0 : Heap) (n0 : Nat) (Z0 : n0 ≤ h0.size) :
    MetFree l (⟨"java/lang/Math", "max", "(II)I"⟩ : MethodName) (head1 (Jvm.Cond.code (⟨"java/lang/Math", "max", "(II)I"⟩ : MethodName) jdk_29_method_65_code 2 (some .int) :: ws) ({ frames := 0, cells := 0, slots := 0, locals := 0 } : Room)) (fun a U => a = #[(.int p1), (.int p2)] ∧ Z.Warmed39 U.vm ∧ U.heap = h0) (fun _ _ _ _ _ => True) (fun _ U o U' => ∃ v L, o = .returned v ∧ QMax Z p1 p2 h0 n0 v U'.heap L ∧ FrameEnd U o U' L ({ frames := 0, cells := 0, slots := 0, locals := 0 } : Room).cells ({ frames := 0, cells := 0, slots := 0, locals := 0 } : Room).slots) := by
  refine MetFree.of_bodySF (Jvm.Free.JP.mathPlain rfl (by decide +kernel)) hisR ?_
  intro p e s m args below meth c s₁ Bd hml0 hP hK
  obtain ⟨rfl, hZ, hh⟩ := hP
  have hx := Bd.exec
  have hby := Bd.bytes
  have hml : c.maxLocals = 2 := hml0
  have hown : s.vm.findClass "java/lang/Math" = some m.cls := findClass_of_methodNamed Bd.named
  have hnm := (name_of_methodNamed Bd.named Bd.method).1
  have X0 : Stand p l e ({ frames := 0, cells := 0, slots := 0, locals := 0 } : Room) s m #[(.int p1), (.int p2)] below meth c s₁ [] 0 0 := Stand.of_body Bd
  have e0 : s₁.heap = h0 := by rw [← hh, Bd.state]; rfl
  have N0 := Fr.nil n0
  have pre0 : ∀ tG, Steps p.tables e below (s₁.setTop (mkF m 0 #[.val (.int p1), .val (.int p2)] [])) tG → Steps p.tables e below (s₁.setTop (entryFrame m #[(.int p1), (.int p2)] 2)) tG := fun tG kG => castTop (ef_rmMax m p1 p2) kG
  have G1 : ∀ tG, Steps p.tables e below (s₁.setTop (mkF m 2 #[.val (.int p1), .val (.int p2)] [(.int p2), (.int p1)])) tG → Steps p.tables e below (s₁.setTop (mkF m 0 #[.val (.int p1), .val (.int p2)] [])) tG := by
    intro tG kG
    refine own_iloadN X0.here hx (hb hby d18_0) rfl ?_
    refine own_iloadN X0.here hx (hb hby d18_1) rfl ?_
    exact kG
  by_cases hc2 : p1 < p2
  · obtain ⟨fs, hr, hrun, hended, hW, hsame⟩ := X0.leave (v := some (.int p2)) (fun h => by rw [Bd.returns] at h; cases h)
    refine ⟨_, _, pre0 _ ?_, hrun, hended, _, _, rfl, ?_, ⟨_, rfl⟩, hW, hsame.mono (by decide) (by decide)⟩
    · refine G1 _ ?_
      refine own_icmpYes X0.here hx 2 9 rfl (hb hby d18_2) (tlt hc2).1 (by decide) (by decide) ?_
      refine own_iloadN X0.here hx (hb hby d18_9) rfl ?_
      exact retI X0 hx Bd.returns (hb hby d18_10) hr
    · show QMax Z p1 p2 h0 n0 _ s₁.heap _
      rw [e0]
      exact ⟨by simp only [own_max, if_pos hc2], N0, rfl⟩
  · obtain ⟨fs, hr, hrun, hended, hW, hsame⟩ := X0.leave (v := some (.int p1)) (fun h => by rw [Bd.returns] at h; cases h)
    refine ⟨_, _, pre0 _ ?_, hrun, hended, _, _, rfl, ?_, ⟨_, rfl⟩, hW, hsame.mono (by decide) (by decide)⟩
    · refine G1 _ ?_
      refine own_icmpNo X0.here hx (hb hby d18_2) (flt hc2).1 ?_
      refine own_iloadN X0.here hx (hb hby d18_5) rfl ?_
      refine own_goto X0.here hx 6 10 rfl (hb hby d18_6) (by decide) (by decide) ?_
      exact retI X0 hx Bd.returns (hb hby d18_10) hr
    · show QMax Z p1 p2 h0 n0 _ s₁.heap _
      rw [e0]
      exact ⟨by simp only [own_max, if_neg hc2], N0, rfl⟩
theorem ef_rmMin (m : MethodId) (x0 : Int32) (x1 : Int32) : entryFrame m #[(.int x0), (.int x1)] 2 = mkF m 0 #[.val (.int x0), .val (.int x1)] [] := by first | (simp [entryFrame, mkF, argsToLocals, Value.category]; done) | rfl
def QMin (Z : State) (p1 : Int32) (p2 : Int32) (h0 : Heap) (n0 : Nat) (v : Option Value) (h : Heap) (L : List Loc) : Prop := v = some (.int (own_min p1 p2)) ∧ Fr n0 L ∧ h = h0
theorem d43_0 : decode jdk_29_method_69_code 0 = .ok (.iload_n 0, 1) := by decide +kernel
theorem d43_1 : decode jdk_29_method_69_code 1 = .ok (.iload_n 1, 1) := by decide +kernel
theorem d43_2 : decode jdk_29_method_69_code 2 = .ok (.if_icmp .gt 7, 3) := by decide +kernel
theorem d43_9 : decode jdk_29_method_69_code 9 = .ok (.iload_n 1, 1) := by decide +kernel
theorem d43_10 : decode jdk_29_method_69_code 10 = .ok (.ireturn, 1) := by decide +kernel
theorem d43_5 : decode jdk_29_method_69_code 5 = .ok (.iload_n 0, 1) := by decide +kernel
theorem d43_6 : decode jdk_29_method_69_code 6 = .ok (.goto 4, 3) := by decide +kernel
set_option maxRecDepth 65536 in
set_option maxHeartbeats 40000000 in
theorem rmMin (l : Launch) (Z : State) (a0 : Array Value) (hw : ∀ d ∈ tables_1, d.before a0 Z = true) (ws : List Jvm.Cond) (p1 : Int32) (p2 : Int32) (h0 : Heap) (n0 : Nat) (Z0 : n0 ≤ h0.size) :
    MetFree l (⟨"java/lang/Math", "min", "(II)I"⟩ : MethodName) (head1 (Jvm.Cond.code (⟨"java/lang/Math", "min", "(II)I"⟩ : MethodName) jdk_29_method_69_code 2 (some .int) :: ws) ({ frames := 0, cells := 0, slots := 0, locals := 0 } : Room)) (fun a U => a = #[(.int p1), (.int p2)] ∧ Z.Warmed39 U.vm ∧ U.heap = h0) (fun _ _ _ _ _ => True) (fun _ U o U' => ∃ v L, o = .returned v ∧ QMin Z p1 p2 h0 n0 v U'.heap L ∧ FrameEnd U o U' L ({ frames := 0, cells := 0, slots := 0, locals := 0 } : Room).cells ({ frames := 0, cells := 0, slots := 0, locals := 0 } : Room).slots) := by
  refine MetFree.of_bodySF (Jvm.Free.JP.mathPlain rfl (by decide +kernel)) hisR ?_
  intro p e s m args below meth c s₁ Bd hml0 hP hK
  obtain ⟨rfl, hZ, hh⟩ := hP
  have hx := Bd.exec
  have hby := Bd.bytes
  have hml : c.maxLocals = 2 := hml0
  have hown : s.vm.findClass "java/lang/Math" = some m.cls := findClass_of_methodNamed Bd.named
  have hnm := (name_of_methodNamed Bd.named Bd.method).1
  have X0 : Stand p l e ({ frames := 0, cells := 0, slots := 0, locals := 0 } : Room) s m #[(.int p1), (.int p2)] below meth c s₁ [] 0 0 := Stand.of_body Bd
  have e0 : s₁.heap = h0 := by rw [← hh, Bd.state]; rfl
  have N0 := Fr.nil n0
  have pre0 : ∀ tG, Steps p.tables e below (s₁.setTop (mkF m 0 #[.val (.int p1), .val (.int p2)] [])) tG → Steps p.tables e below (s₁.setTop (entryFrame m #[(.int p1), (.int p2)] 2)) tG := fun tG kG => castTop (ef_rmMin m p1 p2) kG
  have G2 : ∀ tG, Steps p.tables e below (s₁.setTop (mkF m 2 #[.val (.int p1), .val (.int p2)] [(.int p2), (.int p1)])) tG → Steps p.tables e below (s₁.setTop (mkF m 0 #[.val (.int p1), .val (.int p2)] [])) tG := by
    intro tG kG
    refine own_iloadN X0.here hx (hb hby d43_0) rfl ?_
    refine own_iloadN X0.here hx (hb hby d43_1) rfl ?_
    exact kG
  by_cases hc2 : p2 < p1
  · obtain ⟨fs, hr, hrun, hended, hW, hsame⟩ := X0.leave (v := some (.int p2)) (fun h => by rw [Bd.returns] at h; cases h)
    refine ⟨_, _, pre0 _ ?_, hrun, hended, _, _, rfl, ?_, ⟨_, rfl⟩, hW, hsame.mono (by decide) (by decide)⟩
    · refine G2 _ ?_
      refine own_icmpYes X0.here hx 2 9 rfl (hb hby d43_2) (tlt hc2).2.2.1 (by decide) (by decide) ?_
      refine own_iloadN X0.here hx (hb hby d43_9) rfl ?_
      exact retI X0 hx Bd.returns (hb hby d43_10) hr
    · show QMin Z p1 p2 h0 n0 _ s₁.heap _
      rw [e0]
      exact ⟨by simp only [own_min, if_pos hc2], N0, rfl⟩
  · obtain ⟨fs, hr, hrun, hended, hW, hsame⟩ := X0.leave (v := some (.int p1)) (fun h => by rw [Bd.returns] at h; cases h)
    refine ⟨_, _, pre0 _ ?_, hrun, hended, _, _, rfl, ?_, ⟨_, rfl⟩, hW, hsame.mono (by decide) (by decide)⟩
    · refine G2 _ ?_
      refine own_icmpNo X0.here hx (hb hby d43_2) (flt hc2).2.2.1 ?_
      refine own_iloadN X0.here hx (hb hby d43_5) rfl ?_
      refine own_goto X0.here hx 6 10 rfl (hb hby d43_6) (by decide) (by decide) ?_
      exact retI X0 hx Bd.returns (hb hby d43_10) hr
    · show QMin Z p1 p2 h0 n0 _ s₁.heap _
      rw [e0]
      exact ⟨by simp only [own_min, if_neg hc2], N0, rfl⟩
theorem ef_rmCE (m : MethodId) (x0 : Int32) : entryFrame m #[(.int x0)] 1 = mkF m 0 #[.val (.int x0)] [] := by first | (simp [entryFrame, mkF, argsToLocals, Value.category]; done) | rfl
theorem pn_java_lang_StringLatin1 : plainName "java/lang/StringLatin1" = true := by first | (simp [plainName, overriddenIn]; done) | decide +kernel
def QCE (Z : State) (p1 : Int32) (h0 : Heap) (n0 : Nat) (v : Option Value) (h : Heap) (L : List Loc) : Prop := v = some (.int (1 : Int32)) ∧ Fr n0 L ∧ h = h0
theorem d5_0 : decode jdk_43_method_3_code 0 = .ok (.iload_n 0, 1) := by decide +kernel
theorem d5_1 : decode jdk_43_method_3_code 1 = .ok (.sipush 255, 3) := by decide +kernel
theorem d5_4 : decode jdk_43_method_3_code 4 = .ok (.if_icmp .gt 7, 3) := by decide +kernel
theorem d5_7 : decode jdk_43_method_3_code 7 = .ok (.iconst 1, 1) := by decide +kernel
theorem d5_8 : decode jdk_43_method_3_code 8 = .ok (.goto 4, 3) := by decide +kernel
theorem d5_12 : decode jdk_43_method_3_code 12 = .ok (.ireturn, 1) := by decide +kernel
set_option maxRecDepth 65536 in
set_option maxHeartbeats 40000000 in
theorem rmCE (l : Launch) (Z : State) (a0 : Array Value) (hw : ∀ d ∈ tables_1, d.before a0 Z = true) (ws : List Jvm.Cond) (p1 : Int32) (h0 : Heap) (n0 : Nat) (Z0 : n0 ≤ h0.size) (g1 : ¬ (255 : Int32) < p1) :
    MetFree l (⟨"java/lang/StringLatin1", "canEncode", "(C)Z"⟩ : MethodName) (head1 (Jvm.Cond.code (⟨"java/lang/StringLatin1", "canEncode", "(C)Z"⟩ : MethodName) jdk_43_method_3_code 1 (some .boolean) :: ws) ({ frames := 0, cells := 0, slots := 0, locals := 0 } : Room)) (fun a U => a = #[(.int p1)] ∧ Z.Warmed39 U.vm ∧ U.heap = h0) (fun _ _ _ _ _ => True) (fun _ U o U' => ∃ v L, o = .returned v ∧ QCE Z p1 h0 n0 v U'.heap L ∧ FrameEnd U o U' L ({ frames := 0, cells := 0, slots := 0, locals := 0 } : Room).cells ({ frames := 0, cells := 0, slots := 0, locals := 0 } : Room).slots) := by
  refine MetFree.of_bodySF (plainFor_of_name pn_java_lang_StringLatin1) hisR ?_
  intro p e s m args below meth c s₁ Bd hml0 hP hK
  obtain ⟨rfl, hZ, hh⟩ := hP
  have hx := Bd.exec
  have hby := Bd.bytes
  have hml : c.maxLocals = 1 := hml0
  have hown : s.vm.findClass "java/lang/StringLatin1" = some m.cls := findClass_of_methodNamed Bd.named
  have hnm := (name_of_methodNamed Bd.named Bd.method).1
  have X0 : Stand p l e ({ frames := 0, cells := 0, slots := 0, locals := 0 } : Room) s m #[(.int p1)] below meth c s₁ [] 0 0 := Stand.of_body Bd
  have e0 : s₁.heap = h0 := by rw [← hh, Bd.state]; rfl
  have N0 := Fr.nil n0
  have pre0 : ∀ tG, Steps p.tables e below (s₁.setTop (mkF m 0 #[.val (.int p1)] [])) tG → Steps p.tables e below (s₁.setTop (entryFrame m #[(.int p1)] 1)) tG := fun tG kG => castTop (ef_rmCE m p1) kG
  obtain ⟨fs, hr, hrun, hended, hW, hsame⟩ := X0.leave (v := some (.int 1)) (fun h => by rw [Bd.returns] at h; cases h)
  refine ⟨_, _, pre0 _ ?_, hrun, hended, _, _, rfl, ?_, ⟨_, rfl⟩, hW, hsame.mono (by decide) (by decide)⟩
  · refine own_iloadN X0.here hx (hb hby d5_0) rfl ?_
    refine own_sipush X0.here hx (255 : Int32) (hb hby d5_1) rfl ?_
    refine own_icmpNo X0.here hx (hb hby d5_4) (flt g1).2.2.1 ?_
    refine own_iconst X0.here hx (1 : Int32) (hb hby d5_7) rfl ?_
    refine own_goto X0.here hx 8 12 rfl (hb hby d5_8) (by decide) (by decide) ?_
    exact retN X0 hx (t := .boolean) Bd.returns (by simp) (hb hby d5_12) hr
  · show QCE Z p1 h0 n0 _ s₁.heap _
    rw [e0]
    exact ⟨rfl, N0, rfl⟩
theorem ef_rmTB (m : MethodId) (x0 : Int32) : entryFrame m #[(.int x0)] 1 = mkF m 0 #[.val (.int x0)] [] := by first | (simp [entryFrame, mkF, argsToLocals, Value.category]; done) | rfl
def QTB (Z : State) (p1 : Int32) (h0 : Heap) (n0 : Nat) (v : Option Value) (h : Heap) (L : List Loc) : Prop := ∃ b, v = some (.ref b) ∧ Fr n0 L ∧ Keep h0 h [] ∧ h0.size ≤ b ∧ own_BA Z h b 1
theorem d6_0 : decode jdk_43_method_46_code 0 = .ok (.iconst 1, 1) := by decide +kernel
theorem d6_1 : decode jdk_43_method_46_code 1 = .ok (.newarray .byte, 2) := by decide +kernel
theorem d6_3 : decode jdk_43_method_46_code 3 = .ok (.dup, 1) := by decide +kernel
theorem d6_4 : decode jdk_43_method_46_code 4 = .ok (.iconst 0, 1) := by decide +kernel
theorem d6_5 : decode jdk_43_method_46_code 5 = .ok (.iload_n 0, 1) := by decide +kernel
theorem d6_6 : decode jdk_43_method_46_code 6 = .ok (.i2b, 1) := by decide +kernel
theorem d6_7 : decode jdk_43_method_46_code 7 = .ok (.bastore, 1) := by decide +kernel
theorem d6_8 : decode jdk_43_method_46_code 8 = .ok (.areturn, 1) := by decide +kernel
set_option maxRecDepth 65536 in
set_option maxHeartbeats 40000000 in
theorem rmTB (l : Launch) (Z : State) (a0 : Array Value) (hw : ∀ d ∈ tables_1, d.before a0 Z = true) (ws : List Jvm.Cond) (p1 : Int32) (h0 : Heap) (n0 : Nat) (Z0 : n0 ≤ h0.size) :
    MetFree l (⟨"java/lang/StringLatin1", "toBytes", "(C)[B"⟩ : MethodName) (head1 (Jvm.Cond.code (⟨"java/lang/StringLatin1", "toBytes", "(C)[B"⟩ : MethodName) jdk_43_method_46_code 1 (some (.array .byte)) :: ws) ({ frames := 0, cells := 1, slots := 1, locals := 0 } : Room)) (fun a U => a = #[(.int p1)] ∧ Z.Warmed39 U.vm ∧ U.heap = h0) (fun _ _ _ _ _ => True) (fun _ U o U' => ∃ v L, o = .returned v ∧ QTB Z p1 h0 n0 v U'.heap L ∧ FrameEnd U o U' L ({ frames := 0, cells := 1, slots := 1, locals := 0 } : Room).cells ({ frames := 0, cells := 1, slots := 1, locals := 0 } : Room).slots) := by
  refine MetFree.of_bodySF (plainFor_of_name pn_java_lang_StringLatin1) hisR ?_
  intro p e s m args below meth c s₁ Bd hml0 hP hK
  obtain ⟨rfl, hZ, hh⟩ := hP
  have hx := Bd.exec
  have hby := Bd.bytes
  have hml : c.maxLocals = 1 := hml0
  have hown : s.vm.findClass "java/lang/StringLatin1" = some m.cls := findClass_of_methodNamed Bd.named
  have hnm := (name_of_methodNamed Bd.named Bd.method).1
  have X0 : Stand p l e ({ frames := 0, cells := 1, slots := 1, locals := 0 } : Room) s m #[(.int p1)] below meth c s₁ [] 0 0 := Stand.of_body Bd
  have e0 : s₁.heap = h0 := by rw [← hh, Bd.state]; rfl
  have N0 := Fr.nil n0
  have pre0 : ∀ tG, Steps p.tables e below (s₁.setTop (mkF m 0 #[.val (.int p1)] [])) tG → Steps p.tables e below (s₁.setTop (entryFrame m #[(.int p1)] 1)) tG := fun tG kG => castTop (ef_rmTB m p1) kG
  obtain ⟨T3, h3, k3, X3, e3, E3, A3, B3, st3⟩ := newPE X0 hx hZ (own_w hw 30 rfl) e0 (g := (mkF m 1 #[.val (.int p1)] [(.int 1)])) rfl (hb hby d6_1) rfl (by decide) (cap := 1) (by decide) (by decide) (by decide) (by decide) (ad := "[B") (by decide)
  obtain ⟨b3, g3⟩ : ∃ z, z = h0.size := ⟨_, rfl⟩
  rw [← g3] at A3 B3 st3
  have E3' := E3
  have gg3 : n0 ≤ b3 := Nat.le_trans Z0 (Nat.le_of_eq g3.symm)
  have sz3 : h0.size ≤ b3 := Nat.le_trans (Keep.refl h0 []).1 (Nat.le_of_eq g3.symm)
  have Z3 : n0 ≤ h3.size := Nat.le_trans Z0 E3.1
  have K3 : Keep h0 h3 [] := (Keep.refl h0 []).ext E3
  have V3 : own_BA Z h3 b3 (1 : Int32) := ⟨B3, own_BV.new A3 (by decide)⟩
  have ja4 : ¬ (0 : Int32) < 0 := by decide
  have jb4 : (0 : Int32) < (1 : Int32) := by decide
  obtain ⟨kk4, vs4, ⟨cl4, Ar4, q4, S4, M4, H4, J4⟩, lv4⟩ := id V3.2
  obtain ⟨T4, h4, X4, e4, W4, st4⟩ := stB X3 hx hZ e3 Ar4 (j := (0 : Int32)) (inb_of S4 ⟨ja4, jb4⟩) (g := (mkF m 7 #[.val (.int p1)] [(.int (p1.toInt8.toInt32)), (.int 0), (.ref b3), (.ref b3)])) rfl rfl (hb hby d6_7)
  have V4 : own_BA Z h4 b3 (1 : Int32) := V3.st ja4 jb4 W4 (fits_nar_byte _)
  have N4 := Fr.snoc X4 N0 gg3
  have Z4 : n0 ≤ h4.size := Nat.le_trans Z3 (Keep.of_wr W4).1
  have K4 : Keep h0 h4 [] := K3.wr W4 (Or.inr sz3)
  obtain ⟨fs, hr, hrun, hended, hW, hsame⟩ := X4.leave (v := some (.ref b3)) (fun h => by rw [Bd.returns] at h; cases h)
  refine ⟨_, _, pre0 _ ?_, hrun, hended, _, _, rfl, ?_, ⟨_, rfl⟩, hW, hsame.mono (by decide) (by decide)⟩
  · refine own_iconst X0.here hx (1 : Int32) (hb hby d6_0) rfl ?_
    refine st3 _ ?_
    show Steps p.tables e below (T3.setTop (mkF m 3 #[.val (.int p1)] [(.ref b3)])) _
    refine own_dup X3.here hx (hb hby d6_3) rfl ?_
    refine own_iconst X3.here hx (0 : Int32) (hb hby d6_4) rfl ?_
    refine own_iloadN X3.here hx (hb hby d6_5) rfl ?_
    refine own_i2b X3.here hx (hb hby d6_6) ?_
    refine st4 _ ?_
    show Steps p.tables e below (T4.setTop (mkF m 8 #[.val (.int p1)] [(.ref b3)])) _
    jvm_step X4.here [X4.here.top, hx, (hb hby d6_8), X4.method', Bd.returns, Value.isRef, FieldType.isReference]
    first | (intro acts; rw [hr _ acts rfl rfl rfl]) | rw [hr _ _ rfl rfl rfl]
    exact Steps.refl _
  · show QTB Z p1 h0 n0 _ T4.heap _
    rw [e4]
    exact ⟨b3, rfl, N4, K4, sz3, V4⟩
theorem ef_rmSI (m : MethodId) (x0 : Addr) (x1 : Addr) (x2 : Int32) : entryFrame m #[(.ref x0), (.ref x1), (.int x2)] 3 = mkF m 0 #[.val (.ref x0), .val (.ref x1), .val (.int x2)] [] := by first | (simp [entryFrame, mkF, argsToLocals, Value.category]; done) | rfl
theorem pn_java_lang_String : plainName "java/lang/String" = true := by first | (simp [plainName, overriddenIn]; done) | decide +kernel
def QSI (Z : State) (a1 : Addr) (a2 : Addr) (h0 : Heap) (n0 : Nat) (v : Option Value) (h : Heap) (L : List Loc) : Prop := v = none ∧ Fr n0 L ∧ Keep h0 h [a1] ∧ Exa Z h a1 "java/lang/String" ∧ Fld Z h a1 "java/lang/String" "coder" "B" (.int 0) ∧ Fld Z h a1 "java/lang/String" "value" "[B" (.ref a2)
theorem d7_0 : decode jdk_42_method_151_code 0 = .ok (.aload_n 0, 1) := by decide +kernel
theorem d7_1 : decode jdk_42_method_151_code 1 = .ok (.invokespecial 1, 3) := by decide +kernel
theorem d7_4 : decode jdk_42_method_151_code 4 = .ok (.aload_n 0, 1) := by decide +kernel
theorem d7_5 : decode jdk_42_method_151_code 5 = .ok (.aload_n 1, 1) := by decide +kernel
theorem d7_6 : decode jdk_42_method_151_code 6 = .ok (.putfield 9, 3) := by decide +kernel
theorem d7_9 : decode jdk_42_method_151_code 9 = .ok (.aload_n 0, 1) := by decide +kernel
theorem d7_10 : decode jdk_42_method_151_code 10 = .ok (.iload_n 2, 1) := by decide +kernel
theorem d7_11 : decode jdk_42_method_151_code 11 = .ok (.putfield 15, 3) := by decide +kernel
theorem d7_14 : decode jdk_42_method_151_code 14 = .ok (.return_, 1) := by decide +kernel
set_option maxRecDepth 65536 in
set_option maxHeartbeats 40000000 in
theorem rmSI (l : Launch) (Z : State) (a0 : Array Value) (hw : ∀ d ∈ tables_1, d.before a0 Z = true) (ws : List Jvm.Cond) (a1 : Addr) (a2 : Addr) (h0 : Heap) (n0 : Nat) (Z0 : n0 ≤ h0.size) (E1 : Exa Z h0 a1 "java/lang/String") (g1 : n0 ≤ a1) (FV : Fld Z h0 a1 "java/lang/String" "value" "[B" .null) (FC : Fld Z h0 a1 "java/lang/String" "coder" "B" (.int 0)) :
    MetFree l (⟨"java/lang/String", "<init>", "([BB)V"⟩ : MethodName) (head1 (Jvm.Cond.code (⟨"java/lang/String", "<init>", "([BB)V"⟩ : MethodName) jdk_42_method_151_code 3 none :: ws) ({ frames := 1, cells := 0, slots := 0, locals := 12 } : Room)) (fun a U => a = #[(.ref a1), (.ref a2), (.int 0)] ∧ Z.Warmed39 U.vm ∧ U.heap = h0) (fun _ _ _ _ _ => True) (fun _ U o U' => ∃ v L, o = .returned v ∧ QSI Z a1 a2 h0 n0 v U'.heap L ∧ FrameEnd U o U' L ({ frames := 1, cells := 0, slots := 0, locals := 12 } : Room).cells ({ frames := 1, cells := 0, slots := 0, locals := 12 } : Room).slots) := by
  refine MetFree.of_bodySF (plainFor_of_name pn_java_lang_String) hisR ?_
  intro p e s m args below meth c s₁ Bd hml0 hP hK
  obtain ⟨rfl, hZ, hh⟩ := hP
  have hx := Bd.exec
  have hby := Bd.bytes
  have hml : c.maxLocals = 3 := hml0
  have hown : s.vm.findClass "java/lang/String" = some m.cls := findClass_of_methodNamed Bd.named
  have hnm := (name_of_methodNamed Bd.named Bd.method).1
  have X0 : Stand p l e ({ frames := 1, cells := 0, slots := 0, locals := 12 } : Room) s m #[(.ref a1), (.ref a2), (.int 0)] below meth c s₁ [] 0 0 := Stand.of_body Bd
  have e0 : s₁.heap = h0 := by rw [← hh, Bd.state]; rfl
  have N0 := Fr.nil n0
  have pre0 : ∀ tG, Steps p.tables e below (s₁.setTop (mkF m 0 #[.val (.ref a1), .val (.ref a2), .val (.int 0)] [])) tG → Steps p.tables e below (s₁.setTop (entryFrame m #[(.ref a1), (.ref a2), (.int 0)] 3)) tG := fun tG kG => castTop (ef_rmSI m a1 a2 (0 : Int32)) kG
  obtain ⟨T6, X6, e6, st6⟩ := initO X0 hx hZ hown (own_w hw 35 rfl) (own_w hw 7 rfl) (own_w hw 8 rfl) e0 (g := (mkF m 1 #[.val (.ref a1), .val (.ref a2), .val (.int 0)] [(.ref a1)])) rfl (by rw [hml]; rfl) rfl (hb hby d7_1) (by decide) (W := 0) (by show 2 * 0 + _ ≤ _; exact Nat.le_of_eq rfl) (by decide)
  obtain ⟨T7, h7, X7, e7, W7, st7⟩ := putF X6 hx hZ hown (host := "") (Or.inl (own_w hw 36 rfl)) Via.refl e6 FV E1 (Or.inr ⟨(own_w hw 37 rfl), rfl, hnm⟩) (own_w hw 26 rfl) (ty := (.array .byte)) (by decide) rfl rfl (g := (mkF m 6 #[.val (.ref a1), .val (.ref a2), .val (.int 0)] [(.ref a2), (.ref a1)])) rfl rfl (hb hby d7_6)
  have f8 : Exa Z h7 a1 "java/lang/String" := E1.wr W7
  have f10 : Fld Z h7 a1 "java/lang/String" "coder" "B" (.int 0) := FC.other W7 (Or.inr (slot_ne (Or.inr (own_w hw 39 rfl)) (Or.inr (own_w hw 37 rfl)) (by decide) (t := .byte) (t' := (.array .byte)) (by decide) (by decide)))
  have f11 : Fld Z h7 a1 "java/lang/String" "value" "[B" (.ref a2) := FV.same W7
  have N7 := Fr.snoc X7 N0 g1
  have Z7 : n0 ≤ h7.size := Nat.le_trans Z0 (Keep.of_wr W7).1
  have K7 : Keep h0 h7 [a1] := (Keep.refl h0 [a1]).wr W7 (Or.inl (List.mem_of_getElem? (i := 0) rfl))
  obtain ⟨T12, h12, X12, e12, W12, st12⟩ := putFN X7 hx hZ hown (own_w hw 38 rfl) Via.refl e7 f10 f8 (Or.inr ⟨(own_w hw 39 rfl), rfl, hnm⟩) (own_w hw 26 rfl) (ty := .byte) (v' := (.int 0)) (by decide) rfl (by decide) (g := (mkF m 11 #[.val (.ref a1), .val (.ref a2), .val (.int 0)] [(.int 0), (.ref a1)])) rfl rfl (hb hby d7_11)
  have f13 : Exa Z h12 a1 "java/lang/String" := f8.wr W12
  have f14 : Fld Z h12 a1 "java/lang/String" "value" "[B" (.ref a2) := f11.other W12 (Or.inr (slot_ne (Or.inr (own_w hw 37 rfl)) (Or.inr (own_w hw 39 rfl)) (by decide) (t := (.array .byte)) (t' := .byte) (by decide) (by decide)))
  have f16 : Fld Z h12 a1 "java/lang/String" "coder" "B" (.int 0) := f10.same W12
  have N12 := Fr.snoc X12 N7 g1
  have Z12 : n0 ≤ h12.size := Nat.le_trans Z7 (Keep.of_wr W12).1
  have K12 : Keep h0 h12 [a1] := K7.wr W12 (Or.inl (List.mem_of_getElem? (i := 0) rfl))
  obtain ⟨fs, hr, hrun, hended, hW, hsame⟩ := X12.leave (v := none) (fun _ => rfl)
  refine ⟨_, _, pre0 _ ?_, hrun, hended, _, _, rfl, ?_, ⟨_, rfl⟩, hW, hsame.mono (by decide) (by decide)⟩
  · refine own_aloadN X0.here hx (hb hby d7_0) rfl rfl ?_
    refine st6 _ ?_
    show Steps p.tables e below (T6.setTop (mkF m 4 #[.val (.ref a1), .val (.ref a2), .val (.int 0)] [])) _
    refine own_aloadN X6.here hx (hb hby d7_4) rfl rfl ?_
    refine own_aloadN X6.here hx (hb hby d7_5) rfl rfl ?_
    refine st7 _ ?_
    show Steps p.tables e below (T7.setTop (mkF m 9 #[.val (.ref a1), .val (.ref a2), .val (.int 0)] [])) _
    refine own_aloadN X7.here hx (hb hby d7_9) rfl rfl ?_
    refine own_iloadN X7.here hx (hb hby d7_10) rfl ?_
    refine st12 _ ?_
    show Steps p.tables e below (T12.setTop (mkF m 14 #[.val (.ref a1), .val (.ref a2), .val (.int 0)] [])) _
    exact X12.returnOut hx Bd.returns (hb hby d7_14) hr
  · show QSI Z a1 a2 h0 n0 _ T12.heap _
    rw [e12]
    exact ⟨rfl, N12, K12, f13, f16, f14⟩
theorem ef_rmVO (m : MethodId) (x0 : Int32) : entryFrame m #[(.int x0)] 1 = mkF m 0 #[.val (.int x0)] [] := by first | (simp [entryFrame, mkF, argsToLocals, Value.category]; done) | rfl
def QVO (Z : State) (p1 : Int32) (kc : Int32) (h0 : Heap) (n0 : Nat) (v : Option Value) (h : Heap) (L : List Loc) : Prop := ∃ b d, v = some (.ref b) ∧ Fr n0 L ∧ Keep h0 h [] ∧ h0.size ≤ b ∧ h0.size ≤ d ∧ Exa Z h b "java/lang/String" ∧ Fld Z h b "java/lang/String" "coder" "B" (.int 0) ∧ Fld Z h b "java/lang/String" "value" "[B" (.ref d) ∧ own_BA Z h d 1
theorem d4_0 : decode jdk_42_method_139_code 0 = .ok (.getstatic 38, 3) := by decide +kernel
theorem d4_3 : decode jdk_42_method_139_code 3 = .ok (.ifCond .eq 23, 3) := by decide +kernel
theorem d4_6 : decode jdk_42_method_139_code 6 = .ok (.iload_n 0, 1) := by decide +kernel
theorem d4_7 : decode jdk_42_method_139_code 7 = .ok (.invokestatic 1015, 3) := by decide +kernel
theorem pd_28C29Z : parseMethodDescriptor "(C)Z" = some ⟨[.char], some .boolean⟩ := by decide +kernel
theorem d4_10 : decode jdk_42_method_139_code 10 = .ok (.ifCond .eq 16, 3) := by decide +kernel
theorem d4_13 : decode jdk_42_method_139_code 13 = .ok (.new 10, 3) := by decide +kernel
theorem d4_16 : decode jdk_42_method_139_code 16 = .ok (.dup, 1) := by decide +kernel
theorem d4_17 : decode jdk_42_method_139_code 17 = .ok (.iload_n 0, 1) := by decide +kernel
theorem d4_18 : decode jdk_42_method_139_code 18 = .ok (.invokestatic 1018, 3) := by decide +kernel
theorem pd_28C295bB : parseMethodDescriptor "(C)[B" = some ⟨[.char], some (.array .byte)⟩ := by decide +kernel
theorem d4_21 : decode jdk_42_method_139_code 21 = .ok (.iconst 0, 1) := by decide +kernel
theorem d4_22 : decode jdk_42_method_139_code 22 = .ok (.invokespecial 209, 3) := by decide +kernel
theorem pd_285bBB29V : parseMethodDescriptor "([BB)V" = some ⟨[(.array .byte), .byte], none⟩ := by decide +kernel
theorem d4_25 : decode jdk_42_method_139_code 25 = .ok (.areturn, 1) := by decide +kernel
set_option maxRecDepth 65536 in
set_option maxHeartbeats 40000000 in
theorem rmVO (l : Launch) (Z : State) (a0 : Array Value) (hw : ∀ d ∈ tables_1, d.before a0 Z = true) (ws : List Jvm.Cond) (p1 : Int32) (kc : Int32) (h0 : Heap) (n0 : Nat) (Z0 : n0 ≤ h0.size) (SC : Sta Z h0 "java/lang/String" "COMPACT_STRINGS" "Z" (.int kc)) (hkc : ¬ kc = (0 : Int32)) (g1 : ¬ (255 : Int32) < p1) :
    MetFree l (⟨"java/lang/String", "valueOf", "(C)Ljava/lang/String;"⟩ : MethodName) (head1 (Jvm.Cond.code (⟨"java/lang/String", "valueOf", "(C)Ljava/lang/String;"⟩ : MethodName) jdk_42_method_139_code 1 (some (.object "java/lang/String")) :: ws) ({ frames := 2, cells := 2, slots := 5, locals := 27 } : Room)) (fun a U => a = #[(.int p1)] ∧ Z.Warmed39 U.vm ∧ U.heap = h0) (fun _ _ _ _ _ => True) (fun _ U o U' => ∃ v L, o = .returned v ∧ QVO Z p1 kc h0 n0 v U'.heap L ∧ FrameEnd U o U' L ({ frames := 2, cells := 2, slots := 5, locals := 27 } : Room).cells ({ frames := 2, cells := 2, slots := 5, locals := 27 } : Room).slots) := by
  refine MetFree.of_bodySF (plainFor_of_name pn_java_lang_String) hisR ?_
  intro p e s m args below meth c s₁ Bd hml0 hP hK
  obtain ⟨rfl, hZ, hh⟩ := hP
  have hx := Bd.exec
  have hby := Bd.bytes
  have hml : c.maxLocals = 1 := hml0
  have hown : s.vm.findClass "java/lang/String" = some m.cls := findClass_of_methodNamed Bd.named
  have hnm := (name_of_methodNamed Bd.named Bd.method).1
  have X0 : Stand p l e ({ frames := 2, cells := 2, slots := 5, locals := 27 } : Room) s m #[(.int p1)] below meth c s₁ [] 0 0 := Stand.of_body Bd
  have e0 : s₁.heap = h0 := by rw [← hh, Bd.state]; rfl
  have N0 := Fr.nil n0
  have pre0 : ∀ tG, Steps p.tables e below (s₁.setTop (mkF m 0 #[.val (.int p1)] [])) tG → Steps p.tables e below (s₁.setTop (entryFrame m #[(.int p1)] 1)) tG := fun tG kG => castTop (ef_rmVO m p1) kG
  obtain ⟨T17, X17, e17, st17⟩ := getS2 X0 hx hZ hown (host := "") (Or.inl (own_w hw 20 rfl)) Via.refl e0 SC (g := (mkF m 0 #[.val (.int p1)] [])) rfl (hb hby d4_0)
  obtain ⟨_, _, ⟨T18, L18, k18, n18⟩, -, X18, ⟨Lc18, hQ18, l18, y18, z18⟩, st18⟩ := Jvm.LawKit.callS X17 hx (y := (⟨"java/lang/StringLatin1", "canEncode", "(C)Z"⟩ : MethodName)) hown (mvT hZ (own_w hw 21 rfl)) (mvT hZ (own_w hw 22 rfl)) (mvT hZ (own_w hw 23 rfl)) (mvT hZ (own_w hw 24 rfl)) (by decide) (backOf (W := 0) (rmCE l Z a0 hw [] p1 h0 n0 Z0 g1) hZ (own_w hw 24 rfl) (own_w hw 23 rfl) (by decide) (by decide)) (g := (mkF m 7 #[.val (.int p1)] [(.int p1)])) rfl (by rw [hml]; rfl) (argsL := [(.int p1)]) (rest := []) (lenOf pd_28C29Z rfl) rfl (by show 2 * 0 + _ ≤ _; exact Nat.le_of_eq rfl) (hb hby d4_7) (fun _ _ => ⟨rfl, e17, (by decide : 0 + 0 ≤ _), (by decide : 0 + 0 ≤ _)⟩)
  dsimp only [Pt.U, Pt.locs, Pt.cells, Pt.slots] at X18 l18 y18 z18 st18 hQ18
  subst l18 y18 z18
  obtain ⟨rfl, N18q, e18⟩ := hQ18
  have N18 := Fr.app N0 N18q
  obtain ⟨T19, h19, X19, e19, E19, A19, D19, -, st19⟩ := newO X18 hx hZ hown (own_w hw 25 rfl) (own_w hw 26 rfl) (own_w hw 18 rfl) e18 (g := (mkF m 13 #[.val (.int p1)] [])) rfl (hb hby d4_13) (by decide) (by decide)
  obtain ⟨b19, g19⟩ : ∃ z, z = h0.size := ⟨_, rfl⟩
  rw [← g19] at A19 D19 st19
  have E19' := E19
  have gg19 : n0 ≤ b19 := Nat.le_trans Z0 (Nat.le_of_eq g19.symm)
  have sz19 : h0.size ≤ b19 := Nat.le_trans (Keep.refl h0 []).1 (Nat.le_of_eq g19.symm)
  have Z19 : n0 ≤ h19.size := Nat.le_trans Z0 E19.1
  have K19 : Keep h0 h19 [] := (Keep.refl h0 []).ext E19
  have f20 : Sta Z h19 "java/lang/String" "COMPACT_STRINGS" "Z" (.int kc) := SC.ext E19
  have f21 : Fld Z h19 b19 "java/lang/String" "value" "[B" .null := D19 (Or.inr (own_w hw 37 rfl)) (ty := (.array .byte)) (by decide)
  have f22 : Fld Z h19 b19 "java/lang/String" "coder" "B" (.int 0) := D19 (Or.inr (own_w hw 39 rfl)) (ty := .byte) (by decide)
  obtain ⟨_, _, ⟨T23, L23, k23, n23⟩, -, X23, ⟨Lc23, hQ23, l23, y23, z23⟩, st23⟩ := Jvm.LawKit.callS X19 hx (y := (⟨"java/lang/StringLatin1", "toBytes", "(C)[B"⟩ : MethodName)) hown (mvT hZ (own_w hw 27 rfl)) (mvT hZ (own_w hw 28 rfl)) (mvT hZ (own_w hw 23 rfl)) (mvT hZ (own_w hw 29 rfl)) (by decide) (backOf (W := 2) (rmTB l Z a0 hw [] p1 h19 n0 Z19) hZ (own_w hw 29 rfl) (own_w hw 23 rfl) (by decide) (by decide)) (g := (mkF m 18 #[.val (.int p1)] [(.int p1), (.ref b19), (.ref b19)])) rfl (by rw [hml]; rfl) (argsL := [(.int p1)]) (rest := [(.ref b19), (.ref b19)]) (lenOf pd_28C295bB rfl) rfl (by show 2 * 0 + _ ≤ _; exact Nat.le_of_eq rfl) (hb hby d4_18) (fun _ _ => ⟨rfl, e19, (by decide : 1 + 1 ≤ _), (by decide : 4 + 1 ≤ _)⟩)
  dsimp only [Pt.U, Pt.locs, Pt.cells, Pt.slots] at X23 l23 y23 z23 st23 hQ23
  subst l23 y23 z23
  obtain ⟨c23, rfl, N23q, Kq23, lt23, BA23⟩ := hQ23
  have gg23_c23 : n0 ≤ c23 := Nat.le_trans Z19 lt23
  have sz23_c23 : h0.size ≤ c23 := Nat.le_trans K19.1 lt23
  have ne24 : b19 ≠ c23 := Nat.ne_of_lt (Nat.lt_of_lt_of_le A19.lt lt23)
  have N23 := Fr.app N18 N23q
  have Z23 : n0 ≤ T23.heap.size := Nat.le_trans Z19 Kq23.1
  have K23 : Keep h0 T23.heap [] := K19.trans Kq23 all0
  have f25 : Sta Z T23.heap "java/lang/String" "COMPACT_STRINGS" "Z" (.int kc) := own_sta_keep f20 Kq23 ns0
  have f26 : Exa Z T23.heap b19 "java/lang/String" := A19.keep Kq23
  have f27 : Fld Z T23.heap b19 "java/lang/String" "value" "[B" .null := f21.keep Kq23 nin0
  have f28 : Fld Z T23.heap b19 "java/lang/String" "coder" "B" (.int 0) := f22.keep Kq23 nin0
  obtain ⟨_, _, ⟨T29, L29, k29, n29⟩, -, X29, ⟨Lc29, hQ29, l29, y29, z29⟩, st29⟩ := X23.specialBack hx (y := (⟨"java/lang/String", "<init>", "([BB)V"⟩ : MethodName)) rfl hown (mvT hZ (own_w hw 31 rfl)) (mvT hZ (own_w hw 32 rfl)) (mvT hZ (own_w hw 34 rfl)) (by decide) (backOf (W := 1) (rmSI l Z a0 hw [] b19 c23 T23.heap n0 Z23 f26 gg19 f27 f28) hZ (own_w hw 34 rfl) (own_w hw 18 rfl) (by decide) (by decide)) (g := (mkF m 22 #[.val (.int p1)] [(.int 0), (.ref c23), (.ref b19), (.ref b19)])) rfl (by rw [hml]; rfl) (Steps.refl _) (a := b19) (argsL := [(.ref c23), (.int 0)]) (rest := [(.ref b19)]) (lenOf pd_285bBB29V rfl) rfl (by show 2 * 0 + _ ≤ _; exact Nat.le_of_eq rfl) (hb hby d4_22) (fun _ _ => ⟨rfl, rfl, (by decide : 2 + 0 ≤ _), (by decide : 5 + 0 ≤ _)⟩)
  dsimp only [Pt.U, Pt.locs, Pt.cells, Pt.slots] at X29 l29 y29 z29 st29 hQ29
  subst l29 y29 z29
  obtain ⟨rfl, N29q, Kq29, E29x, FC29x, FV29x⟩ := hQ29
  have N29 := Fr.app N23 N29q
  have Z29 : n0 ≤ T29.heap.size := Nat.le_trans Z23 Kq29.1
  have K29 : Keep h0 T29.heap [] := K23.trans Kq29 (allS (Or.inr sz19) all0)
  have f30 : Sta Z T29.heap "java/lang/String" "COMPACT_STRINGS" "Z" (.int kc) := own_sta_keep f25 Kq29 (nsS f26.nostat ns0)
  have f31 : Exa Z T29.heap b19 "java/lang/String" := f26.keep Kq29
  have f34 : own_BA Z T29.heap c23 (1 : Int32) := BA23.keep Kq29 (ninS (Ne.symm ne24) nin0)
  obtain ⟨fs, hr, hrun, hended, hW, hsame⟩ := X29.leave (v := some (.ref b19)) (fun h => by rw [Bd.returns] at h; cases h)
  refine ⟨_, _, pre0 _ ?_, hrun, hended, _, _, rfl, ?_, ⟨_, rfl⟩, hW, hsame.mono (by decide) (by decide)⟩
  · refine st17 _ ?_
    show Steps p.tables e below (T17.setTop (mkF m 3 #[.val (.int p1)] [(.int kc)])) _
    refine own_ifNo X17.here hx (hb hby d4_3) ((if0 _ _).trans (feq hkc).1) ?_
    refine own_iloadN X17.here hx (hb hby d4_6) rfl ?_
    refine st18 _ ?_
    show Steps p.tables e below (T18.setTop (mkF m 10 #[.val (.int p1)] [(.int 1)])) _
    refine own_ifNo X18.here hx (hb hby d4_10) ((if0 _ _).trans (feq (by decide : ¬ ((1 : Int32) = (0 : Int32)))).1) ?_
    refine st19 _ ?_
    show Steps p.tables e below (T19.setTop (mkF m 16 #[.val (.int p1)] [(.ref b19)])) _
    refine own_dup X19.here hx (hb hby d4_16) rfl ?_
    refine own_iloadN X19.here hx (hb hby d4_17) rfl ?_
    refine st23 _ ?_
    show Steps p.tables e below (T23.setTop (mkF m 21 #[.val (.int p1)] [(.ref c23), (.ref b19), (.ref b19)])) _
    refine own_iconst X23.here hx (0 : Int32) (hb hby d4_21) rfl ?_
    refine st29.trans ?_
    show Steps p.tables e below (T29.setTop (mkF m 25 #[.val (.int p1)] [(.ref b19)])) _
    jvm_step X29.here [X29.here.top, hx, (hb hby d4_25), X29.method', Bd.returns, Value.isRef, FieldType.isReference]
    first | (intro acts; rw [hr _ acts rfl rfl rfl]) | rw [hr _ _ rfl rfl rfl]
    exact Steps.refl _
  · show QVO Z p1 kc h0 n0 _ T29.heap _
    exact ⟨b19, c23, rfl, N29, K29, sz19, sz23_c23, E29x, FC29x, FV29x, f34⟩
theorem ef_rmAC (m : MethodId) (x0 : Addr) : entryFrame m #[(.ref x0)] 1 = mkF m 0 #[.val (.ref x0)] [] := by first | (simp [entryFrame, mkF, argsToLocals, Value.category]; done) | rfl
theorem pn_java_util_AbstractCollection : plainName "java/util/AbstractCollection" = true := by first | (simp [plainName, overriddenIn]; done) | decide +kernel
def QAC (Z : State) (a1 : Addr) (h0 : Heap) (n0 : Nat) (v : Option Value) (h : Heap) (L : List Loc) : Prop := v = none ∧ Fr n0 L ∧ h = h0
theorem d13_0 : decode jdk_22_method_1_code 0 = .ok (.aload_n 0, 1) := by decide +kernel
theorem d13_1 : decode jdk_22_method_1_code 1 = .ok (.invokespecial 1, 3) := by decide +kernel
theorem d13_4 : decode jdk_22_method_1_code 4 = .ok (.return_, 1) := by decide +kernel
set_option maxRecDepth 65536 in
set_option maxHeartbeats 40000000 in
theorem rmAC (l : Launch) (Z : State) (a0 : Array Value) (hw : ∀ d ∈ tables_1, d.before a0 Z = true) (ws : List Jvm.Cond) (a1 : Addr) (h0 : Heap) (n0 : Nat) (Z0 : n0 ≤ h0.size) :
    MetFree l (⟨"java/util/AbstractCollection", "<init>", "()V"⟩ : MethodName) (head1 (Jvm.Cond.code (⟨"java/util/AbstractCollection", "<init>", "()V"⟩ : MethodName) jdk_22_method_1_code 1 none :: ws) ({ frames := 1, cells := 0, slots := 0, locals := 12 } : Room)) (fun a U => a = #[(.ref a1)] ∧ Z.Warmed39 U.vm ∧ U.heap = h0) (fun _ _ _ _ _ => True) (fun _ U o U' => ∃ v L, o = .returned v ∧ QAC Z a1 h0 n0 v U'.heap L ∧ FrameEnd U o U' L ({ frames := 1, cells := 0, slots := 0, locals := 12 } : Room).cells ({ frames := 1, cells := 0, slots := 0, locals := 12 } : Room).slots) := by
  refine MetFree.of_bodySF (plainFor_of_name pn_java_util_AbstractCollection) hisR ?_
  intro p e s m args below meth c s₁ Bd hml0 hP hK
  obtain ⟨rfl, hZ, hh⟩ := hP
  have hx := Bd.exec
  have hby := Bd.bytes
  have hml : c.maxLocals = 1 := hml0
  have hown : s.vm.findClass "java/util/AbstractCollection" = some m.cls := findClass_of_methodNamed Bd.named
  have hnm := (name_of_methodNamed Bd.named Bd.method).1
  have X0 : Stand p l e ({ frames := 1, cells := 0, slots := 0, locals := 12 } : Room) s m #[(.ref a1)] below meth c s₁ [] 0 0 := Stand.of_body Bd
  have e0 : s₁.heap = h0 := by rw [← hh, Bd.state]; rfl
  have N0 := Fr.nil n0
  have pre0 : ∀ tG, Steps p.tables e below (s₁.setTop (mkF m 0 #[.val (.ref a1)] [])) tG → Steps p.tables e below (s₁.setTop (entryFrame m #[(.ref a1)] 1)) tG := fun tG kG => castTop (ef_rmAC m a1) kG
  obtain ⟨T35, X35, e35, st35⟩ := initO X0 hx hZ hown (own_w hw 73 rfl) (own_w hw 7 rfl) (own_w hw 8 rfl) e0 (g := (mkF m 1 #[.val (.ref a1)] [(.ref a1)])) rfl (by rw [hml]; rfl) rfl (hb hby d13_1) (by decide) (W := 0) (by show 2 * 0 + _ ≤ _; exact Nat.le_of_eq rfl) (by decide)
  obtain ⟨fs, hr, hrun, hended, hW, hsame⟩ := X35.leave (v := none) (fun _ => rfl)
  refine ⟨_, _, pre0 _ ?_, hrun, hended, _, _, rfl, ?_, ⟨_, rfl⟩, hW, hsame.mono (by decide) (by decide)⟩
  · refine own_aloadN X0.here hx (hb hby d13_0) rfl rfl ?_
    refine st35 _ ?_
    show Steps p.tables e below (T35.setTop (mkF m 4 #[.val (.ref a1)] [])) _
    exact X35.returnOut hx Bd.returns (hb hby d13_4) hr
  · show QAC Z a1 h0 n0 _ T35.heap _
    rw [e35]
    exact ⟨rfl, N0, rfl⟩
theorem ef_rmAB (m : MethodId) (x0 : Addr) : entryFrame m #[(.ref x0)] 1 = mkF m 0 #[.val (.ref x0)] [] := by first | (simp [entryFrame, mkF, argsToLocals, Value.category]; done) | rfl
theorem pn_java_util_AbstractList : plainName "java/util/AbstractList" = true := by first | (simp [plainName, overriddenIn]; done) | decide +kernel
def QAB (Z : State) (a1 : Addr) (h0 : Heap) (n0 : Nat) (v : Option Value) (h : Heap) (L : List Loc) : Prop := v = none ∧ Fr n0 L ∧ Keep h0 h [a1] ∧ Exa Z h a1 "java/util/ArrayList" ∧ Fld Z h a1 "java/util/AbstractList" "modCount" "I" (.int 0) ∧ Fld Z h a1 "java/util/ArrayList" "elementData" "[Ljava/lang/Object;" .null ∧ Fld Z h a1 "java/util/ArrayList" "size" "I" (.int 0)
theorem d12_0 : decode jdk_39_method_1_code 0 = .ok (.aload_n 0, 1) := by decide +kernel
theorem d12_1 : decode jdk_39_method_1_code 1 = .ok (.invokespecial 1, 3) := by decide +kernel
theorem pd_2829V : parseMethodDescriptor "()V" = some ⟨[], none⟩ := by decide +kernel
theorem d12_4 : decode jdk_39_method_1_code 4 = .ok (.aload_n 0, 1) := by decide +kernel
theorem d12_5 : decode jdk_39_method_1_code 5 = .ok (.iconst 0, 1) := by decide +kernel
theorem d12_6 : decode jdk_39_method_1_code 6 = .ok (.putfield 7, 3) := by decide +kernel
theorem d12_9 : decode jdk_39_method_1_code 9 = .ok (.return_, 1) := by decide +kernel
set_option maxRecDepth 65536 in
set_option maxHeartbeats 40000000 in
theorem rmAB (l : Launch) (Z : State) (a0 : Array Value) (hw : ∀ d ∈ tables_1, d.before a0 Z = true) (ws : List Jvm.Cond) (a1 : Addr) (h0 : Heap) (n0 : Nat) (Z0 : n0 ≤ h0.size) (E_a1 : Exa Z h0 a1 "java/util/ArrayList") (g_a1 : n0 ≤ a1) (F_modCount : Fld Z h0 a1 "java/util/AbstractList" "modCount" "I" (.int 0)) (F_elementData : Fld Z h0 a1 "java/util/ArrayList" "elementData" "[Ljava/lang/Object;" .null) (F_size : Fld Z h0 a1 "java/util/ArrayList" "size" "I" (.int 0)) :
    MetFree l (⟨"java/util/AbstractList", "<init>", "()V"⟩ : MethodName) (head1 (Jvm.Cond.code (⟨"java/util/AbstractList", "<init>", "()V"⟩ : MethodName) jdk_39_method_1_code 1 none :: ws) ({ frames := 2, cells := 0, slots := 0, locals := 24 } : Room)) (fun a U => a = #[(.ref a1)] ∧ Z.Warmed39 U.vm ∧ U.heap = h0) (fun _ _ _ _ _ => True) (fun _ U o U' => ∃ v L, o = .returned v ∧ QAB Z a1 h0 n0 v U'.heap L ∧ FrameEnd U o U' L ({ frames := 2, cells := 0, slots := 0, locals := 24 } : Room).cells ({ frames := 2, cells := 0, slots := 0, locals := 24 } : Room).slots) := by
  refine MetFree.of_bodySF (plainFor_of_name pn_java_util_AbstractList) hisR ?_
  intro p e s m args below meth c s₁ Bd hml0 hP hK
  obtain ⟨rfl, hZ, hh⟩ := hP
  have hx := Bd.exec
  have hby := Bd.bytes
  have hml : c.maxLocals = 1 := hml0
  have hown : s.vm.findClass "java/util/AbstractList" = some m.cls := findClass_of_methodNamed Bd.named
  have hnm := (name_of_methodNamed Bd.named Bd.method).1
  have X0 : Stand p l e ({ frames := 2, cells := 0, slots := 0, locals := 24 } : Room) s m #[(.ref a1)] below meth c s₁ [] 0 0 := Stand.of_body Bd
  have e0 : s₁.heap = h0 := by rw [← hh, Bd.state]; rfl
  have N0 := Fr.nil n0
  have pre0 : ∀ tG, Steps p.tables e below (s₁.setTop (mkF m 0 #[.val (.ref a1)] [])) tG → Steps p.tables e below (s₁.setTop (entryFrame m #[(.ref a1)] 1)) tG := fun tG kG => castTop (ef_rmAB m a1) kG
  obtain ⟨_, _, ⟨T36, L36, k36, n36⟩, -, X36, ⟨Lc36, hQ36, l36, y36, z36⟩, st36⟩ := X0.specialBack hx (y := (⟨"java/util/AbstractCollection", "<init>", "()V"⟩ : MethodName)) rfl hown (mvT hZ (own_w hw 67 rfl)) (mvT hZ (own_w hw 68 rfl)) (mvT hZ (own_w hw 72 rfl)) (by decide) (backOf (W := 0) (rmAC l Z a0 hw [] a1 h0 n0 Z0) hZ (own_w hw 72 rfl) (own_w hw 71 rfl) (by decide) (by decide)) (g := (mkF m 1 #[.val (.ref a1)] [(.ref a1)])) rfl (by rw [hml]; rfl) (Steps.refl _) (a := a1) (argsL := []) (rest := []) (lenOf pd_2829V rfl) rfl (by show 2 * 0 + _ ≤ _; exact Nat.le_of_eq rfl) (hb hby d12_1) (fun _ _ => ⟨rfl, e0, (by decide : 0 + 0 ≤ _), (by decide : 0 + 0 ≤ _)⟩)
  dsimp only [Pt.U, Pt.locs, Pt.cells, Pt.slots] at X36 l36 y36 z36 st36 hQ36
  subst l36 y36 z36
  obtain ⟨rfl, N36q, e36⟩ := hQ36
  have N36 := Fr.app N0 N36q
  obtain ⟨T37, h37, X37, e37, W37, st37⟩ := putF X36 hx hZ hown (host := "") (Or.inl (own_w hw 74 rfl)) Via.refl e36 F_modCount E_a1 (Or.inl (own_w hw 75 rfl)) (own_w hw 56 rfl) (ty := .int) (by decide) rfl rfl (g := (mkF m 6 #[.val (.ref a1)] [(.int 0), (.ref a1)])) rfl rfl (hb hby d12_6)
  have f38 : Exa Z h37 a1 "java/util/ArrayList" := E_a1.wr W37
  have f40 : Fld Z h37 a1 "java/util/ArrayList" "elementData" "[Ljava/lang/Object;" .null := F_elementData.other W37 (Or.inr (slot_ne (Or.inl (own_w hw 78 rfl)) (Or.inl (own_w hw 75 rfl)) (by decide) (t := (.array (.object "java/lang/Object"))) (t' := .int) (by decide) (by decide)))
  have f41 : Fld Z h37 a1 "java/util/ArrayList" "size" "I" (.int 0) := F_size.other W37 (Or.inr (slot_ne (Or.inl (own_w hw 91 rfl)) (Or.inl (own_w hw 75 rfl)) (by decide) (t := .int) (t' := .int) (by decide) (by decide)))
  have f42 : Fld Z h37 a1 "java/util/AbstractList" "modCount" "I" (.int 0) := F_modCount.same W37
  have N37 := Fr.snoc X37 N36 g_a1
  have Z37 : n0 ≤ h37.size := Nat.le_trans Z0 (Keep.of_wr W37).1
  have K37 : Keep h0 h37 [a1] := (Keep.refl h0 [a1]).wr W37 (Or.inl (List.mem_of_getElem? (i := 0) rfl))
  obtain ⟨fs, hr, hrun, hended, hW, hsame⟩ := X37.leave (v := none) (fun _ => rfl)
  refine ⟨_, _, pre0 _ ?_, hrun, hended, _, _, rfl, ?_, ⟨_, rfl⟩, hW, hsame.mono (by decide) (by decide)⟩
  · refine own_aloadN X0.here hx (hb hby d12_0) rfl rfl ?_
    refine st36.trans ?_
    show Steps p.tables e below (T36.setTop (mkF m 4 #[.val (.ref a1)] [])) _
    refine own_aloadN X36.here hx (hb hby d12_4) rfl rfl ?_
    refine own_iconst X36.here hx (0 : Int32) (hb hby d12_5) rfl ?_
    refine st37 _ ?_
    show Steps p.tables e below (T37.setTop (mkF m 9 #[.val (.ref a1)] [])) _
    exact X37.returnOut hx Bd.returns (hb hby d12_9) hr
  · show QAB Z a1 h0 n0 _ T37.heap _
    rw [e37]
    exact ⟨rfl, N37, K37, f38, f42, f40, f41⟩
theorem ef_rmAL (m : MethodId) (x0 : Addr) : entryFrame m #[(.ref x0)] 1 = mkF m 0 #[.val (.ref x0)] [] := by first | (simp [entryFrame, mkF, argsToLocals, Value.category]; done) | rfl
theorem pn_java_util_ArrayList : plainName "java/util/ArrayList" = true := by first | (simp [plainName, overriddenIn]; done) | decide +kernel
def QAL (Z : State) (a1 : Addr) (aD : Addr) (h0 : Heap) (n0 : Nat) (v : Option Value) (h : Heap) (L : List Loc) : Prop := v = none ∧ Fr n0 L ∧ Keep h0 h [a1] ∧ Exa Z h a1 "java/util/ArrayList" ∧ Fld Z h a1 "java/util/AbstractList" "modCount" "I" (.int 0) ∧ Fld Z h a1 "java/util/ArrayList" "elementData" "[Ljava/lang/Object;" (.ref aD) ∧ Fld Z h a1 "java/util/ArrayList" "size" "I" (.int 0)
theorem d11_0 : decode jdk_38_method_2_code 0 = .ok (.aload_n 0, 1) := by decide +kernel
theorem d11_1 : decode jdk_38_method_2_code 1 = .ok (.invokespecial 1, 3) := by decide +kernel
theorem d11_4 : decode jdk_38_method_2_code 4 = .ok (.aload_n 0, 1) := by decide +kernel
theorem d11_5 : decode jdk_38_method_2_code 5 = .ok (.getstatic 39, 3) := by decide +kernel
theorem d11_8 : decode jdk_38_method_2_code 8 = .ok (.putfield 9, 3) := by decide +kernel
theorem d11_11 : decode jdk_38_method_2_code 11 = .ok (.return_, 1) := by decide +kernel
set_option maxRecDepth 65536 in
set_option maxHeartbeats 40000000 in
theorem rmAL (l : Launch) (Z : State) (a0 : Array Value) (hw : ∀ d ∈ tables_1, d.before a0 Z = true) (ws : List Jvm.Cond) (a1 : Addr) (aD : Addr) (h0 : Heap) (n0 : Nat) (Z0 : n0 ≤ h0.size) (E_a1 : Exa Z h0 a1 "java/util/ArrayList") (g_a1 : n0 ≤ a1) (F_modCount : Fld Z h0 a1 "java/util/AbstractList" "modCount" "I" (.int 0)) (F_elementData : Fld Z h0 a1 "java/util/ArrayList" "elementData" "[Ljava/lang/Object;" .null) (F_size : Fld Z h0 a1 "java/util/ArrayList" "size" "I" (.int 0)) (SD : Sta Z h0 "java/util/ArrayList" "DEFAULTCAPACITY_EMPTY_ELEMENTDATA" "[Ljava/lang/Object;" (.ref aD)) :
    MetFree l (⟨"java/util/ArrayList", "<init>", "()V"⟩ : MethodName) (head1 (Jvm.Cond.code (⟨"java/util/ArrayList", "<init>", "()V"⟩ : MethodName) jdk_38_method_2_code 1 none :: ws) ({ frames := 3, cells := 0, slots := 0, locals := 36 } : Room)) (fun a U => a = #[(.ref a1)] ∧ Z.Warmed39 U.vm ∧ U.heap = h0) (fun _ _ _ _ _ => True) (fun _ U o U' => ∃ v L, o = .returned v ∧ QAL Z a1 aD h0 n0 v U'.heap L ∧ FrameEnd U o U' L ({ frames := 3, cells := 0, slots := 0, locals := 36 } : Room).cells ({ frames := 3, cells := 0, slots := 0, locals := 36 } : Room).slots) := by
  refine MetFree.of_bodySF (plainFor_of_name pn_java_util_ArrayList) hisR ?_
  intro p e s m args below meth c s₁ Bd hml0 hP hK
  obtain ⟨rfl, hZ, hh⟩ := hP
  have hx := Bd.exec
  have hby := Bd.bytes
  have hml : c.maxLocals = 1 := hml0
  have hown : s.vm.findClass "java/util/ArrayList" = some m.cls := findClass_of_methodNamed Bd.named
  have hnm := (name_of_methodNamed Bd.named Bd.method).1
  have X0 : Stand p l e ({ frames := 3, cells := 0, slots := 0, locals := 36 } : Room) s m #[(.ref a1)] below meth c s₁ [] 0 0 := Stand.of_body Bd
  have e0 : s₁.heap = h0 := by rw [← hh, Bd.state]; rfl
  have N0 := Fr.nil n0
  have pre0 : ∀ tG, Steps p.tables e below (s₁.setTop (mkF m 0 #[.val (.ref a1)] [])) tG → Steps p.tables e below (s₁.setTop (entryFrame m #[(.ref a1)] 1)) tG := fun tG kG => castTop (ef_rmAL m a1) kG
  obtain ⟨_, _, ⟨T43, L43, k43, n43⟩, -, X43, ⟨Lc43, hQ43, l43, y43, z43⟩, st43⟩ := X0.specialBack hx (y := (⟨"java/util/AbstractList", "<init>", "()V"⟩ : MethodName)) rfl hown (mvT hZ (own_w hw 61 rfl)) (mvT hZ (own_w hw 62 rfl)) (mvT hZ (own_w hw 66 rfl)) (by decide) (backOf (W := 0) (rmAB l Z a0 hw [] a1 h0 n0 Z0 E_a1 g_a1 F_modCount F_elementData F_size) hZ (own_w hw 66 rfl) (own_w hw 65 rfl) (by decide) (by decide)) (g := (mkF m 1 #[.val (.ref a1)] [(.ref a1)])) rfl (by rw [hml]; rfl) (Steps.refl _) (a := a1) (argsL := []) (rest := []) (lenOf pd_2829V rfl) rfl (by show 2 * 0 + _ ≤ _; exact Nat.le_of_eq rfl) (hb hby d11_1) (fun _ _ => ⟨rfl, e0, (by decide : 0 + 0 ≤ _), (by decide : 0 + 0 ≤ _)⟩)
  dsimp only [Pt.U, Pt.locs, Pt.cells, Pt.slots] at X43 l43 y43 z43 st43 hQ43
  subst l43 y43 z43
  obtain ⟨rfl, N43q, Kq43, E43x, F43_modCount, F43_elementData, F43_size⟩ := hQ43
  have N43 := Fr.app N0 N43q
  have Z43 : n0 ≤ T43.heap.size := Nat.le_trans Z0 Kq43.1
  have K43 : Keep h0 T43.heap [a1] := (Keep.refl h0 [a1]).trans Kq43 (allS (Or.inl (List.mem_of_getElem? (i := 0) rfl)) all0)
  have f44 : Exa Z T43.heap a1 "java/util/ArrayList" := E_a1.keep Kq43
  have f48 : Sta Z T43.heap "java/util/ArrayList" "DEFAULTCAPACITY_EMPTY_ELEMENTDATA" "[Ljava/lang/Object;" (.ref aD) := own_sta_keep SD Kq43 (nsS E_a1.nostat ns0)
  obtain ⟨T49, X49, e49, st49⟩ := getS2 X43 hx hZ hown (host := "") (Or.inl (own_w hw 76 rfl)) Via.refl rfl f48 (g := (mkF m 5 #[.val (.ref a1)] [(.ref a1)])) rfl (hb hby d11_5)
  obtain ⟨T50, h50, X50, e50, W50, st50⟩ := putF X49 hx hZ hown (host := "") (Or.inl (own_w hw 77 rfl)) Via.refl e49 F43_elementData E43x (Or.inl (own_w hw 78 rfl)) (own_w hw 56 rfl) (ty := (.array (.object "java/lang/Object"))) (by decide) rfl rfl (g := (mkF m 8 #[.val (.ref a1)] [(.ref aD), (.ref a1)])) rfl rfl (hb hby d11_8)
  have f51 : Exa Z h50 a1 "java/util/ArrayList" := E43x.wr W50
  have f52 : Sta Z h50 "java/util/ArrayList" "DEFAULTCAPACITY_EMPTY_ELEMENTDATA" "[Ljava/lang/Object;" (.ref aD) := f48.wr W50
  have f53 : Fld Z h50 a1 "java/util/AbstractList" "modCount" "I" (.int 0) := F43_modCount.other W50 (Or.inr (slot_ne (Or.inl (own_w hw 75 rfl)) (Or.inl (own_w hw 78 rfl)) (by decide) (t := .int) (t' := (.array (.object "java/lang/Object"))) (by decide) (by decide)))
  have f55 : Fld Z h50 a1 "java/util/ArrayList" "size" "I" (.int 0) := F43_size.other W50 (Or.inr (slot_ne (Or.inl (own_w hw 91 rfl)) (Or.inl (own_w hw 78 rfl)) (by decide) (t := .int) (t' := (.array (.object "java/lang/Object"))) (by decide) (by decide)))
  have f56 : Fld Z h50 a1 "java/util/ArrayList" "elementData" "[Ljava/lang/Object;" (.ref aD) := F43_elementData.same W50
  have N50 := Fr.snoc X50 N43 g_a1
  have Z50 : n0 ≤ h50.size := Nat.le_trans Z43 (Keep.of_wr W50).1
  have K50 : Keep h0 h50 [a1] := K43.wr W50 (Or.inl (List.mem_of_getElem? (i := 0) rfl))
  obtain ⟨fs, hr, hrun, hended, hW, hsame⟩ := X50.leave (v := none) (fun _ => rfl)
  refine ⟨_, _, pre0 _ ?_, hrun, hended, _, _, rfl, ?_, ⟨_, rfl⟩, hW, hsame.mono (by decide) (by decide)⟩
  · refine own_aloadN X0.here hx (hb hby d11_0) rfl rfl ?_
    refine st43.trans ?_
    show Steps p.tables e below (T43.setTop (mkF m 4 #[.val (.ref a1)] [])) _
    refine own_aloadN X43.here hx (hb hby d11_4) rfl rfl ?_
    refine st49 _ ?_
    show Steps p.tables e below (T49.setTop (mkF m 8 #[.val (.ref a1)] [(.ref aD), (.ref a1)])) _
    refine st50 _ ?_
    show Steps p.tables e below (T50.setTop (mkF m 11 #[.val (.ref a1)] [])) _
    exact X50.returnOut hx Bd.returns (hb hby d11_11) hr
  · show QAL Z a1 aD h0 n0 _ T50.heap _
    rw [e50]
    exact ⟨rfl, N50, K50, f51, f53, f56, f55⟩
theorem ef_rmT0 (m : MethodId) (x0 : Addr) (x1 : Int32) : entryFrame m #[(.ref x0), (.int x1)] 2 = mkF m 0 #[.val (.ref x0), .val (.int x1)] [] := by first | (simp [entryFrame, mkF, argsToLocals, Value.category]; done) | rfl
theorem pn_com_example_vesch_vesch_engine_Trace : plainName "com/example/vesch/vesch/engine/Trace" = true := by first | (simp [plainName, overriddenIn]; done) | decide +kernel
def QT0 (Z : State) (a1 : Addr) (h0 : Heap) (n0 : Nat) (v : Option Value) (h : Heap) (L : List Loc) : Prop := v = none ∧ Fr n0 L ∧ Keep h0 h [a1] ∧ Exa Z h a1 "com/example/vesch/vesch/engine/Trace" ∧ Fld Z h a1 "com/example/vesch/vesch/engine/Trace" "events" "Ljava/util/List;" .null
theorem d1_0 : decode prog_54_method_1_code 0 = .ok (.aload_n 0, 1) := by decide +kernel
theorem d1_1 : decode prog_54_method_1_code 1 = .ok (.invokespecial 1, 3) := by decide +kernel
theorem d1_4 : decode prog_54_method_1_code 4 = .ok (.aload_n 0, 1) := by decide +kernel
theorem d1_5 : decode prog_54_method_1_code 5 = .ok (.iload_n 1, 1) := by decide +kernel
theorem d1_6 : decode prog_54_method_1_code 6 = .ok (.ifCond .eq 13, 3) := by decide +kernel
theorem d1_19 : decode prog_54_method_1_code 19 = .ok (.aconst_null, 1) := by decide +kernel
theorem d1_20 : decode prog_54_method_1_code 20 = .ok (.putfield 10, 3) := by decide +kernel
theorem d1_23 : decode prog_54_method_1_code 23 = .ok (.return_, 1) := by decide +kernel
set_option maxRecDepth 65536 in
set_option maxHeartbeats 40000000 in
theorem rmT0 (l : Launch) (Z : State) (a0 : Array Value) (hw : ∀ d ∈ tables_1, d.before a0 Z = true) (ws : List Jvm.Cond) (a1 : Addr) (h0 : Heap) (n0 : Nat) (Z0 : n0 ≤ h0.size) (E1 : Exa Z h0 a1 "com/example/vesch/vesch/engine/Trace") (g1 : n0 ≤ a1) (FE : Fld Z h0 a1 "com/example/vesch/vesch/engine/Trace" "events" "Ljava/util/List;" .null) :
    MetFree l (⟨"com/example/vesch/vesch/engine/Trace", "<init>", "(Z)V"⟩ : MethodName) (head1 (Jvm.Cond.code (⟨"com/example/vesch/vesch/engine/Trace", "<init>", "(Z)V"⟩ : MethodName) prog_54_method_1_code 2 none :: ws) ({ frames := 1, cells := 0, slots := 0, locals := 12 } : Room)) (fun a U => a = #[(.ref a1), (.int 0)] ∧ Z.Warmed39 U.vm ∧ U.heap = h0) (fun _ _ _ _ _ => True) (fun _ U o U' => ∃ v L, o = .returned v ∧ QT0 Z a1 h0 n0 v U'.heap L ∧ FrameEnd U o U' L ({ frames := 1, cells := 0, slots := 0, locals := 12 } : Room).cells ({ frames := 1, cells := 0, slots := 0, locals := 12 } : Room).slots) := by
  refine MetFree.of_bodySF (plainFor_of_name pn_com_example_vesch_vesch_engine_Trace) hisR ?_
  intro p e s m args below meth c s₁ Bd hml0 hP hK
  obtain ⟨rfl, hZ, hh⟩ := hP
  have hx := Bd.exec
  have hby := Bd.bytes
  have hml : c.maxLocals = 2 := hml0
  have hown : s.vm.findClass "com/example/vesch/vesch/engine/Trace" = some m.cls := findClass_of_methodNamed Bd.named
  have hnm := (name_of_methodNamed Bd.named Bd.method).1
  have X0 : Stand p l e ({ frames := 1, cells := 0, slots := 0, locals := 12 } : Room) s m #[(.ref a1), (.int 0)] below meth c s₁ [] 0 0 := Stand.of_body Bd
  have e0 : s₁.heap = h0 := by rw [← hh, Bd.state]; rfl
  have N0 := Fr.nil n0
  have pre0 : ∀ tG, Steps p.tables e below (s₁.setTop (mkF m 0 #[.val (.ref a1), .val (.int 0)] [])) tG → Steps p.tables e below (s₁.setTop (entryFrame m #[(.ref a1), (.int 0)] 2)) tG := fun tG kG => castTop (ef_rmT0 m a1 (0 : Int32)) kG
  obtain ⟨T57, X57, e57, st57⟩ := initO X0 hx hZ hown (own_w hw 6 rfl) (own_w hw 7 rfl) (own_w hw 8 rfl) e0 (g := (mkF m 1 #[.val (.ref a1), .val (.int 0)] [(.ref a1)])) rfl (by rw [hml]; rfl) rfl (hb hby d1_1) (by decide) (W := 0) (by show 2 * 0 + _ ≤ _; exact Nat.le_of_eq rfl) (by decide)
  obtain ⟨T58, h58, X58, e58, W58, st58⟩ := putF X57 hx hZ hown (host := "") (Or.inl (own_w hw 9 rfl)) Via.refl e57 FE E1 (Or.inr ⟨(own_w hw 10 rfl), rfl, hnm⟩) (own_w hw 1 rfl) (ty := (.object "java/util/List")) (by decide) rfl rfl (g := (mkF m 20 #[.val (.ref a1), .val (.int 0)] [.null, (.ref a1)])) rfl rfl (hb hby d1_20)
  have f59 : Exa Z h58 a1 "com/example/vesch/vesch/engine/Trace" := E1.wr W58
  have f61 : Fld Z h58 a1 "com/example/vesch/vesch/engine/Trace" "events" "Ljava/util/List;" .null := FE.same W58
  have N58 := Fr.snoc X58 N0 g1
  have Z58 : n0 ≤ h58.size := Nat.le_trans Z0 (Keep.of_wr W58).1
  have K58 : Keep h0 h58 [a1] := (Keep.refl h0 [a1]).wr W58 (Or.inl (List.mem_of_getElem? (i := 0) rfl))
  obtain ⟨fs, hr, hrun, hended, hW, hsame⟩ := X58.leave (v := none) (fun _ => rfl)
  refine ⟨_, _, pre0 _ ?_, hrun, hended, _, _, rfl, ?_, ⟨_, rfl⟩, hW, hsame.mono (by decide) (by decide)⟩
  · refine own_aloadN X0.here hx (hb hby d1_0) rfl rfl ?_
    refine st57 _ ?_
    show Steps p.tables e below (T57.setTop (mkF m 4 #[.val (.ref a1), .val (.int 0)] [])) _
    refine own_aloadN X57.here hx (hb hby d1_4) rfl rfl ?_
    refine own_iloadN X57.here hx (hb hby d1_5) rfl ?_
    refine own_ifYes X57.here hx 6 19 rfl (hb hby d1_6) ((if0 _ _).trans (teq (by decide : (0 : Int32) = (0 : Int32))).1) (by decide) (by decide) ?_
    refine own_aconstNull X57.here hx (hb hby d1_19) ?_
    refine st58 _ ?_
    show Steps p.tables e below (T58.setTop (mkF m 23 #[.val (.ref a1), .val (.int 0)] [])) _
    exact X58.returnOut hx Bd.returns (hb hby d1_23) hr
  · show QT0 Z a1 h0 n0 _ T58.heap _
    rw [e58]
    exact ⟨rfl, N58, K58, f59, f61⟩
theorem ef_rmT1 (m : MethodId) (x0 : Addr) (x1 : Int32) : entryFrame m #[(.ref x0), (.int x1)] 2 = mkF m 0 #[.val (.ref x0), .val (.int x1)] [] := by first | (simp [entryFrame, mkF, argsToLocals, Value.category]; done) | rfl
def QT1 (Z : State) (a1 : Addr) (aD : Addr) (h0 : Heap) (n0 : Nat) (v : Option Value) (h : Heap) (L : List Loc) : Prop := v = none ∧ Fr n0 L ∧ Keep h0 h [a1] ∧ Exa Z h a1 "com/example/vesch/vesch/engine/Trace" ∧ ∃ b, h0.size ≤ b ∧ Fld Z h a1 "com/example/vesch/vesch/engine/Trace" "events" "Ljava/util/List;" (.ref b) ∧ Exa Z h b "java/util/ArrayList" ∧ Fld Z h b "java/util/AbstractList" "modCount" "I" (.int 0) ∧ Fld Z h b "java/util/ArrayList" "elementData" "[Ljava/lang/Object;" (.ref aD) ∧ Fld Z h b "java/util/ArrayList" "size" "I" (.int 0)
theorem d1_9 : decode prog_54_method_1_code 9 = .ok (.new 7, 3) := by decide +kernel
theorem d1_12 : decode prog_54_method_1_code 12 = .ok (.dup, 1) := by decide +kernel
theorem d1_13 : decode prog_54_method_1_code 13 = .ok (.invokespecial 9, 3) := by decide +kernel
theorem d1_16 : decode prog_54_method_1_code 16 = .ok (.goto 4, 3) := by decide +kernel
set_option maxRecDepth 65536 in
set_option maxHeartbeats 40000000 in
theorem rmT1 (l : Launch) (Z : State) (a0 : Array Value) (hw : ∀ d ∈ tables_1, d.before a0 Z = true) (ws : List Jvm.Cond) (a1 : Addr) (aD : Addr) (h0 : Heap) (n0 : Nat) (Z0 : n0 ≤ h0.size) (E1 : Exa Z h0 a1 "com/example/vesch/vesch/engine/Trace") (g1 : n0 ≤ a1) (FE : Fld Z h0 a1 "com/example/vesch/vesch/engine/Trace" "events" "Ljava/util/List;" .null) (SD : Sta Z h0 "java/util/ArrayList" "DEFAULTCAPACITY_EMPTY_ELEMENTDATA" "[Ljava/lang/Object;" (.ref aD)) :
    MetFree l (⟨"com/example/vesch/vesch/engine/Trace", "<init>", "(Z)V"⟩ : MethodName) (head1 (Jvm.Cond.code (⟨"com/example/vesch/vesch/engine/Trace", "<init>", "(Z)V"⟩ : MethodName) prog_54_method_1_code 2 none :: ws) ({ frames := 4, cells := 1, slots := 3, locals := 50 } : Room)) (fun a U => a = #[(.ref a1), (.int 1)] ∧ Z.Warmed39 U.vm ∧ U.heap = h0) (fun _ _ _ _ _ => True) (fun _ U o U' => ∃ v L, o = .returned v ∧ QT1 Z a1 aD h0 n0 v U'.heap L ∧ FrameEnd U o U' L ({ frames := 4, cells := 1, slots := 3, locals := 50 } : Room).cells ({ frames := 4, cells := 1, slots := 3, locals := 50 } : Room).slots) := by
  refine MetFree.of_bodySF (plainFor_of_name pn_com_example_vesch_vesch_engine_Trace) hisR ?_
  intro p e s m args below meth c s₁ Bd hml0 hP hK
  obtain ⟨rfl, hZ, hh⟩ := hP
  have hx := Bd.exec
  have hby := Bd.bytes
  have hml : c.maxLocals = 2 := hml0
  have hown : s.vm.findClass "com/example/vesch/vesch/engine/Trace" = some m.cls := findClass_of_methodNamed Bd.named
  have hnm := (name_of_methodNamed Bd.named Bd.method).1
  have X0 : Stand p l e ({ frames := 4, cells := 1, slots := 3, locals := 50 } : Room) s m #[(.ref a1), (.int 1)] below meth c s₁ [] 0 0 := Stand.of_body Bd
  have e0 : s₁.heap = h0 := by rw [← hh, Bd.state]; rfl
  have N0 := Fr.nil n0
  have pre0 : ∀ tG, Steps p.tables e below (s₁.setTop (mkF m 0 #[.val (.ref a1), .val (.int 1)] [])) tG → Steps p.tables e below (s₁.setTop (entryFrame m #[(.ref a1), (.int 1)] 2)) tG := fun tG kG => castTop (ef_rmT1 m a1 (1 : Int32)) kG
  obtain ⟨T62, X62, e62, st62⟩ := initO X0 hx hZ hown (own_w hw 6 rfl) (own_w hw 7 rfl) (own_w hw 8 rfl) e0 (g := (mkF m 1 #[.val (.ref a1), .val (.int 1)] [(.ref a1)])) rfl (by rw [hml]; rfl) rfl (hb hby d1_1) (by decide) (W := 0) (by show 2 * 0 + _ ≤ _; exact Nat.le_of_eq rfl) (by decide)
  obtain ⟨T63, h63, X63, e63, E63, A63, D63, -, st63⟩ := newO X62 hx hZ hown (own_w hw 55 rfl) (own_w hw 56 rfl) (own_w hw 57 rfl) e62 (g := (mkF m 9 #[.val (.ref a1), .val (.int 1)] [(.ref a1)])) rfl (hb hby d1_9) (by decide) (by decide)
  obtain ⟨b63, g63⟩ : ∃ z, z = h0.size := ⟨_, rfl⟩
  rw [← g63] at A63 D63 st63
  have E63' := E63
  have gg63 : n0 ≤ b63 := Nat.le_trans Z0 (Nat.le_of_eq g63.symm)
  have sz63 : h0.size ≤ b63 := Nat.le_trans (Keep.refl h0 [a1]).1 (Nat.le_of_eq g63.symm)
  have ne64 : a1 ≠ b63 := Nat.ne_of_lt (Nat.lt_of_lt_of_le E1.lt (Nat.le_of_eq g63.symm))
  have Z63 : n0 ≤ h63.size := Nat.le_trans Z0 E63.1
  have K63 : Keep h0 h63 [a1] := (Keep.refl h0 [a1]).ext E63
  have f65 : Exa Z h63 a1 "com/example/vesch/vesch/engine/Trace" := E1.ext E63
  have f66 : Fld Z h63 a1 "com/example/vesch/vesch/engine/Trace" "events" "Ljava/util/List;" .null := FE.ext E63
  have f67 : Sta Z h63 "java/util/ArrayList" "DEFAULTCAPACITY_EMPTY_ELEMENTDATA" "[Ljava/lang/Object;" (.ref aD) := SD.ext E63
  have f68 : Fld Z h63 b63 "java/util/AbstractList" "modCount" "I" (.int 0) := D63 (Or.inl (own_w hw 75 rfl)) (ty := .int) (by decide)
  have f69 : Fld Z h63 b63 "java/util/ArrayList" "elementData" "[Ljava/lang/Object;" .null := D63 (Or.inl (own_w hw 78 rfl)) (ty := (.array (.object "java/lang/Object"))) (by decide)
  have f70 : Fld Z h63 b63 "java/util/ArrayList" "size" "I" (.int 0) := D63 (Or.inl (own_w hw 91 rfl)) (ty := .int) (by decide)
  obtain ⟨_, _, ⟨T71, L71, k71, n71⟩, -, X71, ⟨Lc71, hQ71, l71, y71, z71⟩, st71⟩ := X63.specialBack hx (y := (⟨"java/util/ArrayList", "<init>", "()V"⟩ : MethodName)) rfl hown (mvT hZ (own_w hw 58 rfl)) (mvT hZ (own_w hw 59 rfl)) (mvT hZ (own_w hw 60 rfl)) (by decide) (backOf (W := 2) (rmAL l Z a0 hw [] b63 aD h63 n0 Z63 A63 gg63 f68 f69 f70 f67) hZ (own_w hw 60 rfl) (own_w hw 57 rfl) (by decide) (by decide)) (g := (mkF m 13 #[.val (.ref a1), .val (.int 1)] [(.ref b63), (.ref b63), (.ref a1)])) rfl (by rw [hml]; rfl) (Steps.refl _) (a := b63) (argsL := []) (rest := [(.ref b63), (.ref a1)]) (lenOf pd_2829V rfl) rfl (by show 2 * 0 + _ ≤ _; exact Nat.le_of_eq rfl) (hb hby d1_13) (fun _ _ => ⟨rfl, e63, (by decide : 1 + 0 ≤ _), (by decide : 3 + 0 ≤ _)⟩)
  dsimp only [Pt.U, Pt.locs, Pt.cells, Pt.slots] at X71 l71 y71 z71 st71 hQ71
  subst l71 y71 z71
  obtain ⟨rfl, N71q, Kq71, E71x, F71_modCount, F71_elementData, F71_size⟩ := hQ71
  have N71 := Fr.app N0 N71q
  have Z71 : n0 ≤ T71.heap.size := Nat.le_trans Z63 Kq71.1
  have K71 : Keep h0 T71.heap [a1] := K63.trans Kq71 (allS (Or.inr sz63) all0)
  have f72 : Exa Z T71.heap a1 "com/example/vesch/vesch/engine/Trace" := f65.keep Kq71
  have f73 : Fld Z T71.heap a1 "com/example/vesch/vesch/engine/Trace" "events" "Ljava/util/List;" .null := f66.keep Kq71 (ninS ne64 nin0)
  have f74 : Sta Z T71.heap "java/util/ArrayList" "DEFAULTCAPACITY_EMPTY_ELEMENTDATA" "[Ljava/lang/Object;" (.ref aD) := own_sta_keep f67 Kq71 (nsS A63.nostat ns0)
  have f75 : Exa Z T71.heap b63 "java/util/ArrayList" := A63.keep Kq71
  obtain ⟨T79, h79, X79, e79, W79, st79⟩ := putF X71 hx hZ hown (host := "") (Or.inl (own_w hw 9 rfl)) Via.refl rfl f73 f72 (Or.inr ⟨(own_w hw 10 rfl), rfl, hnm⟩) (own_w hw 1 rfl) (ty := (.object "java/util/List")) (by decide) rfl rfl (g := (mkF m 20 #[.val (.ref a1), .val (.int 1)] [(.ref b63), (.ref a1)])) rfl rfl (hb hby d1_20)
  have f80 : Exa Z h79 a1 "com/example/vesch/vesch/engine/Trace" := f72.wr W79
  have f82 : Sta Z h79 "java/util/ArrayList" "DEFAULTCAPACITY_EMPTY_ELEMENTDATA" "[Ljava/lang/Object;" (.ref aD) := f74.wr W79
  have f83 : Exa Z h79 b63 "java/util/ArrayList" := E71x.wr W79
  have f84 : Fld Z h79 b63 "java/util/AbstractList" "modCount" "I" (.int 0) := F71_modCount.other W79 (Or.inl (Ne.symm ne64))
  have f85 : Fld Z h79 b63 "java/util/ArrayList" "elementData" "[Ljava/lang/Object;" (.ref aD) := F71_elementData.other W79 (Or.inl (Ne.symm ne64))
  have f86 : Fld Z h79 b63 "java/util/ArrayList" "size" "I" (.int 0) := F71_size.other W79 (Or.inl (Ne.symm ne64))
  have f87 : Fld Z h79 a1 "com/example/vesch/vesch/engine/Trace" "events" "Ljava/util/List;" (.ref b63) := f73.same W79
  have N79 := Fr.snoc X79 N71 g1
  have Z79 : n0 ≤ h79.size := Nat.le_trans Z71 (Keep.of_wr W79).1
  have K79 : Keep h0 h79 [a1] := K71.wr W79 (Or.inl (List.mem_of_getElem? (i := 0) rfl))
  obtain ⟨fs, hr, hrun, hended, hW, hsame⟩ := X79.leave (v := none) (fun _ => rfl)
  refine ⟨_, _, pre0 _ ?_, hrun, hended, _, _, rfl, ?_, ⟨_, rfl⟩, hW, hsame.mono (by decide) (by decide)⟩
  · refine own_aloadN X0.here hx (hb hby d1_0) rfl rfl ?_
    refine st62 _ ?_
    show Steps p.tables e below (T62.setTop (mkF m 4 #[.val (.ref a1), .val (.int 1)] [])) _
    refine own_aloadN X62.here hx (hb hby d1_4) rfl rfl ?_
    refine own_iloadN X62.here hx (hb hby d1_5) rfl ?_
    refine own_ifNo X62.here hx (hb hby d1_6) ((if0 _ _).trans (feq (by decide : ¬ ((1 : Int32) = (0 : Int32)))).1) ?_
    refine st63 _ ?_
    show Steps p.tables e below (T63.setTop (mkF m 12 #[.val (.ref a1), .val (.int 1)] [(.ref b63), (.ref a1)])) _
    refine own_dup X63.here hx (hb hby d1_12) rfl ?_
    refine st71.trans ?_
    show Steps p.tables e below (T71.setTop (mkF m 16 #[.val (.ref a1), .val (.int 1)] [(.ref b63), (.ref a1)])) _
    refine own_goto X71.here hx 16 20 rfl (hb hby d1_16) (by decide) (by decide) ?_
    refine st79 _ ?_
    show Steps p.tables e below (T79.setTop (mkF m 23 #[.val (.ref a1), .val (.int 1)] [])) _
    exact X79.returnOut hx Bd.returns (hb hby d1_23) hr
  · show QT1 Z a1 aD h0 n0 _ T79.heap _
    rw [e79]
    exact ⟨rfl, N79, K79, f80, b63, sz63, f87, f83, f84, f85, f86⟩
theorem ef_rmO0 (m : MethodId) (x0 : Addr) : entryFrame m #[(.ref x0)] 1 = mkF m 0 #[.val (.ref x0)] [] := by first | (simp [entryFrame, mkF, argsToLocals, Value.category]; done) | rfl
def QO0 (Z : State) (a1 : Addr) (h0 : Heap) (n0 : Nat) (v : Option Value) (h : Heap) (L : List Loc) : Prop := v = some (.int (0 : Int32)) ∧ Fr n0 L ∧ h = h0
theorem d3_0 : decode prog_54_method_2_code 0 = .ok (.aload_n 0, 1) := by decide +kernel
theorem d3_1 : decode prog_54_method_2_code 1 = .ok (.getfield 10, 3) := by decide +kernel
theorem d3_4 : decode prog_54_method_2_code 4 = .ok (.ifnull 7, 3) := by decide +kernel
theorem d3_11 : decode prog_54_method_2_code 11 = .ok (.iconst 0, 1) := by decide +kernel
theorem d3_12 : decode prog_54_method_2_code 12 = .ok (.ireturn, 1) := by decide +kernel
set_option maxRecDepth 65536 in
set_option maxHeartbeats 40000000 in
theorem rmO0 (l : Launch) (Z : State) (a0 : Array Value) (hw : ∀ d ∈ tables_1, d.before a0 Z = true) (ws : List Jvm.Cond) (a1 : Addr) (h0 : Heap) (n0 : Nat) (Z0 : n0 ≤ h0.size) (FE : Fld Z h0 a1 "com/example/vesch/vesch/engine/Trace" "events" "Ljava/util/List;" .null) :
    MetFree l (⟨"com/example/vesch/vesch/engine/Trace", "isOn", "()Z"⟩ : MethodName) (head1 (Jvm.Cond.code (⟨"com/example/vesch/vesch/engine/Trace", "isOn", "()Z"⟩ : MethodName) prog_54_method_2_code 1 (some .boolean) :: ws) ({ frames := 0, cells := 0, slots := 0, locals := 0 } : Room)) (fun a U => a = #[(.ref a1)] ∧ Z.Warmed39 U.vm ∧ U.heap = h0) (fun _ _ _ _ _ => True) (fun _ U o U' => ∃ v L, o = .returned v ∧ QO0 Z a1 h0 n0 v U'.heap L ∧ FrameEnd U o U' L ({ frames := 0, cells := 0, slots := 0, locals := 0 } : Room).cells ({ frames := 0, cells := 0, slots := 0, locals := 0 } : Room).slots) := by
  refine MetFree.of_bodySF (plainFor_of_name pn_com_example_vesch_vesch_engine_Trace) hisR ?_
  intro p e s m args below meth c s₁ Bd hml0 hP hK
  obtain ⟨rfl, hZ, hh⟩ := hP
  have hx := Bd.exec
  have hby := Bd.bytes
  have hml : c.maxLocals = 1 := hml0
  have hown : s.vm.findClass "com/example/vesch/vesch/engine/Trace" = some m.cls := findClass_of_methodNamed Bd.named
  have hnm := (name_of_methodNamed Bd.named Bd.method).1
  have X0 : Stand p l e ({ frames := 0, cells := 0, slots := 0, locals := 0 } : Room) s m #[(.ref a1)] below meth c s₁ [] 0 0 := Stand.of_body Bd
  have e0 : s₁.heap = h0 := by rw [← hh, Bd.state]; rfl
  have N0 := Fr.nil n0
  have pre0 : ∀ tG, Steps p.tables e below (s₁.setTop (mkF m 0 #[.val (.ref a1)] [])) tG → Steps p.tables e below (s₁.setTop (entryFrame m #[(.ref a1)] 1)) tG := fun tG kG => castTop (ef_rmO0 m a1) kG
  obtain ⟨T88, X88, e88, st88⟩ := getF X0 hx hZ hown (host := "") (Or.inl (own_w hw 9 rfl)) Via.refl e0 FE (g := (mkF m 1 #[.val (.ref a1)] [(.ref a1)])) rfl rfl (hb hby d3_1)
  obtain ⟨fs, hr, hrun, hended, hW, hsame⟩ := X88.leave (v := some (.int 0)) (fun h => by rw [Bd.returns] at h; cases h)
  refine ⟨_, _, pre0 _ ?_, hrun, hended, _, _, rfl, ?_, ⟨_, rfl⟩, hW, hsame.mono (by decide) (by decide)⟩
  · refine own_aloadN X0.here hx (hb hby d3_0) rfl rfl ?_
    refine st88 _ ?_
    show Steps p.tables e below (T88.setTop (mkF m 4 #[.val (.ref a1)] [.null])) _
    refine own_ifnullYes X88.here hx 4 11 rfl (hb hby d3_4) (by decide) (by decide) ?_
    refine own_iconst X88.here hx (0 : Int32) (hb hby d3_11) rfl ?_
    exact retN X88 hx (t := .boolean) Bd.returns (by simp) (hb hby d3_12) hr
  · show QO0 Z a1 h0 n0 _ T88.heap _
    rw [e88]
    exact ⟨rfl, N0, rfl⟩
theorem ef_rmO1 (m : MethodId) (x0 : Addr) : entryFrame m #[(.ref x0)] 1 = mkF m 0 #[.val (.ref x0)] [] := by first | (simp [entryFrame, mkF, argsToLocals, Value.category]; done) | rfl
def QO1 (Z : State) (a1 : Addr) (b1 : Addr) (h0 : Heap) (n0 : Nat) (v : Option Value) (h : Heap) (L : List Loc) : Prop := v = some (.int (1 : Int32)) ∧ Fr n0 L ∧ h = h0
theorem d3_7 : decode prog_54_method_2_code 7 = .ok (.iconst 1, 1) := by decide +kernel
theorem d3_8 : decode prog_54_method_2_code 8 = .ok (.goto 4, 3) := by decide +kernel
set_option maxRecDepth 65536 in
set_option maxHeartbeats 40000000 in
theorem rmO1 (l : Launch) (Z : State) (a0 : Array Value) (hw : ∀ d ∈ tables_1, d.before a0 Z = true) (ws : List Jvm.Cond) (a1 : Addr) (b1 : Addr) (h0 : Heap) (n0 : Nat) (Z0 : n0 ≤ h0.size) (FE : Fld Z h0 a1 "com/example/vesch/vesch/engine/Trace" "events" "Ljava/util/List;" (.ref b1)) :
    MetFree l (⟨"com/example/vesch/vesch/engine/Trace", "isOn", "()Z"⟩ : MethodName) (head1 (Jvm.Cond.code (⟨"com/example/vesch/vesch/engine/Trace", "isOn", "()Z"⟩ : MethodName) prog_54_method_2_code 1 (some .boolean) :: ws) ({ frames := 0, cells := 0, slots := 0, locals := 0 } : Room)) (fun a U => a = #[(.ref a1)] ∧ Z.Warmed39 U.vm ∧ U.heap = h0) (fun _ _ _ _ _ => True) (fun _ U o U' => ∃ v L, o = .returned v ∧ QO1 Z a1 b1 h0 n0 v U'.heap L ∧ FrameEnd U o U' L ({ frames := 0, cells := 0, slots := 0, locals := 0 } : Room).cells ({ frames := 0, cells := 0, slots := 0, locals := 0 } : Room).slots) := by
  refine MetFree.of_bodySF (plainFor_of_name pn_com_example_vesch_vesch_engine_Trace) hisR ?_
  intro p e s m args below meth c s₁ Bd hml0 hP hK
  obtain ⟨rfl, hZ, hh⟩ := hP
  have hx := Bd.exec
  have hby := Bd.bytes
  have hml : c.maxLocals = 1 := hml0
  have hown : s.vm.findClass "com/example/vesch/vesch/engine/Trace" = some m.cls := findClass_of_methodNamed Bd.named
  have hnm := (name_of_methodNamed Bd.named Bd.method).1
  have X0 : Stand p l e ({ frames := 0, cells := 0, slots := 0, locals := 0 } : Room) s m #[(.ref a1)] below meth c s₁ [] 0 0 := Stand.of_body Bd
  have e0 : s₁.heap = h0 := by rw [← hh, Bd.state]; rfl
  have N0 := Fr.nil n0
  have pre0 : ∀ tG, Steps p.tables e below (s₁.setTop (mkF m 0 #[.val (.ref a1)] [])) tG → Steps p.tables e below (s₁.setTop (entryFrame m #[(.ref a1)] 1)) tG := fun tG kG => castTop (ef_rmO1 m a1) kG
  obtain ⟨T89, X89, e89, st89⟩ := getF X0 hx hZ hown (host := "") (Or.inl (own_w hw 9 rfl)) Via.refl e0 FE (g := (mkF m 1 #[.val (.ref a1)] [(.ref a1)])) rfl rfl (hb hby d3_1)
  obtain ⟨fs, hr, hrun, hended, hW, hsame⟩ := X89.leave (v := some (.int 1)) (fun h => by rw [Bd.returns] at h; cases h)
  refine ⟨_, _, pre0 _ ?_, hrun, hended, _, _, rfl, ?_, ⟨_, rfl⟩, hW, hsame.mono (by decide) (by decide)⟩
  · refine own_aloadN X0.here hx (hb hby d3_0) rfl rfl ?_
    refine st89 _ ?_
    show Steps p.tables e below (T89.setTop (mkF m 4 #[.val (.ref a1)] [(.ref b1)])) _
    refine own_ifnullNo X89.here hx (hb hby d3_4) ?_
    refine own_iconst X89.here hx (1 : Int32) (hb hby d3_7) rfl ?_
    refine own_goto X89.here hx 8 12 rfl (hb hby d3_8) (by decide) (by decide) ?_
    exact retN X89 hx (t := .boolean) Bd.returns (by simp) (hb hby d3_12) hr
  · show QO1 Z a1 b1 h0 n0 _ T89.heap _
    rw [e89]
    exact ⟨rfl, N0, rfl⟩
theorem ef_rmG1 (m : MethodId) (x0 : Addr) (x1 : Int32) : entryFrame m #[(.ref x0), (.int x1)] 4 = mkF m 0 #[.val (.ref x0), .val (.int x1), .unset, .unset] [] := by first | (simp [entryFrame, mkF, argsToLocals, Value.category]; done) | rfl
def QG1 (Z : State) (a1 : Addr) (aD : Addr) (mc : Int32) (h0 : Heap) (n0 : Nat) (v : Option Value) (h : Heap) (L : List Loc) : Prop := ∃ b, v = some (.ref b) ∧ Fr n0 L ∧ Keep h0 h [a1] ∧ h0.size ≤ b ∧ own_OA Z h b 10 ∧ Exa Z h a1 "java/util/ArrayList" ∧ Fld Z h a1 "java/util/AbstractList" "modCount" "I" (.int mc) ∧ Fld Z h a1 "java/util/ArrayList" "elementData" "[Ljava/lang/Object;" (.ref b) ∧ Fld Z h a1 "java/util/ArrayList" "size" "I" (.int 0)
theorem d17_0 : decode jdk_38_method_6_code 0 = .ok (.aload_n 0, 1) := by decide +kernel
theorem d17_1 : decode jdk_38_method_6_code 1 = .ok (.getfield 9, 3) := by decide +kernel
theorem d17_4 : decode jdk_38_method_6_code 4 = .ok (.arraylength, 1) := by decide +kernel
theorem d17_5 : decode jdk_38_method_6_code 5 = .ok (.istore_n 2, 1) := by decide +kernel
theorem d17_6 : decode jdk_38_method_6_code 6 = .ok (.iload_n 2, 1) := by decide +kernel
theorem d17_7 : decode jdk_38_method_6_code 7 = .ok (.ifCond .gt 13, 3) := by decide +kernel
theorem d17_10 : decode jdk_38_method_6_code 10 = .ok (.aload_n 0, 1) := by decide +kernel
theorem d17_11 : decode jdk_38_method_6_code 11 = .ok (.getfield 9, 3) := by decide +kernel
theorem d17_14 : decode jdk_38_method_6_code 14 = .ok (.getstatic 39, 3) := by decide +kernel
theorem d17_17 : decode jdk_38_method_6_code 17 = .ok (.if_acmp .eq 28, 3) := by decide +kernel
theorem d17_45 : decode jdk_38_method_6_code 45 = .ok (.aload_n 0, 1) := by decide +kernel
theorem d17_46 : decode jdk_38_method_6_code 46 = .ok (.bipush 10, 2) := by decide +kernel
theorem d17_48 : decode jdk_38_method_6_code 48 = .ok (.iload_n 1, 1) := by decide +kernel
theorem d17_49 : decode jdk_38_method_6_code 49 = .ok (.invokestatic 79, 3) := by decide +kernel
theorem pd_28II29I : parseMethodDescriptor "(II)I" = some ⟨[.int, .int], some .int⟩ := by decide +kernel
theorem d17_52 : decode jdk_38_method_6_code 52 = .ok (.anewarray 7, 3) := by decide +kernel
theorem d17_55 : decode jdk_38_method_6_code 55 = .ok (.dup_x1, 1) := by decide +kernel
theorem d17_56 : decode jdk_38_method_6_code 56 = .ok (.putfield 9, 3) := by decide +kernel
theorem d17_59 : decode jdk_38_method_6_code 59 = .ok (.areturn, 1) := by decide +kernel
set_option maxRecDepth 65536 in
set_option maxHeartbeats 40000000 in
theorem rmG1 (l : Launch) (Z : State) (a0 : Array Value) (hw : ∀ d ∈ tables_1, d.before a0 Z = true) (ws : List Jvm.Cond) (a1 : Addr) (aD : Addr) (mc : Int32) (h0 : Heap) (n0 : Nat) (Z0 : n0 ≤ h0.size) (E_a1 : Exa Z h0 a1 "java/util/ArrayList") (g_a1 : n0 ≤ a1) (F_modCount : Fld Z h0 a1 "java/util/AbstractList" "modCount" "I" (.int mc)) (F_elementData : Fld Z h0 a1 "java/util/ArrayList" "elementData" "[Ljava/lang/Object;" (.ref aD)) (F_size : Fld Z h0 a1 "java/util/ArrayList" "size" "I" (.int 0)) (SD : Sta Z h0 "java/util/ArrayList" "DEFAULTCAPACITY_EMPTY_ELEMENTDATA" "[Ljava/lang/Object;" (.ref aD)) (OD : own_OL Z h0 aD 0) (nD : a1 ≠ aD) :
    MetFree l (⟨"java/util/ArrayList", "grow", "(I)[Ljava/lang/Object;"⟩ : MethodName) (head1 (Jvm.Cond.code (⟨"java/util/ArrayList", "grow", "(I)[Ljava/lang/Object;"⟩ : MethodName) jdk_38_method_6_code 4 (some (.array (.object "java/lang/Object"))) :: ws) ({ frames := 1, cells := 1, slots := 10, locals := 14 } : Room)) (fun a U => a = #[(.ref a1), (.int 1)] ∧ Z.Warmed39 U.vm ∧ U.heap = h0) (fun _ _ _ _ _ => True) (fun _ U o U' => ∃ v L, o = .returned v ∧ QG1 Z a1 aD mc h0 n0 v U'.heap L ∧ FrameEnd U o U' L ({ frames := 1, cells := 1, slots := 10, locals := 14 } : Room).cells ({ frames := 1, cells := 1, slots := 10, locals := 14 } : Room).slots) := by
  refine MetFree.of_bodySF (plainFor_of_name pn_java_util_ArrayList) hisR ?_
  intro p e s m args below meth c s₁ Bd hml0 hP hK
  obtain ⟨rfl, hZ, hh⟩ := hP
  have hx := Bd.exec
  have hby := Bd.bytes
  have hml : c.maxLocals = 4 := hml0
  have hown : s.vm.findClass "java/util/ArrayList" = some m.cls := findClass_of_methodNamed Bd.named
  have hnm := (name_of_methodNamed Bd.named Bd.method).1
  have X0 : Stand p l e ({ frames := 1, cells := 1, slots := 10, locals := 14 } : Room) s m #[(.ref a1), (.int 1)] below meth c s₁ [] 0 0 := Stand.of_body Bd
  have e0 : s₁.heap = h0 := by rw [← hh, Bd.state]; rfl
  have N0 := Fr.nil n0
  have pre0 : ∀ tG, Steps p.tables e below (s₁.setTop (mkF m 0 #[.val (.ref a1), .val (.int 1), .unset, .unset] [])) tG → Steps p.tables e below (s₁.setTop (entryFrame m #[(.ref a1), (.int 1)] 4)) tG := fun tG kG => castTop (ef_rmG1 m a1 (1 : Int32)) kG
  obtain ⟨T90, X90, e90, st90⟩ := getF X0 hx hZ hown (host := "") (Or.inl (own_w hw 77 rfl)) Via.refl e0 F_elementData (g := (mkF m 1 #[.val (.ref a1), .val (.int 1), .unset, .unset] [(.ref a1)])) rfl rfl (hb hby d17_1)
  obtain ⟨cl91, Ar91, S91, M91⟩ := id OD
  obtain ⟨T92, X92, e92, st92⟩ := getF X90 hx hZ hown (host := "") (Or.inl (own_w hw 77 rfl)) Via.refl e90 F_elementData (g := (mkF m 11 #[.val (.ref a1), .val (.int 1), .val (.int 0), .unset] [(.ref a1)])) rfl rfl (hb hby d17_11)
  obtain ⟨T93, X93, e93, st93⟩ := getS2 X92 hx hZ hown (host := "") (Or.inl (own_w hw 76 rfl)) Via.refl e92 SD (g := (mkF m 14 #[.val (.ref a1), .val (.int 1), .val (.int 0), .unset] [(.ref aD)])) rfl (hb hby d17_14)
  obtain ⟨_, _, ⟨T94, L94, k94, n94⟩, -, X94, ⟨Lc94, hQ94, l94, y94, z94⟩, st94⟩ := Jvm.LawKit.callS X93 hx (y := (⟨"java/lang/Math", "max", "(II)I"⟩ : MethodName)) hown (mvT hZ (own_w hw 107 rfl)) (mvT hZ (own_w hw 108 rfl)) (mvT hZ (own_w hw 109 rfl)) (mvT hZ (own_w hw 110 rfl)) (by decide) (backOf (W := 1) (rmMax l Z a0 hw [] (10 : Int32) (1 : Int32) h0 n0 Z0) hZ (own_w hw 110 rfl) (own_w hw 109 rfl) (by decide) (by decide)) (g := (mkF m 49 #[.val (.ref a1), .val (.int 1), .val (.int 0), .unset] [(.int 1), (.int 10), (.ref a1)])) rfl (by rw [hml]; rfl) (argsL := [(.int 10), (.int 1)]) (rest := [(.ref a1)]) (lenOf pd_28II29I rfl) rfl (by show 2 * 0 + _ ≤ _; exact Nat.le_of_eq rfl) (hb hby d17_49) (fun _ _ => ⟨rfl, e93, (by decide : 0 + 0 ≤ _), (by decide : 0 + 0 ≤ _)⟩)
  dsimp only [Pt.U, Pt.locs, Pt.cells, Pt.slots] at X94 l94 y94 z94 st94 hQ94
  subst l94 y94 z94
  obtain ⟨rfl, N94q, e94⟩ := hQ94
  have N94 := Fr.app N0 N94q
  obtain ⟨T95, h95, k95, X95, e95, E95, A95, B95, O95, st95⟩ := newRE X94 hx hZ hown (own_w hw 111 rfl) (own_w hw 112 rfl) e94 (g := (mkF m 52 #[.val (.ref a1), .val (.int 1), .val (.int 0), .unset] [(.int 10), (.ref a1)])) rfl (hb hby d17_52) rfl (by decide) (cap := 10) (by decide) (by decide) (by decide) (by decide) (ad := "[Ljava/lang/Object;") (by decide)
  obtain ⟨b95, g95⟩ : ∃ z, z = h0.size := ⟨_, rfl⟩
  rw [← g95] at A95 B95 st95
  have E95' := E95
  have gg95 : n0 ≤ b95 := Nat.le_trans Z0 (Nat.le_of_eq g95.symm)
  have sz95 : h0.size ≤ b95 := Nat.le_trans (Keep.refl h0 [a1]).1 (Nat.le_of_eq g95.symm)
  have ne96 : a1 ≠ b95 := Nat.ne_of_lt (Nat.lt_of_lt_of_le E_a1.lt (Nat.le_of_eq g95.symm))
  have ne97 : aD ≠ b95 := Nat.ne_of_lt (Nat.lt_of_lt_of_le OD.lt (Nat.le_of_eq g95.symm))
  have Z95 : n0 ≤ h95.size := Nat.le_trans Z0 E95.1
  have K95 : Keep h0 h95 [a1] := (Keep.refl h0 [a1]).ext E95
  have f98 : Exa Z h95 a1 "java/util/ArrayList" := E_a1.ext E95
  have f99 : Fld Z h95 a1 "java/util/AbstractList" "modCount" "I" (.int mc) := F_modCount.ext E95
  have f100 : Fld Z h95 a1 "java/util/ArrayList" "elementData" "[Ljava/lang/Object;" (.ref aD) := F_elementData.ext E95
  have f101 : Fld Z h95 a1 "java/util/ArrayList" "size" "I" (.int 0) := F_size.ext E95
  have f102 : Sta Z h95 "java/util/ArrayList" "DEFAULTCAPACITY_EMPTY_ELEMENTDATA" "[Ljava/lang/Object;" (.ref aD) := SD.ext E95
  have f103 : own_OL Z h95 aD (0 : Int32) := OD.ext E95
  have V95 : own_OA Z h95 b95 (10 : Int32) := own_OA.new A95 (by decide) O95
  obtain ⟨T104, h104, X104, e104, W104, st104⟩ := putF X95 hx hZ hown (host := "") (Or.inl (own_w hw 77 rfl)) Via.refl e95 f100 f98 (Or.inl (own_w hw 78 rfl)) (own_w hw 56 rfl) (ty := (.array (.object "java/lang/Object"))) (by decide) rfl rfl (g := (mkF m 56 #[.val (.ref a1), .val (.int 1), .val (.int 0), .unset] [(.ref b95), (.ref a1), (.ref b95)])) rfl rfl (hb hby d17_56)
  have f105 : Exa Z h104 a1 "java/util/ArrayList" := f98.wr W104
  have f106 : Fld Z h104 a1 "java/util/AbstractList" "modCount" "I" (.int mc) := f99.other W104 (Or.inr (slot_ne (Or.inl (own_w hw 75 rfl)) (Or.inl (own_w hw 78 rfl)) (by decide) (t := .int) (t' := (.array (.object "java/lang/Object"))) (by decide) (by decide)))
  have f108 : Fld Z h104 a1 "java/util/ArrayList" "size" "I" (.int 0) := f101.other W104 (Or.inr (slot_ne (Or.inl (own_w hw 91 rfl)) (Or.inl (own_w hw 78 rfl)) (by decide) (t := .int) (t' := (.array (.object "java/lang/Object"))) (by decide) (by decide)))
  have f109 : Sta Z h104 "java/util/ArrayList" "DEFAULTCAPACITY_EMPTY_ELEMENTDATA" "[Ljava/lang/Object;" (.ref aD) := f102.wr W104
  have f110 : own_OL Z h104 aD (0 : Int32) := f103.other W104 (Ne.symm nD)
  have f111 : own_OA Z h104 b95 (10 : Int32) := V95.other W104 (Ne.symm ne96)
  have f112 : Fld Z h104 a1 "java/util/ArrayList" "elementData" "[Ljava/lang/Object;" (.ref b95) := f100.same W104
  have N104 := Fr.snoc X104 N94 g_a1
  have Z104 : n0 ≤ h104.size := Nat.le_trans Z95 (Keep.of_wr W104).1
  have K104 : Keep h0 h104 [a1] := K95.wr W104 (Or.inl (List.mem_of_getElem? (i := 0) rfl))
  obtain ⟨fs, hr, hrun, hended, hW, hsame⟩ := X104.leave (v := some (.ref b95)) (fun h => by rw [Bd.returns] at h; cases h)
  refine ⟨_, _, pre0 _ ?_, hrun, hended, _, _, rfl, ?_, ⟨_, rfl⟩, hW, hsame.mono (by decide) (by decide)⟩
  · refine own_aloadN X0.here hx (hb hby d17_0) rfl rfl ?_
    refine st90 _ ?_
    show Steps p.tables e below (T90.setTop (mkF m 4 #[.val (.ref a1), .val (.int 1), .unset, .unset] [(.ref aD)])) _
    refine X90.arraylength hx (by rw [e90]; exact Ar91.1) (State.isArrayOf_alike hZ.alike Ar91.2.1) (g := (mkF m 4 #[.val (.ref a1), .val (.int 1), .unset, .unset] [(.ref aD)])) rfl rfl (hb hby d17_4) _ ?_
    rw [len_of S91 M91]
    show Steps p.tables e below (T90.setTop (mkF m 5 #[.val (.ref a1), .val (.int 1), .unset, .unset] [(.int 0)])) _
    refine own_istoreN X90.here hx (hb hby d17_5) (l' := #[.val (.ref a1), .val (.int 1), .val (.int 0), .unset]) rfl ?_
    refine own_iloadN X90.here hx (hb hby d17_6) rfl ?_
    refine own_ifNo X90.here hx (hb hby d17_7) ((if0 _ _).trans (flt (by decide : ¬ ((0 : Int32) < (0 : Int32)))).2.2.1) ?_
    refine own_aloadN X90.here hx (hb hby d17_10) rfl rfl ?_
    refine st92 _ ?_
    show Steps p.tables e below (T92.setTop (mkF m 14 #[.val (.ref a1), .val (.int 1), .val (.int 0), .unset] [(.ref aD)])) _
    refine st93 _ ?_
    show Steps p.tables e below (T93.setTop (mkF m 17 #[.val (.ref a1), .val (.int 1), .val (.int 0), .unset] [(.ref aD), (.ref aD)])) _
    refine Jvm.RoadKit.acmp (g := (mkF m 17 #[.val (.ref a1), .val (.int 1), .val (.int 0), .unset] [(.ref aD), (.ref aD)])) X93 hx rfl rfl rfl (pc0 := 17) (pc' := 45) (same := true) rfl (hb hby d17_17) rfl (decide_eq_true rfl) (by decide) (by decide) ?_
    show Steps p.tables e below (T93.setTop (mkF m 45 #[.val (.ref a1), .val (.int 1), .val (.int 0), .unset] [])) _
    refine own_aloadN X93.here hx (hb hby d17_45) rfl rfl ?_
    refine own_bipush X93.here hx (10 : Int32) (hb hby d17_46) rfl ?_
    refine own_iloadN X93.here hx (hb hby d17_48) rfl ?_
    refine st94 _ ?_
    show Steps p.tables e below (T94.setTop (mkF m 52 #[.val (.ref a1), .val (.int 1), .val (.int 0), .unset] [(.int 10), (.ref a1)])) _
    refine st95 _ ?_
    show Steps p.tables e below (T95.setTop (mkF m 55 #[.val (.ref a1), .val (.int 1), .val (.int 0), .unset] [(.ref b95), (.ref a1)])) _
    refine own_dupX1 X95.here hx (hb hby d17_55) rfl rfl ?_
    refine st104 _ ?_
    show Steps p.tables e below (T104.setTop (mkF m 59 #[.val (.ref a1), .val (.int 1), .val (.int 0), .unset] [(.ref b95)])) _
    jvm_step X104.here [X104.here.top, hx, (hb hby d17_59), X104.method', Bd.returns, Value.isRef, FieldType.isReference]
    first | (intro acts; rw [hr _ acts rfl rfl rfl]) | rw [hr _ _ rfl rfl rfl]
    exact Steps.refl _
  · show QG1 Z a1 aD mc h0 n0 _ T104.heap _
    rw [e104]
    exact ⟨b95, rfl, N104, K104, sz95, f111, f105, f106, f112, f108⟩
theorem ef_rmG0 (m : MethodId) (x0 : Addr) : entryFrame m #[(.ref x0)] 1 = mkF m 0 #[.val (.ref x0)] [] := by first | (simp [entryFrame, mkF, argsToLocals, Value.category]; done) | rfl
def QG0 (Z : State) (a1 : Addr) (aD : Addr) (mc : Int32) (h0 : Heap) (n0 : Nat) (v : Option Value) (h : Heap) (L : List Loc) : Prop := ∃ b, v = some (.ref b) ∧ Fr n0 L ∧ Keep h0 h [a1] ∧ h0.size ≤ b ∧ own_OA Z h b 10 ∧ Exa Z h a1 "java/util/ArrayList" ∧ Fld Z h a1 "java/util/AbstractList" "modCount" "I" (.int mc) ∧ Fld Z h a1 "java/util/ArrayList" "elementData" "[Ljava/lang/Object;" (.ref b) ∧ Fld Z h a1 "java/util/ArrayList" "size" "I" (.int 0)
theorem d16_0 : decode jdk_38_method_7_code 0 = .ok (.aload_n 0, 1) := by decide +kernel
theorem d16_1 : decode jdk_38_method_7_code 1 = .ok (.aload_n 0, 1) := by decide +kernel
theorem d16_2 : decode jdk_38_method_7_code 2 = .ok (.getfield 48, 3) := by decide +kernel
theorem d16_5 : decode jdk_38_method_7_code 5 = .ok (.iconst 1, 1) := by decide +kernel
theorem d16_6 : decode jdk_38_method_7_code 6 = .ok (.iadd, 1) := by decide +kernel
theorem d16_7 : decode jdk_38_method_7_code 7 = .ok (.invokevirtual 69, 3) := by decide +kernel
theorem pd_28I295bLjava2flang2fObject3b : parseMethodDescriptor "(I)[Ljava/lang/Object;" = some ⟨[.int], some (.array (.object "java/lang/Object"))⟩ := by decide +kernel
theorem d16_10 : decode jdk_38_method_7_code 10 = .ok (.areturn, 1) := by decide +kernel
set_option maxRecDepth 65536 in
set_option maxHeartbeats 40000000 in
theorem rmG0 (l : Launch) (Z : State) (a0 : Array Value) (hw : ∀ d ∈ tables_1, d.before a0 Z = true) (ws : List Jvm.Cond) (a1 : Addr) (aD : Addr) (mc : Int32) (h0 : Heap) (n0 : Nat) (Z0 : n0 ≤ h0.size) (E_a1 : Exa Z h0 a1 "java/util/ArrayList") (g_a1 : n0 ≤ a1) (F_modCount : Fld Z h0 a1 "java/util/AbstractList" "modCount" "I" (.int mc)) (F_elementData : Fld Z h0 a1 "java/util/ArrayList" "elementData" "[Ljava/lang/Object;" (.ref aD)) (F_size : Fld Z h0 a1 "java/util/ArrayList" "size" "I" (.int 0)) (SD : Sta Z h0 "java/util/ArrayList" "DEFAULTCAPACITY_EMPTY_ELEMENTDATA" "[Ljava/lang/Object;" (.ref aD)) (OD : own_OL Z h0 aD 0) (nD : a1 ≠ aD) :
    MetFree l (⟨"java/util/ArrayList", "grow", "()[Ljava/lang/Object;"⟩ : MethodName) (head1 (Jvm.Cond.code (⟨"java/util/ArrayList", "grow", "()[Ljava/lang/Object;"⟩ : MethodName) jdk_38_method_7_code 1 (some (.array (.object "java/lang/Object"))) :: ws) ({ frames := 2, cells := 1, slots := 10, locals := 29 } : Room)) (fun a U => a = #[(.ref a1)] ∧ Z.Warmed39 U.vm ∧ U.heap = h0) (fun _ _ _ _ _ => True) (fun _ U o U' => ∃ v L, o = .returned v ∧ QG0 Z a1 aD mc h0 n0 v U'.heap L ∧ FrameEnd U o U' L ({ frames := 2, cells := 1, slots := 10, locals := 29 } : Room).cells ({ frames := 2, cells := 1, slots := 10, locals := 29 } : Room).slots) := by
  refine MetFree.of_bodySF (plainFor_of_name pn_java_util_ArrayList) hisR ?_
  intro p e s m args below meth c s₁ Bd hml0 hP hK
  obtain ⟨rfl, hZ, hh⟩ := hP
  have hx := Bd.exec
  have hby := Bd.bytes
  have hml : c.maxLocals = 1 := hml0
  have hown : s.vm.findClass "java/util/ArrayList" = some m.cls := findClass_of_methodNamed Bd.named
  have hnm := (name_of_methodNamed Bd.named Bd.method).1
  have X0 : Stand p l e ({ frames := 2, cells := 1, slots := 10, locals := 29 } : Room) s m #[(.ref a1)] below meth c s₁ [] 0 0 := Stand.of_body Bd
  have e0 : s₁.heap = h0 := by rw [← hh, Bd.state]; rfl
  have N0 := Fr.nil n0
  have pre0 : ∀ tG, Steps p.tables e below (s₁.setTop (mkF m 0 #[.val (.ref a1)] [])) tG → Steps p.tables e below (s₁.setTop (entryFrame m #[(.ref a1)] 1)) tG := fun tG kG => castTop (ef_rmG0 m a1) kG
  obtain ⟨T113, X113, e113, st113⟩ := getF X0 hx hZ hown (host := "") (Or.inl (own_w hw 90 rfl)) Via.refl e0 F_size (g := (mkF m 2 #[.val (.ref a1)] [(.ref a1), (.ref a1)])) rfl rfl (hb hby d16_2)
  obtain ⟨cq114, q114, q114'⟩ := E_a1.cell
  obtain ⟨_, _, ⟨T114, L114, k114, n114⟩, -, X114, ⟨Lc114, hQ114, l114, y114, z114⟩, st114⟩ := X113.privateBack hx (y := (⟨"java/util/ArrayList", "grow", "(I)[Ljava/lang/Object;"⟩ : MethodName)) hown (mvT hZ (own_w hw 102 rfl)) (mvT hZ (own_w hw 103 rfl)) (mvT hZ (own_w hw 105 rfl)) (Cond.privateMethod_at (mvP hZ (own_w hw 104 rfl) (args := #[]))) (mvT hZ (own_w hw 106 rfl)) (by decide) (backOf (W := 0) (rmG1 l Z a0 hw [] a1 aD mc h0 n0 Z0 E_a1 g_a1 F_modCount F_elementData F_size SD OD nD) hZ (own_w hw 106 rfl) (own_w hw 57 rfl) (by decide) (by decide)) (g := (mkF m 7 #[.val (.ref a1)] [(.int 1), (.ref a1)])) rfl (by rw [hml]; rfl) (Steps.refl _) (a := a1) (by rw [e113]; exact q114) q114' (argsL := [(.int 1)]) (rest := []) (lenOf pd_28I295bLjava2flang2fObject3b rfl) rfl (by show 2 * 0 + _ ≤ _; exact Nat.le_of_eq rfl) (hb hby d16_7) (fun _ _ => ⟨rfl, e113, (by decide : 0 + 1 ≤ _), (by decide : 0 + 10 ≤ _)⟩)
  dsimp only [Pt.U, Pt.locs, Pt.cells, Pt.slots] at X114 l114 y114 z114 st114 hQ114
  subst l114 y114 z114
  obtain ⟨c114, rfl, N114q, Kq114, lt114, OA114, E114x, F114_modCount, F114_elementData, F114_size⟩ := hQ114
  have gg114_c114 : n0 ≤ c114 := Nat.le_trans Z0 lt114
  have sz114_c114 : h0.size ≤ c114 := Nat.le_trans (Keep.refl h0 [a1]).1 lt114
  have ne115 : a1 ≠ c114 := Nat.ne_of_lt (Nat.lt_of_lt_of_le E_a1.lt lt114)
  have ne116 : aD ≠ c114 := Nat.ne_of_lt (Nat.lt_of_lt_of_le OD.lt lt114)
  have N114 := Fr.app N0 N114q
  have Z114 : n0 ≤ T114.heap.size := Nat.le_trans Z0 Kq114.1
  have K114 : Keep h0 T114.heap [a1] := (Keep.refl h0 [a1]).trans Kq114 (allS (Or.inl (List.mem_of_getElem? (i := 0) rfl)) all0)
  have f117 : Exa Z T114.heap a1 "java/util/ArrayList" := E_a1.keep Kq114
  have f121 : Sta Z T114.heap "java/util/ArrayList" "DEFAULTCAPACITY_EMPTY_ELEMENTDATA" "[Ljava/lang/Object;" (.ref aD) := own_sta_keep SD Kq114 (nsS E_a1.nostat ns0)
  have f122 : own_OL Z T114.heap aD (0 : Int32) := OD.keep Kq114 (ninS (Ne.symm nD) nin0)
  obtain ⟨fs, hr, hrun, hended, hW, hsame⟩ := X114.leave (v := some (.ref c114)) (fun h => by rw [Bd.returns] at h; cases h)
  refine ⟨_, _, pre0 _ ?_, hrun, hended, _, _, rfl, ?_, ⟨_, rfl⟩, hW, hsame.mono (by decide) (by decide)⟩
  · refine own_aloadN X0.here hx (hb hby d16_0) rfl rfl ?_
    refine own_aloadN X0.here hx (hb hby d16_1) rfl rfl ?_
    refine st113 _ ?_
    show Steps p.tables e below (T113.setTop (mkF m 5 #[.val (.ref a1)] [(.int 0), (.ref a1)])) _
    refine own_iconst X113.here hx (1 : Int32) (hb hby d16_5) rfl ?_
    refine own_iadd X113.here hx (hb hby d16_6) ?_
    show Steps p.tables e below (T113.setTop (mkF m 7 #[.val (.ref a1)] [(.int 1), (.ref a1)])) _
    refine st114.trans ?_
    show Steps p.tables e below (T114.setTop (mkF m 10 #[.val (.ref a1)] [(.ref c114)])) _
    jvm_step X114.here [X114.here.top, hx, (hb hby d16_10), X114.method', Bd.returns, Value.isRef, FieldType.isReference]
    first | (intro acts; rw [hr _ acts rfl rfl rfl]) | rw [hr _ _ rfl rfl rfl]
    exact Steps.refl _
  · show QG0 Z a1 aD mc h0 n0 _ T114.heap _
    exact ⟨c114, rfl, N114, K114, sz114_c114, OA114, E114x, F114_modCount, F114_elementData, F114_size⟩
theorem ef_rmA3G (m : MethodId) (x0 : Addr) (x1 : Addr) (x2 : Addr) (x3 : Int32) : entryFrame m #[(.ref x0), (.ref x1), (.ref x2), (.int x3)] 4 = mkF m 0 #[.val (.ref x0), .val (.ref x1), .val (.ref x2), .val (.int x3)] [] := by first | (simp [entryFrame, mkF, argsToLocals, Value.category]; done) | rfl
def QA3G (Z : State) (a1 : Addr) (a2 : Addr) (aD : Addr) (mc : Int32) (h0 : Heap) (n0 : Nat) (v : Option Value) (h : Heap) (L : List Loc) : Prop := v = none ∧ Fr n0 L ∧ Keep h0 h [a1] ∧ ∃ b, h0.size ≤ b ∧ own_OA Z h b 10 ∧ Exa Z h a1 "java/util/ArrayList" ∧ Fld Z h a1 "java/util/AbstractList" "modCount" "I" (.int mc) ∧ Fld Z h a1 "java/util/ArrayList" "elementData" "[Ljava/lang/Object;" (.ref b) ∧ Fld Z h a1 "java/util/ArrayList" "size" "I" (.int 1)
theorem d15_0 : decode jdk_38_method_24_code 0 = .ok (.iload_n 3, 1) := by decide +kernel
theorem d15_1 : decode jdk_38_method_24_code 1 = .ok (.aload_n 2, 1) := by decide +kernel
theorem d15_2 : decode jdk_38_method_24_code 2 = .ok (.arraylength, 1) := by decide +kernel
theorem d15_3 : decode jdk_38_method_24_code 3 = .ok (.if_icmp .ne 8, 3) := by decide +kernel
theorem d15_6 : decode jdk_38_method_24_code 6 = .ok (.aload_n 0, 1) := by decide +kernel
theorem d15_7 : decode jdk_38_method_24_code 7 = .ok (.invokevirtual 129, 3) := by decide +kernel
theorem pd_28295bLjava2flang2fObject3b : parseMethodDescriptor "()[Ljava/lang/Object;" = some ⟨[], some (.array (.object "java/lang/Object"))⟩ := by decide +kernel
theorem d15_10 : decode jdk_38_method_24_code 10 = .ok (.astore_n 2, 1) := by decide +kernel
theorem d15_11 : decode jdk_38_method_24_code 11 = .ok (.aload_n 2, 1) := by decide +kernel
theorem d15_12 : decode jdk_38_method_24_code 12 = .ok (.iload_n 3, 1) := by decide +kernel
theorem d15_13 : decode jdk_38_method_24_code 13 = .ok (.aload_n 1, 1) := by decide +kernel
theorem d15_14 : decode jdk_38_method_24_code 14 = .ok (.aastore, 1) := by decide +kernel
theorem d15_15 : decode jdk_38_method_24_code 15 = .ok (.aload_n 0, 1) := by decide +kernel
theorem d15_16 : decode jdk_38_method_24_code 16 = .ok (.iload_n 3, 1) := by decide +kernel
theorem d15_17 : decode jdk_38_method_24_code 17 = .ok (.iconst 1, 1) := by decide +kernel
theorem d15_18 : decode jdk_38_method_24_code 18 = .ok (.iadd, 1) := by decide +kernel
theorem d15_19 : decode jdk_38_method_24_code 19 = .ok (.putfield 48, 3) := by decide +kernel
theorem d15_22 : decode jdk_38_method_24_code 22 = .ok (.return_, 1) := by decide +kernel
set_option maxRecDepth 65536 in
set_option maxHeartbeats 40000000 in
theorem rmA3G (l : Launch) (Z : State) (a0 : Array Value) (hw : ∀ d ∈ tables_1, d.before a0 Z = true) (ws : List Jvm.Cond) (a1 : Addr) (a2 : Addr) (aD : Addr) (mc : Int32) (h0 : Heap) (n0 : Nat) (Z0 : n0 ≤ h0.size) (E_a1 : Exa Z h0 a1 "java/util/ArrayList") (g_a1 : n0 ≤ a1) (F_modCount : Fld Z h0 a1 "java/util/AbstractList" "modCount" "I" (.int mc)) (F_elementData : Fld Z h0 a1 "java/util/ArrayList" "elementData" "[Ljava/lang/Object;" (.ref aD)) (F_size : Fld Z h0 a1 "java/util/ArrayList" "size" "I" (.int 0)) (SD : Sta Z h0 "java/util/ArrayList" "DEFAULTCAPACITY_EMPTY_ELEMENTDATA" "[Ljava/lang/Object;" (.ref aD)) (OD : own_OL Z h0 aD 0) (nD : a1 ≠ aD) (E_a2 : Exa Z h0 a2 "java/lang/String") :
    MetFree l (⟨"java/util/ArrayList", "add", "(Ljava/lang/Object;[Ljava/lang/Object;I)V"⟩ : MethodName) (head1 (Jvm.Cond.code (⟨"java/util/ArrayList", "add", "(Ljava/lang/Object;[Ljava/lang/Object;I)V"⟩ : MethodName) jdk_38_method_24_code 4 none :: ws) ({ frames := 3, cells := 1, slots := 10, locals := 41 } : Room)) (fun a U => a = #[(.ref a1), (.ref a2), (.ref aD), (.int 0)] ∧ Z.Warmed39 U.vm ∧ U.heap = h0) (fun _ _ _ _ _ => True) (fun _ U o U' => ∃ v L, o = .returned v ∧ QA3G Z a1 a2 aD mc h0 n0 v U'.heap L ∧ FrameEnd U o U' L ({ frames := 3, cells := 1, slots := 10, locals := 41 } : Room).cells ({ frames := 3, cells := 1, slots := 10, locals := 41 } : Room).slots) := by
  refine MetFree.of_bodySF (plainFor_of_name pn_java_util_ArrayList) hisR ?_
  intro p e s m args below meth c s₁ Bd hml0 hP hK
  obtain ⟨rfl, hZ, hh⟩ := hP
  have hx := Bd.exec
  have hby := Bd.bytes
  have hml : c.maxLocals = 4 := hml0
  have hown : s.vm.findClass "java/util/ArrayList" = some m.cls := findClass_of_methodNamed Bd.named
  have hnm := (name_of_methodNamed Bd.named Bd.method).1
  have X0 : Stand p l e ({ frames := 3, cells := 1, slots := 10, locals := 41 } : Room) s m #[(.ref a1), (.ref a2), (.ref aD), (.int 0)] below meth c s₁ [] 0 0 := Stand.of_body Bd
  have e0 : s₁.heap = h0 := by rw [← hh, Bd.state]; rfl
  have N0 := Fr.nil n0
  have pre0 : ∀ tG, Steps p.tables e below (s₁.setTop (mkF m 0 #[.val (.ref a1), .val (.ref a2), .val (.ref aD), .val (.int 0)] [])) tG → Steps p.tables e below (s₁.setTop (entryFrame m #[(.ref a1), (.ref a2), (.ref aD), (.int 0)] 4)) tG := fun tG kG => castTop (ef_rmA3G m a1 a2 aD (0 : Int32)) kG
  obtain ⟨cl123, Ar123, S123, M123⟩ := id OD
  obtain ⟨cq124, q124, q124'⟩ := E_a1.cell
  obtain ⟨_, _, ⟨T124, L124, k124, n124⟩, -, X124, ⟨Lc124, hQ124, l124, y124, z124⟩, st124⟩ := X0.privateBack hx (y := (⟨"java/util/ArrayList", "grow", "()[Ljava/lang/Object;"⟩ : MethodName)) hown (mvT hZ (own_w hw 97 rfl)) (mvT hZ (own_w hw 98 rfl)) (mvT hZ (own_w hw 100 rfl)) (Cond.privateMethod_at (mvP hZ (own_w hw 99 rfl) (args := #[]))) (mvT hZ (own_w hw 101 rfl)) (by decide) (backOf (W := 0) (rmG0 l Z a0 hw [] a1 aD mc h0 n0 Z0 E_a1 g_a1 F_modCount F_elementData F_size SD OD nD) hZ (own_w hw 101 rfl) (own_w hw 57 rfl) (by decide) (by decide)) (g := (mkF m 7 #[.val (.ref a1), .val (.ref a2), .val (.ref aD), .val (.int 0)] [(.ref a1)])) rfl (by rw [hml]; rfl) (Steps.refl _) (a := a1) (by rw [e0]; exact q124) q124' (argsL := []) (rest := []) (lenOf pd_28295bLjava2flang2fObject3b rfl) rfl (by show 2 * 0 + _ ≤ _; exact Nat.le_of_eq rfl) (hb hby d15_7) (fun _ _ => ⟨rfl, e0, (by decide : 0 + 1 ≤ _), (by decide : 0 + 10 ≤ _)⟩)
  dsimp only [Pt.U, Pt.locs, Pt.cells, Pt.slots] at X124 l124 y124 z124 st124 hQ124
  subst l124 y124 z124
  obtain ⟨c124, rfl, N124q, Kq124, lt124, OA124, E124x, F124_modCount, F124_elementData, F124_size⟩ := hQ124
  have gg124_c124 : n0 ≤ c124 := Nat.le_trans Z0 lt124
  have sz124_c124 : h0.size ≤ c124 := Nat.le_trans (Keep.refl h0 [a1]).1 lt124
  have ne125 : a1 ≠ c124 := Nat.ne_of_lt (Nat.lt_of_lt_of_le E_a1.lt lt124)
  have ne126 : aD ≠ c124 := Nat.ne_of_lt (Nat.lt_of_lt_of_le OD.lt lt124)
  have ne127 : a2 ≠ c124 := Nat.ne_of_lt (Nat.lt_of_lt_of_le E_a2.lt lt124)
  have N124 := Fr.app N0 N124q
  have Z124 : n0 ≤ T124.heap.size := Nat.le_trans Z0 Kq124.1
  have K124 : Keep h0 T124.heap [a1] := (Keep.refl h0 [a1]).trans Kq124 (allS (Or.inl (List.mem_of_getElem? (i := 0) rfl)) all0)
  have f128 : Exa Z T124.heap a1 "java/util/ArrayList" := E_a1.keep Kq124
  have f132 : Sta Z T124.heap "java/util/ArrayList" "DEFAULTCAPACITY_EMPTY_ELEMENTDATA" "[Ljava/lang/Object;" (.ref aD) := own_sta_keep SD Kq124 (nsS E_a1.nostat ns0)
  have f133 : Exa Z T124.heap a2 "java/lang/String" := E_a2.keep Kq124
  have f134 : own_OL Z T124.heap aD (0 : Int32) := OD.keep Kq124 (ninS (Ne.symm nD) nin0)
  obtain ⟨cl135, Ar135, S135, M135, O135⟩ := id OA124
  obtain ⟨T135, h135, X135, e135, W135, st135⟩ := stR X124 hx hZ rfl Ar135 (j := (0 : Int32)) (inb_of S135 ⟨(by decide), (by decide)⟩) rfl (Sto.of Ar135 O135 (Ins.of_exa f133 (own_w hw 113 rfl))) (g := (mkF m 14 #[.val (.ref a1), .val (.ref a2), .val (.ref c124), .val (.int 0)] [(.ref a2), (.int 0), (.ref c124)])) rfl rfl (hb hby d15_14)
  have f136 : Exa Z h135 a1 "java/util/ArrayList" := E124x.wr W135
  have f137 : Sta Z h135 "java/util/ArrayList" "DEFAULTCAPACITY_EMPTY_ELEMENTDATA" "[Ljava/lang/Object;" (.ref aD) := f132.wr W135
  have f138 : Exa Z h135 a2 "java/lang/String" := f133.wr W135
  have f139 : Fld Z h135 a1 "java/util/AbstractList" "modCount" "I" (.int mc) := F124_modCount.other W135 (Or.inl ne125)
  have f140 : Fld Z h135 a1 "java/util/ArrayList" "elementData" "[Ljava/lang/Object;" (.ref c124) := F124_elementData.other W135 (Or.inl ne125)
  have f141 : Fld Z h135 a1 "java/util/ArrayList" "size" "I" (.int 0) := F124_size.other W135 (Or.inl ne125)
  have f142 : own_OL Z h135 aD (0 : Int32) := f134.other W135 ne126
  have V135 : own_OA Z h135 c124 (10 : Int32) := OA124.st W135
  have N135 := Fr.snoc X135 N124 gg124_c124
  have Z135 : n0 ≤ h135.size := Nat.le_trans Z124 (Keep.of_wr W135).1
  have K135 : Keep h0 h135 [a1] := K124.wr W135 (Or.inr sz124_c124)
  obtain ⟨T144, h144, X144, e144, W144, st144⟩ := putF X135 hx hZ hown (host := "") (Or.inl (own_w hw 90 rfl)) Via.refl e135 f141 f136 (Or.inl (own_w hw 91 rfl)) (own_w hw 56 rfl) (ty := .int) (by decide) rfl rfl (g := (mkF m 19 #[.val (.ref a1), .val (.ref a2), .val (.ref c124), .val (.int 0)] [(.int 1), (.ref a1)])) rfl rfl (hb hby d15_19)
  have f145 : Exa Z h144 a1 "java/util/ArrayList" := f136.wr W144
  have f146 : Sta Z h144 "java/util/ArrayList" "DEFAULTCAPACITY_EMPTY_ELEMENTDATA" "[Ljava/lang/Object;" (.ref aD) := f137.wr W144
  have f147 : Exa Z h144 a2 "java/lang/String" := f138.wr W144
  have f148 : Fld Z h144 a1 "java/util/AbstractList" "modCount" "I" (.int mc) := f139.other W144 (Or.inr (slot_ne (Or.inl (own_w hw 75 rfl)) (Or.inl (own_w hw 91 rfl)) (by decide) (t := .int) (t' := .int) (by decide) (by decide)))
  have f149 : Fld Z h144 a1 "java/util/ArrayList" "elementData" "[Ljava/lang/Object;" (.ref c124) := f140.other W144 (Or.inr (slot_ne (Or.inl (own_w hw 78 rfl)) (Or.inl (own_w hw 91 rfl)) (by decide) (t := (.array (.object "java/lang/Object"))) (t' := .int) (by decide) (by decide)))
  have f151 : own_OL Z h144 aD (0 : Int32) := f142.other W144 (Ne.symm nD)
  have f152 : own_OA Z h144 c124 (10 : Int32) := V135.other W144 (Ne.symm ne125)
  have f153 : Fld Z h144 a1 "java/util/ArrayList" "size" "I" (.int 1) := f141.same W144
  have N144 := Fr.snoc X144 N135 g_a1
  have Z144 : n0 ≤ h144.size := Nat.le_trans Z135 (Keep.of_wr W144).1
  have K144 : Keep h0 h144 [a1] := K135.wr W144 (Or.inl (List.mem_of_getElem? (i := 0) rfl))
  obtain ⟨fs, hr, hrun, hended, hW, hsame⟩ := X144.leave (v := none) (fun _ => rfl)
  refine ⟨_, _, pre0 _ ?_, hrun, hended, _, _, rfl, ?_, ⟨_, rfl⟩, hW, hsame.mono (by decide) (by decide)⟩
  · refine own_iloadN X0.here hx (hb hby d15_0) rfl ?_
    refine own_aloadN X0.here hx (hb hby d15_1) rfl rfl ?_
    refine X0.arraylength hx (by rw [e0]; exact Ar123.1) (State.isArrayOf_alike hZ.alike Ar123.2.1) (g := (mkF m 2 #[.val (.ref a1), .val (.ref a2), .val (.ref aD), .val (.int 0)] [(.ref aD), (.int 0)])) rfl rfl (hb hby d15_2) _ ?_
    rw [len_of S123 M123]
    show Steps p.tables e below (s₁.setTop (mkF m 3 #[.val (.ref a1), .val (.ref a2), .val (.ref aD), .val (.int 0)] [(.int 0), (.int 0)])) _
    refine own_icmpNo X0.here hx (hb hby d15_3) (teq (by decide : (0 : Int32) = (0 : Int32))).2 ?_
    refine own_aloadN X0.here hx (hb hby d15_6) rfl rfl ?_
    refine st124.trans ?_
    show Steps p.tables e below (T124.setTop (mkF m 10 #[.val (.ref a1), .val (.ref a2), .val (.ref aD), .val (.int 0)] [(.ref c124)])) _
    refine own_astoreN X124.here hx (hb hby d15_10) rfl (l' := #[.val (.ref a1), .val (.ref a2), .val (.ref c124), .val (.int 0)]) rfl ?_
    refine own_aloadN X124.here hx (hb hby d15_11) rfl rfl ?_
    refine own_iloadN X124.here hx (hb hby d15_12) rfl ?_
    refine own_aloadN X124.here hx (hb hby d15_13) rfl rfl ?_
    refine st135 _ ?_
    show Steps p.tables e below (T135.setTop (mkF m 15 #[.val (.ref a1), .val (.ref a2), .val (.ref c124), .val (.int 0)] [])) _
    refine own_aloadN X135.here hx (hb hby d15_15) rfl rfl ?_
    refine own_iloadN X135.here hx (hb hby d15_16) rfl ?_
    refine own_iconst X135.here hx (1 : Int32) (hb hby d15_17) rfl ?_
    refine own_iadd X135.here hx (hb hby d15_18) ?_
    show Steps p.tables e below (T135.setTop (mkF m 19 #[.val (.ref a1), .val (.ref a2), .val (.ref c124), .val (.int 0)] [(.int 1), (.ref a1)])) _
    refine st144 _ ?_
    show Steps p.tables e below (T144.setTop (mkF m 22 #[.val (.ref a1), .val (.ref a2), .val (.ref c124), .val (.int 0)] [])) _
    exact X144.returnOut hx Bd.returns (hb hby d15_22) hr
  · show QA3G Z a1 a2 aD mc h0 n0 _ T144.heap _
    rw [e144]
    exact ⟨rfl, N144, K144, c124, sz124_c124, f152, f145, f148, f149, f153⟩
theorem ef_rmA1G (m : MethodId) (x0 : Addr) (x1 : Addr) : entryFrame m #[(.ref x0), (.ref x1)] 2 = mkF m 0 #[.val (.ref x0), .val (.ref x1)] [] := by first | (simp [entryFrame, mkF, argsToLocals, Value.category]; done) | rfl
def QA1G (Z : State) (a1 : Addr) (a2 : Addr) (aD : Addr) (mc : Int32) (h0 : Heap) (n0 : Nat) (v : Option Value) (h : Heap) (L : List Loc) : Prop := v = some (.int 1) ∧ Fr n0 L ∧ Keep h0 h [a1] ∧ ∃ b, h0.size ≤ b ∧ own_OA Z h b 10 ∧ Exa Z h a1 "java/util/ArrayList" ∧ Fld Z h a1 "java/util/AbstractList" "modCount" "I" (.int (mc + (1 : Int32))) ∧ Fld Z h a1 "java/util/ArrayList" "elementData" "[Ljava/lang/Object;" (.ref b) ∧ Fld Z h a1 "java/util/ArrayList" "size" "I" (.int 1)
theorem d14_0 : decode jdk_38_method_25_code 0 = .ok (.aload_n 0, 1) := by decide +kernel
theorem d14_1 : decode jdk_38_method_25_code 1 = .ok (.dup, 1) := by decide +kernel
theorem d14_2 : decode jdk_38_method_25_code 2 = .ok (.getfield 63, 3) := by decide +kernel
theorem d14_5 : decode jdk_38_method_25_code 5 = .ok (.iconst 1, 1) := by decide +kernel
theorem d14_6 : decode jdk_38_method_25_code 6 = .ok (.iadd, 1) := by decide +kernel
theorem d14_7 : decode jdk_38_method_25_code 7 = .ok (.putfield 63, 3) := by decide +kernel
theorem d14_10 : decode jdk_38_method_25_code 10 = .ok (.aload_n 0, 1) := by decide +kernel
theorem d14_11 : decode jdk_38_method_25_code 11 = .ok (.aload_n 1, 1) := by decide +kernel
theorem d14_12 : decode jdk_38_method_25_code 12 = .ok (.aload_n 0, 1) := by decide +kernel
theorem d14_13 : decode jdk_38_method_25_code 13 = .ok (.getfield 9, 3) := by decide +kernel
theorem d14_16 : decode jdk_38_method_25_code 16 = .ok (.aload_n 0, 1) := by decide +kernel
theorem d14_17 : decode jdk_38_method_25_code 17 = .ok (.getfield 48, 3) := by decide +kernel
theorem d14_20 : decode jdk_38_method_25_code 20 = .ok (.invokevirtual 131, 3) := by decide +kernel
theorem pd_28Ljava2flang2fObject3b5bLjava2flang2fObject3bI29V : parseMethodDescriptor "(Ljava/lang/Object;[Ljava/lang/Object;I)V" = some ⟨[(.object "java/lang/Object"), (.array (.object "java/lang/Object")), .int], none⟩ := by decide +kernel
theorem d14_23 : decode jdk_38_method_25_code 23 = .ok (.iconst 1, 1) := by decide +kernel
theorem d14_24 : decode jdk_38_method_25_code 24 = .ok (.ireturn, 1) := by decide +kernel
set_option maxRecDepth 65536 in
set_option maxHeartbeats 40000000 in
theorem rmA1G (l : Launch) (Z : State) (a0 : Array Value) (hw : ∀ d ∈ tables_1, d.before a0 Z = true) (ws : List Jvm.Cond) (a1 : Addr) (a2 : Addr) (aD : Addr) (mc : Int32) (h0 : Heap) (n0 : Nat) (Z0 : n0 ≤ h0.size) (E_a1 : Exa Z h0 a1 "java/util/ArrayList") (g_a1 : n0 ≤ a1) (F_modCount : Fld Z h0 a1 "java/util/AbstractList" "modCount" "I" (.int mc)) (F_elementData : Fld Z h0 a1 "java/util/ArrayList" "elementData" "[Ljava/lang/Object;" (.ref aD)) (F_size : Fld Z h0 a1 "java/util/ArrayList" "size" "I" (.int 0)) (SD : Sta Z h0 "java/util/ArrayList" "DEFAULTCAPACITY_EMPTY_ELEMENTDATA" "[Ljava/lang/Object;" (.ref aD)) (OD : own_OL Z h0 aD 0) (nD : a1 ≠ aD) (E_a2 : Exa Z h0 a2 "java/lang/String") :
    MetFree l (⟨"java/util/ArrayList", "add", "(Ljava/lang/Object;)Z"⟩ : MethodName) (head1 (Jvm.Cond.code (⟨"java/util/ArrayList", "add", "(Ljava/lang/Object;)Z"⟩ : MethodName) jdk_38_method_25_code 2 (some .boolean) :: ws) ({ frames := 4, cells := 1, slots := 10, locals := 56 } : Room)) (fun a U => a = #[(.ref a1), (.ref a2)] ∧ Z.Warmed39 U.vm ∧ U.heap = h0) (fun _ _ _ _ _ => True) (fun _ U o U' => ∃ v L, o = .returned v ∧ QA1G Z a1 a2 aD mc h0 n0 v U'.heap L ∧ FrameEnd U o U' L ({ frames := 4, cells := 1, slots := 10, locals := 56 } : Room).cells ({ frames := 4, cells := 1, slots := 10, locals := 56 } : Room).slots) := by
  refine MetFree.of_bodySF (plainFor_of_name pn_java_util_ArrayList) hisR ?_
  intro p e s m args below meth c s₁ Bd hml0 hP hK
  obtain ⟨rfl, hZ, hh⟩ := hP
  have hx := Bd.exec
  have hby := Bd.bytes
  have hml : c.maxLocals = 2 := hml0
  have hown : s.vm.findClass "java/util/ArrayList" = some m.cls := findClass_of_methodNamed Bd.named
  have hnm := (name_of_methodNamed Bd.named Bd.method).1
  have X0 : Stand p l e ({ frames := 4, cells := 1, slots := 10, locals := 56 } : Room) s m #[(.ref a1), (.ref a2)] below meth c s₁ [] 0 0 := Stand.of_body Bd
  have e0 : s₁.heap = h0 := by rw [← hh, Bd.state]; rfl
  have N0 := Fr.nil n0
  have pre0 : ∀ tG, Steps p.tables e below (s₁.setTop (mkF m 0 #[.val (.ref a1), .val (.ref a2)] [])) tG → Steps p.tables e below (s₁.setTop (entryFrame m #[(.ref a1), (.ref a2)] 2)) tG := fun tG kG => castTop (ef_rmA1G m a1 a2) kG
  obtain ⟨T154, X154, e154, st154⟩ := getF X0 hx hZ hown (host := "") (Or.inl (own_w hw 88 rfl)) (Via.of (own_w hw 89 rfl)) e0 F_modCount (g := (mkF m 2 #[.val (.ref a1), .val (.ref a2)] [(.ref a1), (.ref a1)])) rfl rfl (hb hby d14_2)
  obtain ⟨T155, h155, X155, e155, W155, st155⟩ := putF X154 hx hZ hown (host := "") (Or.inl (own_w hw 88 rfl)) (Via.of (own_w hw 89 rfl)) e154 F_modCount E_a1 (Or.inl (own_w hw 75 rfl)) (own_w hw 56 rfl) (ty := .int) (by decide) rfl rfl (g := (mkF m 7 #[.val (.ref a1), .val (.ref a2)] [(.int (mc + (1 : Int32))), (.ref a1)])) rfl rfl (hb hby d14_7)
  have f156 : Exa Z h155 a1 "java/util/ArrayList" := E_a1.wr W155
  have f158 : Fld Z h155 a1 "java/util/ArrayList" "elementData" "[Ljava/lang/Object;" (.ref aD) := F_elementData.other W155 (Or.inr (slot_ne (Or.inl (own_w hw 78 rfl)) (Or.inl (own_w hw 75 rfl)) (by decide) (t := (.array (.object "java/lang/Object"))) (t' := .int) (by decide) (by decide)))
  have f159 : Fld Z h155 a1 "java/util/ArrayList" "size" "I" (.int 0) := F_size.other W155 (Or.inr (slot_ne (Or.inl (own_w hw 91 rfl)) (Or.inl (own_w hw 75 rfl)) (by decide) (t := .int) (t' := .int) (by decide) (by decide)))
  have f160 : Sta Z h155 "java/util/ArrayList" "DEFAULTCAPACITY_EMPTY_ELEMENTDATA" "[Ljava/lang/Object;" (.ref aD) := SD.wr W155
  have f161 : Exa Z h155 a2 "java/lang/String" := E_a2.wr W155
  have f162 : own_OL Z h155 aD (0 : Int32) := OD.other W155 (Ne.symm nD)
  have f163 : Fld Z h155 a1 "java/util/AbstractList" "modCount" "I" (.int (mc + (1 : Int32))) := F_modCount.same W155
  have N155 := Fr.snoc X155 N0 g_a1
  have Z155 : n0 ≤ h155.size := Nat.le_trans Z0 (Keep.of_wr W155).1
  have K155 : Keep h0 h155 [a1] := (Keep.refl h0 [a1]).wr W155 (Or.inl (List.mem_of_getElem? (i := 0) rfl))
  obtain ⟨T164, X164, e164, st164⟩ := getF X155 hx hZ hown (host := "") (Or.inl (own_w hw 77 rfl)) Via.refl e155 f158 (g := (mkF m 13 #[.val (.ref a1), .val (.ref a2)] [(.ref a1), (.ref a2), (.ref a1)])) rfl rfl (hb hby d14_13)
  obtain ⟨T165, X165, e165, st165⟩ := getF X164 hx hZ hown (host := "") (Or.inl (own_w hw 90 rfl)) Via.refl e164 f159 (g := (mkF m 17 #[.val (.ref a1), .val (.ref a2)] [(.ref a1), (.ref aD), (.ref a2), (.ref a1)])) rfl rfl (hb hby d14_17)
  obtain ⟨cq166, q166, q166'⟩ := f156.cell
  obtain ⟨_, _, ⟨T166, L166, k166, n166⟩, -, X166, ⟨Lc166, hQ166, l166, y166, z166⟩, st166⟩ := X165.privateBack hx (y := (⟨"java/util/ArrayList", "add", "(Ljava/lang/Object;[Ljava/lang/Object;I)V"⟩ : MethodName)) hown (mvT hZ (own_w hw 92 rfl)) (mvT hZ (own_w hw 93 rfl)) (mvT hZ (own_w hw 95 rfl)) (Cond.privateMethod_at (mvP hZ (own_w hw 94 rfl) (args := #[]))) (mvT hZ (own_w hw 96 rfl)) (by decide) (backOf (W := 0) (rmA3G l Z a0 hw [] a1 a2 aD (mc + (1 : Int32)) h155 n0 Z155 f156 g_a1 f163 f158 f159 f160 f162 nD f161) hZ (own_w hw 96 rfl) (own_w hw 57 rfl) (by decide) (by decide)) (g := (mkF m 20 #[.val (.ref a1), .val (.ref a2)] [(.int 0), (.ref aD), (.ref a2), (.ref a1)])) rfl (by rw [hml]; rfl) (Steps.refl _) (a := a1) (by rw [e165]; exact q166) q166' (argsL := [(.ref a2), (.ref aD), (.int 0)]) (rest := []) (lenOf pd_28Ljava2flang2fObject3b5bLjava2flang2fObject3bI29V rfl) rfl (by show 2 * 0 + _ ≤ _; exact Nat.le_of_eq rfl) (hb hby d14_20) (fun _ _ => ⟨rfl, e165, (by decide : 0 + 1 ≤ _), (by decide : 0 + 10 ≤ _)⟩)
  dsimp only [Pt.U, Pt.locs, Pt.cells, Pt.slots] at X166 l166 y166 z166 st166 hQ166
  subst l166 y166 z166
  obtain ⟨rfl, N166q, Kq166, c166, lt166, OA166, E166x, F166_modCount, F166_elementData, F166_size⟩ := hQ166
  have gg166_c166 : n0 ≤ c166 := Nat.le_trans Z155 lt166
  have sz166_c166 : h0.size ≤ c166 := Nat.le_trans K155.1 lt166
  have ne167 : a1 ≠ c166 := Nat.ne_of_lt (Nat.lt_of_lt_of_le f156.lt lt166)
  have ne168 : a2 ≠ c166 := Nat.ne_of_lt (Nat.lt_of_lt_of_le f161.lt lt166)
  have ne169 : aD ≠ c166 := Nat.ne_of_lt (Nat.lt_of_lt_of_le f162.lt lt166)
  have N166 := Fr.app N155 N166q
  have Z166 : n0 ≤ T166.heap.size := Nat.le_trans Z155 Kq166.1
  have K166 : Keep h0 T166.heap [a1] := K155.trans Kq166 (allS (Or.inl (List.mem_of_getElem? (i := 0) rfl)) all0)
  have f170 : Exa Z T166.heap a1 "java/util/ArrayList" := f156.keep Kq166
  have f174 : Sta Z T166.heap "java/util/ArrayList" "DEFAULTCAPACITY_EMPTY_ELEMENTDATA" "[Ljava/lang/Object;" (.ref aD) := own_sta_keep f160 Kq166 (nsS f156.nostat ns0)
  have f175 : Exa Z T166.heap a2 "java/lang/String" := f161.keep Kq166
  have f176 : own_OL Z T166.heap aD (0 : Int32) := f162.keep Kq166 (ninS (Ne.symm nD) nin0)
  obtain ⟨fs, hr, hrun, hended, hW, hsame⟩ := X166.leave (v := some (.int 1)) (fun h => by rw [Bd.returns] at h; cases h)
  refine ⟨_, _, pre0 _ ?_, hrun, hended, _, _, rfl, ?_, ⟨_, rfl⟩, hW, hsame.mono (by decide) (by decide)⟩
  · refine own_aloadN X0.here hx (hb hby d14_0) rfl rfl ?_
    refine own_dup X0.here hx (hb hby d14_1) rfl ?_
    refine st154 _ ?_
    show Steps p.tables e below (T154.setTop (mkF m 5 #[.val (.ref a1), .val (.ref a2)] [(.int mc), (.ref a1)])) _
    refine own_iconst X154.here hx (1 : Int32) (hb hby d14_5) rfl ?_
    refine own_iadd X154.here hx (hb hby d14_6) ?_
    refine st155 _ ?_
    show Steps p.tables e below (T155.setTop (mkF m 10 #[.val (.ref a1), .val (.ref a2)] [])) _
    refine own_aloadN X155.here hx (hb hby d14_10) rfl rfl ?_
    refine own_aloadN X155.here hx (hb hby d14_11) rfl rfl ?_
    refine own_aloadN X155.here hx (hb hby d14_12) rfl rfl ?_
    refine st164 _ ?_
    show Steps p.tables e below (T164.setTop (mkF m 16 #[.val (.ref a1), .val (.ref a2)] [(.ref aD), (.ref a2), (.ref a1)])) _
    refine own_aloadN X164.here hx (hb hby d14_16) rfl rfl ?_
    refine st165 _ ?_
    show Steps p.tables e below (T165.setTop (mkF m 20 #[.val (.ref a1), .val (.ref a2)] [(.int 0), (.ref aD), (.ref a2), (.ref a1)])) _
    refine st166.trans ?_
    show Steps p.tables e below (T166.setTop (mkF m 23 #[.val (.ref a1), .val (.ref a2)] [])) _
    refine own_iconst X166.here hx (1 : Int32) (hb hby d14_23) rfl ?_
    exact retN X166 hx (t := .boolean) Bd.returns (by simp) (hb hby d14_24) hr
  · show QA1G Z a1 a2 aD mc h0 n0 _ T166.heap _
    exact ⟨rfl, N166, K166, c166, sz166_c166, OA166, E166x, F166_modCount, F166_elementData, F166_size⟩
theorem own_ne10 {k : Int32} (h : k < (10 : Int32)) : ¬ k = (10 : Int32) := fun e => by subst e; exact absurd h (by decide)
theorem ef_rmA3R (m : MethodId) (x0 : Addr) (x1 : Addr) (x2 : Addr) (x3 : Int32) : entryFrame m #[(.ref x0), (.ref x1), (.ref x2), (.int x3)] 4 = mkF m 0 #[.val (.ref x0), .val (.ref x1), .val (.ref x2), .val (.int x3)] [] := by first | (simp [entryFrame, mkF, argsToLocals, Value.category]; done) | rfl
def QA3R (Z : State) (a1 : Addr) (a2 : Addr) (d1 : Addr) (k : Int32) (mc : Int32) (h0 : Heap) (n0 : Nat) (v : Option Value) (h : Heap) (L : List Loc) : Prop := v = none ∧ Fr n0 L ∧ Keep h0 h [a1, d1] ∧ own_OA Z h d1 10 ∧ Exa Z h a1 "java/util/ArrayList" ∧ Fld Z h a1 "java/util/AbstractList" "modCount" "I" (.int mc) ∧ Fld Z h a1 "java/util/ArrayList" "elementData" "[Ljava/lang/Object;" (.ref d1) ∧ Fld Z h a1 "java/util/ArrayList" "size" "I" (.int (k + (1 : Int32)))
set_option maxRecDepth 65536 in
set_option maxHeartbeats 40000000 in
theorem rmA3R (l : Launch) (Z : State) (a0 : Array Value) (hw : ∀ d ∈ tables_1, d.before a0 Z = true) (ws : List Jvm.Cond) (a1 : Addr) (a2 : Addr) (d1 : Addr) (k : Int32) (mc : Int32) (h0 : Heap) (n0 : Nat) (Z0 : n0 ≤ h0.size) (E_a1 : Exa Z h0 a1 "java/util/ArrayList") (g_a1 : n0 ≤ a1) (F_modCount : Fld Z h0 a1 "java/util/AbstractList" "modCount" "I" (.int mc)) (F_elementData : Fld Z h0 a1 "java/util/ArrayList" "elementData" "[Ljava/lang/Object;" (.ref d1)) (F_size : Fld Z h0 a1 "java/util/ArrayList" "size" "I" (.int k)) (OD : own_OA Z h0 d1 10) (nD : a1 ≠ d1) (gd : n0 ≤ d1) (E_a2 : Exa Z h0 a2 "java/lang/String") (hk0 : ¬ k < (0 : Int32)) (hk1 : k < (10 : Int32)) :
    MetFree l (⟨"java/util/ArrayList", "add", "(Ljava/lang/Object;[Ljava/lang/Object;I)V"⟩ : MethodName) (head1 (Jvm.Cond.code (⟨"java/util/ArrayList", "add", "(Ljava/lang/Object;[Ljava/lang/Object;I)V"⟩ : MethodName) jdk_38_method_24_code 4 none :: ws) ({ frames := 0, cells := 0, slots := 0, locals := 0 } : Room)) (fun a U => a = #[(.ref a1), (.ref a2), (.ref d1), (.int k)] ∧ Z.Warmed39 U.vm ∧ U.heap = h0) (fun _ _ _ _ _ => True) (fun _ U o U' => ∃ v L, o = .returned v ∧ QA3R Z a1 a2 d1 k mc h0 n0 v U'.heap L ∧ FrameEnd U o U' L ({ frames := 0, cells := 0, slots := 0, locals := 0 } : Room).cells ({ frames := 0, cells := 0, slots := 0, locals := 0 } : Room).slots) := by
  refine MetFree.of_bodySF (plainFor_of_name pn_java_util_ArrayList) hisR ?_
  intro p e s m args below meth c s₁ Bd hml0 hP hK
  obtain ⟨rfl, hZ, hh⟩ := hP
  have hx := Bd.exec
  have hby := Bd.bytes
  have hml : c.maxLocals = 4 := hml0
  have hown : s.vm.findClass "java/util/ArrayList" = some m.cls := findClass_of_methodNamed Bd.named
  have hnm := (name_of_methodNamed Bd.named Bd.method).1
  have X0 : Stand p l e ({ frames := 0, cells := 0, slots := 0, locals := 0 } : Room) s m #[(.ref a1), (.ref a2), (.ref d1), (.int k)] below meth c s₁ [] 0 0 := Stand.of_body Bd
  have e0 : s₁.heap = h0 := by rw [← hh, Bd.state]; rfl
  have N0 := Fr.nil n0
  have pre0 : ∀ tG, Steps p.tables e below (s₁.setTop (mkF m 0 #[.val (.ref a1), .val (.ref a2), .val (.ref d1), .val (.int k)] [])) tG → Steps p.tables e below (s₁.setTop (entryFrame m #[(.ref a1), (.ref a2), (.ref d1), (.int k)] 4)) tG := fun tG kG => castTop (ef_rmA3R m a1 a2 d1 k) kG
  obtain ⟨cl177, Ar177, S177, M177⟩ := id OD.ol
  obtain ⟨cl178, Ar178, S178, M178, O178⟩ := id OD
  obtain ⟨T178, h178, X178, e178, W178, st178⟩ := stR X0 hx hZ e0 Ar178 (j := k) (inb_of S178 ⟨hk0, hk1⟩) rfl (Sto.of Ar178 O178 (Ins.of_exa E_a2 (own_w hw 113 rfl))) (g := (mkF m 14 #[.val (.ref a1), .val (.ref a2), .val (.ref d1), .val (.int k)] [(.ref a2), (.int k), (.ref d1)])) rfl rfl (hb hby d15_14)
  have f179 : Exa Z h178 a1 "java/util/ArrayList" := E_a1.wr W178
  have f180 : Fld Z h178 a1 "java/util/AbstractList" "modCount" "I" (.int mc) := F_modCount.other W178 (Or.inl nD)
  have f181 : Fld Z h178 a1 "java/util/ArrayList" "elementData" "[Ljava/lang/Object;" (.ref d1) := F_elementData.other W178 (Or.inl nD)
  have f182 : Fld Z h178 a1 "java/util/ArrayList" "size" "I" (.int k) := F_size.other W178 (Or.inl nD)
  have f183 : Exa Z h178 a2 "java/lang/String" := E_a2.wr W178
  have V178 : own_OA Z h178 d1 (10 : Int32) := OD.st W178
  have N178 := Fr.snoc X178 N0 gd
  have Z178 : n0 ≤ h178.size := Nat.le_trans Z0 (Keep.of_wr W178).1
  have K178 : Keep h0 h178 [a1, d1] := (Keep.refl h0 [a1, d1]).wr W178 (Or.inl (List.mem_of_getElem? (i := 1) rfl))
  obtain ⟨T185, h185, X185, e185, W185, st185⟩ := putF X178 hx hZ hown (host := "") (Or.inl (own_w hw 90 rfl)) Via.refl e178 f182 f179 (Or.inl (own_w hw 91 rfl)) (own_w hw 56 rfl) (ty := .int) (by decide) rfl rfl (g := (mkF m 19 #[.val (.ref a1), .val (.ref a2), .val (.ref d1), .val (.int k)] [(.int (k + (1 : Int32))), (.ref a1)])) rfl rfl (hb hby d15_19)
  have f186 : Exa Z h185 a1 "java/util/ArrayList" := f179.wr W185
  have f187 : Fld Z h185 a1 "java/util/AbstractList" "modCount" "I" (.int mc) := f180.other W185 (Or.inr (slot_ne (Or.inl (own_w hw 75 rfl)) (Or.inl (own_w hw 91 rfl)) (by decide) (t := .int) (t' := .int) (by decide) (by decide)))
  have f188 : Fld Z h185 a1 "java/util/ArrayList" "elementData" "[Ljava/lang/Object;" (.ref d1) := f181.other W185 (Or.inr (slot_ne (Or.inl (own_w hw 78 rfl)) (Or.inl (own_w hw 91 rfl)) (by decide) (t := (.array (.object "java/lang/Object"))) (t' := .int) (by decide) (by decide)))
  have f190 : Exa Z h185 a2 "java/lang/String" := f183.wr W185
  have f191 : own_OA Z h185 d1 (10 : Int32) := V178.other W185 (Ne.symm nD)
  have f192 : Fld Z h185 a1 "java/util/ArrayList" "size" "I" (.int (k + (1 : Int32))) := f182.same W185
  have N185 := Fr.snoc X185 N178 g_a1
  have Z185 : n0 ≤ h185.size := Nat.le_trans Z178 (Keep.of_wr W185).1
  have K185 : Keep h0 h185 [a1, d1] := K178.wr W185 (Or.inl (List.mem_of_getElem? (i := 0) rfl))
  obtain ⟨fs, hr, hrun, hended, hW, hsame⟩ := X185.leave (v := none) (fun _ => rfl)
  refine ⟨_, _, pre0 _ ?_, hrun, hended, _, _, rfl, ?_, ⟨_, rfl⟩, hW, hsame.mono (by decide) (by decide)⟩
  · refine own_iloadN X0.here hx (hb hby d15_0) rfl ?_
    refine own_aloadN X0.here hx (hb hby d15_1) rfl rfl ?_
    refine X0.arraylength hx (by rw [e0]; exact Ar177.1) (State.isArrayOf_alike hZ.alike Ar177.2.1) (g := (mkF m 2 #[.val (.ref a1), .val (.ref a2), .val (.ref d1), .val (.int k)] [(.ref d1), (.int k)])) rfl rfl (hb hby d15_2) _ ?_
    rw [len_of S177 M177]
    show Steps p.tables e below (s₁.setTop (mkF m 3 #[.val (.ref a1), .val (.ref a2), .val (.ref d1), .val (.int k)] [(.int 10), (.int k)])) _
    refine own_icmpYes X0.here hx 3 11 rfl (hb hby d15_3) (feq (own_ne10 hk1)).2 (by decide) (by decide) ?_
    refine own_aloadN X0.here hx (hb hby d15_11) rfl rfl ?_
    refine own_iloadN X0.here hx (hb hby d15_12) rfl ?_
    refine own_aloadN X0.here hx (hb hby d15_13) rfl rfl ?_
    refine st178 _ ?_
    show Steps p.tables e below (T178.setTop (mkF m 15 #[.val (.ref a1), .val (.ref a2), .val (.ref d1), .val (.int k)] [])) _
    refine own_aloadN X178.here hx (hb hby d15_15) rfl rfl ?_
    refine own_iloadN X178.here hx (hb hby d15_16) rfl ?_
    refine own_iconst X178.here hx (1 : Int32) (hb hby d15_17) rfl ?_
    refine own_iadd X178.here hx (hb hby d15_18) ?_
    refine st185 _ ?_
    show Steps p.tables e below (T185.setTop (mkF m 22 #[.val (.ref a1), .val (.ref a2), .val (.ref d1), .val (.int k)] [])) _
    exact X185.returnOut hx Bd.returns (hb hby d15_22) hr
  · show QA3R Z a1 a2 d1 k mc h0 n0 _ T185.heap _
    rw [e185]
    exact ⟨rfl, N185, K185, f191, f186, f187, f188, f192⟩
theorem ef_rmA1R (m : MethodId) (x0 : Addr) (x1 : Addr) : entryFrame m #[(.ref x0), (.ref x1)] 2 = mkF m 0 #[.val (.ref x0), .val (.ref x1)] [] := by first | (simp [entryFrame, mkF, argsToLocals, Value.category]; done) | rfl
def QA1R (Z : State) (a1 : Addr) (a2 : Addr) (d1 : Addr) (mc : Int32) (k : Int32) (h0 : Heap) (n0 : Nat) (v : Option Value) (h : Heap) (L : List Loc) : Prop := v = some (.int 1) ∧ Fr n0 L ∧ Keep h0 h [a1, d1] ∧ own_OA Z h d1 10 ∧ Exa Z h a1 "java/util/ArrayList" ∧ Fld Z h a1 "java/util/AbstractList" "modCount" "I" (.int (mc + (1 : Int32))) ∧ Fld Z h a1 "java/util/ArrayList" "elementData" "[Ljava/lang/Object;" (.ref d1) ∧ Fld Z h a1 "java/util/ArrayList" "size" "I" (.int (k + (1 : Int32)))
set_option maxRecDepth 65536 in
set_option maxHeartbeats 40000000 in
theorem rmA1R (l : Launch) (Z : State) (a0 : Array Value) (hw : ∀ d ∈ tables_1, d.before a0 Z = true) (ws : List Jvm.Cond) (a1 : Addr) (a2 : Addr) (d1 : Addr) (mc : Int32) (k : Int32) (h0 : Heap) (n0 : Nat) (Z0 : n0 ≤ h0.size) (E_a1 : Exa Z h0 a1 "java/util/ArrayList") (g_a1 : n0 ≤ a1) (F_modCount : Fld Z h0 a1 "java/util/AbstractList" "modCount" "I" (.int mc)) (F_elementData : Fld Z h0 a1 "java/util/ArrayList" "elementData" "[Ljava/lang/Object;" (.ref d1)) (F_size : Fld Z h0 a1 "java/util/ArrayList" "size" "I" (.int k)) (OD : own_OA Z h0 d1 10) (nD : a1 ≠ d1) (gd : n0 ≤ d1) (E_a2 : Exa Z h0 a2 "java/lang/String") (hk0 : ¬ k < (0 : Int32)) (hk1 : k < (10 : Int32)) :
    MetFree l (⟨"java/util/ArrayList", "add", "(Ljava/lang/Object;)Z"⟩ : MethodName) (head1 (Jvm.Cond.code (⟨"java/util/ArrayList", "add", "(Ljava/lang/Object;)Z"⟩ : MethodName) jdk_38_method_25_code 2 (some .boolean) :: ws) ({ frames := 1, cells := 0, slots := 0, locals := 15 } : Room)) (fun a U => a = #[(.ref a1), (.ref a2)] ∧ Z.Warmed39 U.vm ∧ U.heap = h0) (fun _ _ _ _ _ => True) (fun _ U o U' => ∃ v L, o = .returned v ∧ QA1R Z a1 a2 d1 mc k h0 n0 v U'.heap L ∧ FrameEnd U o U' L ({ frames := 1, cells := 0, slots := 0, locals := 15 } : Room).cells ({ frames := 1, cells := 0, slots := 0, locals := 15 } : Room).slots) := by
  refine MetFree.of_bodySF (plainFor_of_name pn_java_util_ArrayList) hisR ?_
  intro p e s m args below meth c s₁ Bd hml0 hP hK
  obtain ⟨rfl, hZ, hh⟩ := hP
  have hx := Bd.exec
  have hby := Bd.bytes
  have hml : c.maxLocals = 2 := hml0
  have hown : s.vm.findClass "java/util/ArrayList" = some m.cls := findClass_of_methodNamed Bd.named
  have hnm := (name_of_methodNamed Bd.named Bd.method).1
  have X0 : Stand p l e ({ frames := 1, cells := 0, slots := 0, locals := 15 } : Room) s m #[(.ref a1), (.ref a2)] below meth c s₁ [] 0 0 := Stand.of_body Bd
  have e0 : s₁.heap = h0 := by rw [← hh, Bd.state]; rfl
  have N0 := Fr.nil n0
  have pre0 : ∀ tG, Steps p.tables e below (s₁.setTop (mkF m 0 #[.val (.ref a1), .val (.ref a2)] [])) tG → Steps p.tables e below (s₁.setTop (entryFrame m #[(.ref a1), (.ref a2)] 2)) tG := fun tG kG => castTop (ef_rmA1R m a1 a2) kG
  obtain ⟨T193, X193, e193, st193⟩ := getF X0 hx hZ hown (host := "") (Or.inl (own_w hw 88 rfl)) (Via.of (own_w hw 89 rfl)) e0 F_modCount (g := (mkF m 2 #[.val (.ref a1), .val (.ref a2)] [(.ref a1), (.ref a1)])) rfl rfl (hb hby d14_2)
  obtain ⟨T194, h194, X194, e194, W194, st194⟩ := putF X193 hx hZ hown (host := "") (Or.inl (own_w hw 88 rfl)) (Via.of (own_w hw 89 rfl)) e193 F_modCount E_a1 (Or.inl (own_w hw 75 rfl)) (own_w hw 56 rfl) (ty := .int) (by decide) rfl rfl (g := (mkF m 7 #[.val (.ref a1), .val (.ref a2)] [(.int (mc + (1 : Int32))), (.ref a1)])) rfl rfl (hb hby d14_7)
  have f195 : Exa Z h194 a1 "java/util/ArrayList" := E_a1.wr W194
  have f197 : Fld Z h194 a1 "java/util/ArrayList" "elementData" "[Ljava/lang/Object;" (.ref d1) := F_elementData.other W194 (Or.inr (slot_ne (Or.inl (own_w hw 78 rfl)) (Or.inl (own_w hw 75 rfl)) (by decide) (t := (.array (.object "java/lang/Object"))) (t' := .int) (by decide) (by decide)))
  have f198 : Fld Z h194 a1 "java/util/ArrayList" "size" "I" (.int k) := F_size.other W194 (Or.inr (slot_ne (Or.inl (own_w hw 91 rfl)) (Or.inl (own_w hw 75 rfl)) (by decide) (t := .int) (t' := .int) (by decide) (by decide)))
  have f199 : Exa Z h194 a2 "java/lang/String" := E_a2.wr W194
  have f200 : own_OA Z h194 d1 (10 : Int32) := OD.other W194 (Ne.symm nD)
  have f201 : Fld Z h194 a1 "java/util/AbstractList" "modCount" "I" (.int (mc + (1 : Int32))) := F_modCount.same W194
  have N194 := Fr.snoc X194 N0 g_a1
  have Z194 : n0 ≤ h194.size := Nat.le_trans Z0 (Keep.of_wr W194).1
  have K194 : Keep h0 h194 [a1, d1] := (Keep.refl h0 [a1, d1]).wr W194 (Or.inl (List.mem_of_getElem? (i := 0) rfl))
  obtain ⟨T202, X202, e202, st202⟩ := getF X194 hx hZ hown (host := "") (Or.inl (own_w hw 77 rfl)) Via.refl e194 f197 (g := (mkF m 13 #[.val (.ref a1), .val (.ref a2)] [(.ref a1), (.ref a2), (.ref a1)])) rfl rfl (hb hby d14_13)
  obtain ⟨T203, X203, e203, st203⟩ := getF X202 hx hZ hown (host := "") (Or.inl (own_w hw 90 rfl)) Via.refl e202 f198 (g := (mkF m 17 #[.val (.ref a1), .val (.ref a2)] [(.ref a1), (.ref d1), (.ref a2), (.ref a1)])) rfl rfl (hb hby d14_17)
  obtain ⟨cq204, q204, q204'⟩ := f195.cell
  obtain ⟨_, _, ⟨T204, L204, k204, n204⟩, -, X204, ⟨Lc204, hQ204, l204, y204, z204⟩, st204⟩ := X203.privateBack hx (y := (⟨"java/util/ArrayList", "add", "(Ljava/lang/Object;[Ljava/lang/Object;I)V"⟩ : MethodName)) hown (mvT hZ (own_w hw 92 rfl)) (mvT hZ (own_w hw 93 rfl)) (mvT hZ (own_w hw 95 rfl)) (Cond.privateMethod_at (mvP hZ (own_w hw 94 rfl) (args := #[]))) (mvT hZ (own_w hw 96 rfl)) (by decide) (backOf (W := 0) (rmA3R l Z a0 hw [] a1 a2 d1 k (mc + (1 : Int32)) h194 n0 Z194 f195 g_a1 f201 f197 f198 f200 nD gd f199 hk0 hk1) hZ (own_w hw 96 rfl) (own_w hw 57 rfl) (by decide) (by decide)) (g := (mkF m 20 #[.val (.ref a1), .val (.ref a2)] [(.int k), (.ref d1), (.ref a2), (.ref a1)])) rfl (by rw [hml]; rfl) (Steps.refl _) (a := a1) (by rw [e203]; exact q204) q204' (argsL := [(.ref a2), (.ref d1), (.int k)]) (rest := []) (lenOf pd_28Ljava2flang2fObject3b5bLjava2flang2fObject3bI29V rfl) rfl (by show 2 * 0 + _ ≤ _; exact Nat.le_of_eq rfl) (hb hby d14_20) (fun _ _ => ⟨rfl, e203, (by decide : 0 + 0 ≤ _), (by decide : 0 + 0 ≤ _)⟩)
  dsimp only [Pt.U, Pt.locs, Pt.cells, Pt.slots] at X204 l204 y204 z204 st204 hQ204
  subst l204 y204 z204
  obtain ⟨rfl, N204q, Kq204, OA204, E204x, F204_modCount, F204_elementData, F204_size⟩ := hQ204
  have N204 := Fr.app N194 N204q
  have Z204 : n0 ≤ T204.heap.size := Nat.le_trans Z194 Kq204.1
  have K204 : Keep h0 T204.heap [a1, d1] := K194.trans Kq204 (allS (Or.inl (List.mem_of_getElem? (i := 0) rfl)) (allS (Or.inl (List.mem_of_getElem? (i := 1) rfl)) all0))
  have f205 : Exa Z T204.heap a1 "java/util/ArrayList" := f195.keep Kq204
  have f209 : Exa Z T204.heap a2 "java/lang/String" := f199.keep Kq204
  obtain ⟨fs, hr, hrun, hended, hW, hsame⟩ := X204.leave (v := some (.int 1)) (fun h => by rw [Bd.returns] at h; cases h)
  refine ⟨_, _, pre0 _ ?_, hrun, hended, _, _, rfl, ?_, ⟨_, rfl⟩, hW, hsame.mono (by decide) (by decide)⟩
  · refine own_aloadN X0.here hx (hb hby d14_0) rfl rfl ?_
    refine own_dup X0.here hx (hb hby d14_1) rfl ?_
    refine st193 _ ?_
    show Steps p.tables e below (T193.setTop (mkF m 5 #[.val (.ref a1), .val (.ref a2)] [(.int mc), (.ref a1)])) _
    refine own_iconst X193.here hx (1 : Int32) (hb hby d14_5) rfl ?_
    refine own_iadd X193.here hx (hb hby d14_6) ?_
    refine st194 _ ?_
    show Steps p.tables e below (T194.setTop (mkF m 10 #[.val (.ref a1), .val (.ref a2)] [])) _
    refine own_aloadN X194.here hx (hb hby d14_10) rfl rfl ?_
    refine own_aloadN X194.here hx (hb hby d14_11) rfl rfl ?_
    refine own_aloadN X194.here hx (hb hby d14_12) rfl rfl ?_
    refine st202 _ ?_
    show Steps p.tables e below (T202.setTop (mkF m 16 #[.val (.ref a1), .val (.ref a2)] [(.ref d1), (.ref a2), (.ref a1)])) _
    refine own_aloadN X202.here hx (hb hby d14_16) rfl rfl ?_
    refine st203 _ ?_
    show Steps p.tables e below (T203.setTop (mkF m 20 #[.val (.ref a1), .val (.ref a2)] [(.int k), (.ref d1), (.ref a2), (.ref a1)])) _
    refine st204.trans ?_
    show Steps p.tables e below (T204.setTop (mkF m 23 #[.val (.ref a1), .val (.ref a2)] [])) _
    refine own_iconst X204.here hx (1 : Int32) (hb hby d14_23) rfl ?_
    exact retN X204 hx (t := .boolean) Bd.returns (by simp) (hb hby d14_24) hr
  · show QA1R Z a1 a2 d1 mc k h0 n0 _ T204.heap _
    exact ⟨rfl, N204, K204, OA204, E204x, F204_modCount, F204_elementData, F204_size⟩
theorem ef_rmAS (m : MethodId) (x0 : Addr) (x1 : Int32) : entryFrame m #[(.ref x0), (.int x1)] 2 = mkF m 0 #[.val (.ref x0), .val (.int x1)] [] := by first | (simp [entryFrame, mkF, argsToLocals, Value.category]; done) | rfl
theorem pn_java_lang_AbstractStringBuilder : plainName "java/lang/AbstractStringBuilder" = true := by first | (simp [plainName, overriddenIn]; done) | decide +kernel
def QAS (Z : State) (a1 : Addr) (kc : Int32) (h0 : Heap) (n0 : Nat) (v : Option Value) (h : Heap) (L : List Loc) : Prop := v = none ∧ Fr n0 L ∧ Keep h0 h [a1] ∧ ∃ d, h0.size ≤ d ∧ Exa Z h a1 "java/lang/StringBuilder" ∧ Fld Z h a1 "java/lang/AbstractStringBuilder" "value" "[B" (.ref d) ∧ Fld Z h a1 "java/lang/AbstractStringBuilder" "coder" "B" (.int 0) ∧ Fld Z h a1 "java/lang/AbstractStringBuilder" "count" "I" (.int 0) ∧ own_BA Z h d 16
theorem d20_0 : decode jdk_68_method_2_code 0 = .ok (.aload_n 0, 1) := by decide +kernel
theorem d20_1 : decode jdk_68_method_2_code 1 = .ok (.invokespecial 3, 3) := by decide +kernel
theorem d20_4 : decode jdk_68_method_2_code 4 = .ok (.getstatic 18, 3) := by decide +kernel
theorem d20_7 : decode jdk_68_method_2_code 7 = .ok (.ifCond .eq 18, 3) := by decide +kernel
theorem d20_10 : decode jdk_68_method_2_code 10 = .ok (.aload_n 0, 1) := by decide +kernel
theorem d20_11 : decode jdk_68_method_2_code 11 = .ok (.iload_n 1, 1) := by decide +kernel
theorem d20_12 : decode jdk_68_method_2_code 12 = .ok (.newarray .byte, 2) := by decide +kernel
theorem d20_14 : decode jdk_68_method_2_code 14 = .ok (.putfield 15, 3) := by decide +kernel
theorem d20_17 : decode jdk_68_method_2_code 17 = .ok (.aload_n 0, 1) := by decide +kernel
theorem d20_18 : decode jdk_68_method_2_code 18 = .ok (.iconst 0, 1) := by decide +kernel
theorem d20_19 : decode jdk_68_method_2_code 19 = .ok (.putfield 22, 3) := by decide +kernel
theorem d20_22 : decode jdk_68_method_2_code 22 = .ok (.goto 16, 3) := by decide +kernel
theorem d20_38 : decode jdk_68_method_2_code 38 = .ok (.return_, 1) := by decide +kernel
set_option maxRecDepth 65536 in
set_option maxHeartbeats 40000000 in
theorem rmAS (l : Launch) (Z : State) (a0 : Array Value) (hw : ∀ d ∈ tables_1, d.before a0 Z = true) (ws : List Jvm.Cond) (a1 : Addr) (kc : Int32) (h0 : Heap) (n0 : Nat) (Z0 : n0 ≤ h0.size) (E_a1 : Exa Z h0 a1 "java/lang/StringBuilder") (g_a1 : n0 ≤ a1) (F_value : Fld Z h0 a1 "java/lang/AbstractStringBuilder" "value" "[B" .null) (F_coder : Fld Z h0 a1 "java/lang/AbstractStringBuilder" "coder" "B" (.int 0)) (F_count : Fld Z h0 a1 "java/lang/AbstractStringBuilder" "count" "I" (.int 0)) (SC : Sta Z h0 "java/lang/String" "COMPACT_STRINGS" "Z" (.int kc)) (hkc : ¬ kc = (0 : Int32)) :
    MetFree l (⟨"java/lang/AbstractStringBuilder", "<init>", "(I)V"⟩ : MethodName) (head1 (Jvm.Cond.code (⟨"java/lang/AbstractStringBuilder", "<init>", "(I)V"⟩ : MethodName) jdk_68_method_2_code 2 none :: ws) ({ frames := 1, cells := 1, slots := 16, locals := 12 } : Room)) (fun a U => a = #[(.ref a1), (.int 16)] ∧ Z.Warmed39 U.vm ∧ U.heap = h0) (fun _ _ _ _ _ => True) (fun _ U o U' => ∃ v L, o = .returned v ∧ QAS Z a1 kc h0 n0 v U'.heap L ∧ FrameEnd U o U' L ({ frames := 1, cells := 1, slots := 16, locals := 12 } : Room).cells ({ frames := 1, cells := 1, slots := 16, locals := 12 } : Room).slots) := by
  refine MetFree.of_bodySF (plainFor_of_name pn_java_lang_AbstractStringBuilder) hisR ?_
  intro p e s m args below meth c s₁ Bd hml0 hP hK
  obtain ⟨rfl, hZ, hh⟩ := hP
  have hx := Bd.exec
  have hby := Bd.bytes
  have hml : c.maxLocals = 2 := hml0
  have hown : s.vm.findClass "java/lang/AbstractStringBuilder" = some m.cls := findClass_of_methodNamed Bd.named
  have hnm := (name_of_methodNamed Bd.named Bd.method).1
  have X0 : Stand p l e ({ frames := 1, cells := 1, slots := 16, locals := 12 } : Room) s m #[(.ref a1), (.int 16)] below meth c s₁ [] 0 0 := Stand.of_body Bd
  have e0 : s₁.heap = h0 := by rw [← hh, Bd.state]; rfl
  have N0 := Fr.nil n0
  have pre0 : ∀ tG, Steps p.tables e below (s₁.setTop (mkF m 0 #[.val (.ref a1), .val (.int 16)] [])) tG → Steps p.tables e below (s₁.setTop (entryFrame m #[(.ref a1), (.int 16)] 2)) tG := fun tG kG => castTop (ef_rmAS m a1 (16 : Int32)) kG
  obtain ⟨T211, X211, e211, st211⟩ := initO X0 hx hZ hown (own_w hw 126 rfl) (own_w hw 7 rfl) (own_w hw 8 rfl) e0 (g := (mkF m 1 #[.val (.ref a1), .val (.int 16)] [(.ref a1)])) rfl (by rw [hml]; rfl) rfl (hb hby d20_1) (by decide) (W := 0) (by show 2 * 0 + _ ≤ _; exact Nat.le_of_eq rfl) (by decide)
  obtain ⟨T212, X212, e212, st212⟩ := getS2 X211 hx hZ hown (host := "") (Or.inl (own_w hw 127 rfl)) Via.refl e211 SC (g := (mkF m 4 #[.val (.ref a1), .val (.int 16)] [])) rfl (hb hby d20_4)
  obtain ⟨T213, h213, k213, X213, e213, E213, A213, B213, st213⟩ := newPE X212 hx hZ (own_w hw 30 rfl) e212 (g := (mkF m 12 #[.val (.ref a1), .val (.int 16)] [(.int 16), (.ref a1)])) rfl (hb hby d20_12) rfl (by decide) (cap := 16) (by decide) (by decide) (by decide) (by decide) (ad := "[B") (by decide)
  obtain ⟨b213, g213⟩ : ∃ z, z = h0.size := ⟨_, rfl⟩
  rw [← g213] at A213 B213 st213
  have E213' := E213
  have gg213 : n0 ≤ b213 := Nat.le_trans Z0 (Nat.le_of_eq g213.symm)
  have sz213 : h0.size ≤ b213 := Nat.le_trans (Keep.refl h0 [a1]).1 (Nat.le_of_eq g213.symm)
  have ne214 : a1 ≠ b213 := Nat.ne_of_lt (Nat.lt_of_lt_of_le E_a1.lt (Nat.le_of_eq g213.symm))
  have Z213 : n0 ≤ h213.size := Nat.le_trans Z0 E213.1
  have K213 : Keep h0 h213 [a1] := (Keep.refl h0 [a1]).ext E213
  have f215 : Exa Z h213 a1 "java/lang/StringBuilder" := E_a1.ext E213
  have f216 : Fld Z h213 a1 "java/lang/AbstractStringBuilder" "value" "[B" .null := F_value.ext E213
  have f217 : Fld Z h213 a1 "java/lang/AbstractStringBuilder" "coder" "B" (.int 0) := F_coder.ext E213
  have f218 : Fld Z h213 a1 "java/lang/AbstractStringBuilder" "count" "I" (.int 0) := F_count.ext E213
  have f219 : Sta Z h213 "java/lang/String" "COMPACT_STRINGS" "Z" (.int kc) := SC.ext E213
  have V213 : own_BA Z h213 b213 (16 : Int32) := ⟨B213, own_BV.new A213 (by decide)⟩
  obtain ⟨T220, h220, X220, e220, W220, st220⟩ := putF X213 hx hZ hown (host := "") (Or.inl (own_w hw 128 rfl)) Via.refl e213 f216 f215 (Or.inl (own_w hw 129 rfl)) (own_w hw 115 rfl) (ty := (.array .byte)) (by decide) rfl rfl (g := (mkF m 14 #[.val (.ref a1), .val (.int 16)] [(.ref b213), (.ref a1)])) rfl rfl (hb hby d20_14)
  have f221 : Exa Z h220 a1 "java/lang/StringBuilder" := f215.wr W220
  have f223 : Fld Z h220 a1 "java/lang/AbstractStringBuilder" "coder" "B" (.int 0) := f217.other W220 (Or.inr (slot_ne (Or.inl (own_w hw 131 rfl)) (Or.inl (own_w hw 129 rfl)) (by decide) (t := .byte) (t' := (.array .byte)) (by decide) (by decide)))
  have f224 : Fld Z h220 a1 "java/lang/AbstractStringBuilder" "count" "I" (.int 0) := f218.other W220 (Or.inr (slot_ne (Or.inl (own_w hw 153 rfl)) (Or.inl (own_w hw 129 rfl)) (by decide) (t := .int) (t' := (.array .byte)) (by decide) (by decide)))
  have f225 : Sta Z h220 "java/lang/String" "COMPACT_STRINGS" "Z" (.int kc) := f219.wr W220
  have f226 : own_BA Z h220 b213 (16 : Int32) := V213.other W220 (Ne.symm ne214)
  have f227 : Fld Z h220 a1 "java/lang/AbstractStringBuilder" "value" "[B" (.ref b213) := f216.same W220
  have N220 := Fr.snoc X220 N0 g_a1
  have Z220 : n0 ≤ h220.size := Nat.le_trans Z213 (Keep.of_wr W220).1
  have K220 : Keep h0 h220 [a1] := K213.wr W220 (Or.inl (List.mem_of_getElem? (i := 0) rfl))
  obtain ⟨T228, h228, X228, e228, W228, st228⟩ := putFN X220 hx hZ hown (own_w hw 130 rfl) Via.refl e220 f223 f221 (Or.inl (own_w hw 131 rfl)) (own_w hw 115 rfl) (ty := .byte) (v' := (.int 0)) (by decide) rfl (by decide) (g := (mkF m 19 #[.val (.ref a1), .val (.int 16)] [(.int 0), (.ref a1)])) rfl rfl (hb hby d20_19)
  have f229 : Exa Z h228 a1 "java/lang/StringBuilder" := f221.wr W228
  have f230 : Fld Z h228 a1 "java/lang/AbstractStringBuilder" "value" "[B" (.ref b213) := f227.other W228 (Or.inr (slot_ne (Or.inl (own_w hw 129 rfl)) (Or.inl (own_w hw 131 rfl)) (by decide) (t := (.array .byte)) (t' := .byte) (by decide) (by decide)))
  have f232 : Fld Z h228 a1 "java/lang/AbstractStringBuilder" "count" "I" (.int 0) := f224.other W228 (Or.inr (slot_ne (Or.inl (own_w hw 153 rfl)) (Or.inl (own_w hw 131 rfl)) (by decide) (t := .int) (t' := .byte) (by decide) (by decide)))
  have f233 : Sta Z h228 "java/lang/String" "COMPACT_STRINGS" "Z" (.int kc) := f225.wr W228
  have f234 : own_BA Z h228 b213 (16 : Int32) := f226.other W228 (Ne.symm ne214)
  have f235 : Fld Z h228 a1 "java/lang/AbstractStringBuilder" "coder" "B" (.int 0) := f223.same W228
  have N228 := Fr.snoc X228 N220 g_a1
  have Z228 : n0 ≤ h228.size := Nat.le_trans Z220 (Keep.of_wr W228).1
  have K228 : Keep h0 h228 [a1] := K220.wr W228 (Or.inl (List.mem_of_getElem? (i := 0) rfl))
  obtain ⟨fs, hr, hrun, hended, hW, hsame⟩ := X228.leave (v := none) (fun _ => rfl)
  refine ⟨_, _, pre0 _ ?_, hrun, hended, _, _, rfl, ?_, ⟨_, rfl⟩, hW, hsame.mono (by decide) (by decide)⟩
  · refine own_aloadN X0.here hx (hb hby d20_0) rfl rfl ?_
    refine st211 _ ?_
    show Steps p.tables e below (T211.setTop (mkF m 4 #[.val (.ref a1), .val (.int 16)] [])) _
    refine st212 _ ?_
    show Steps p.tables e below (T212.setTop (mkF m 7 #[.val (.ref a1), .val (.int 16)] [(.int kc)])) _
    refine own_ifNo X212.here hx (hb hby d20_7) ((if0 _ _).trans (feq hkc).1) ?_
    refine own_aloadN X212.here hx (hb hby d20_10) rfl rfl ?_
    refine own_iloadN X212.here hx (hb hby d20_11) rfl ?_
    refine st213 _ ?_
    show Steps p.tables e below (T213.setTop (mkF m 14 #[.val (.ref a1), .val (.int 16)] [(.ref b213), (.ref a1)])) _
    refine st220 _ ?_
    show Steps p.tables e below (T220.setTop (mkF m 17 #[.val (.ref a1), .val (.int 16)] [])) _
    refine own_aloadN X220.here hx (hb hby d20_17) rfl rfl ?_
    refine own_iconst X220.here hx (0 : Int32) (hb hby d20_18) rfl ?_
    refine st228 _ ?_
    show Steps p.tables e below (T228.setTop (mkF m 22 #[.val (.ref a1), .val (.int 16)] [])) _
    refine own_goto X228.here hx 22 38 rfl (hb hby d20_22) (by decide) (by decide) ?_
    exact X228.returnOut hx Bd.returns (hb hby d20_38) hr
  · show QAS Z a1 kc h0 n0 _ T228.heap _
    rw [e228]
    exact ⟨rfl, N228, K228, b213, sz213, f229, f230, f235, f232, f234⟩
theorem ef_rmSB (m : MethodId) (x0 : Addr) : entryFrame m #[(.ref x0)] 1 = mkF m 0 #[.val (.ref x0)] [] := by first | (simp [entryFrame, mkF, argsToLocals, Value.category]; done) | rfl
theorem pn_java_lang_StringBuilder : plainName "java/lang/StringBuilder" = true := by first | (simp [plainName, overriddenIn]; done) | decide +kernel
def QSB (Z : State) (a1 : Addr) (kc : Int32) (h0 : Heap) (n0 : Nat) (v : Option Value) (h : Heap) (L : List Loc) : Prop := v = none ∧ Fr n0 L ∧ Keep h0 h [a1] ∧ ∃ d, h0.size ≤ d ∧ Exa Z h a1 "java/lang/StringBuilder" ∧ Fld Z h a1 "java/lang/AbstractStringBuilder" "value" "[B" (.ref d) ∧ Fld Z h a1 "java/lang/AbstractStringBuilder" "coder" "B" (.int 0) ∧ Fld Z h a1 "java/lang/AbstractStringBuilder" "count" "I" (.int 0) ∧ own_BA Z h d 16
theorem d19_0 : decode jdk_67_method_1_code 0 = .ok (.aload_n 0, 1) := by decide +kernel
theorem d19_1 : decode jdk_67_method_1_code 1 = .ok (.bipush 16, 2) := by decide +kernel
theorem d19_3 : decode jdk_67_method_1_code 3 = .ok (.invokespecial 1, 3) := by decide +kernel
theorem pd_28I29V : parseMethodDescriptor "(I)V" = some ⟨[.int], none⟩ := by decide +kernel
theorem d19_6 : decode jdk_67_method_1_code 6 = .ok (.return_, 1) := by decide +kernel
set_option maxRecDepth 65536 in
set_option maxHeartbeats 40000000 in
theorem rmSB (l : Launch) (Z : State) (a0 : Array Value) (hw : ∀ d ∈ tables_1, d.before a0 Z = true) (ws : List Jvm.Cond) (a1 : Addr) (kc : Int32) (h0 : Heap) (n0 : Nat) (Z0 : n0 ≤ h0.size) (E_a1 : Exa Z h0 a1 "java/lang/StringBuilder") (g_a1 : n0 ≤ a1) (F_value : Fld Z h0 a1 "java/lang/AbstractStringBuilder" "value" "[B" .null) (F_coder : Fld Z h0 a1 "java/lang/AbstractStringBuilder" "coder" "B" (.int 0)) (F_count : Fld Z h0 a1 "java/lang/AbstractStringBuilder" "count" "I" (.int 0)) (SC : Sta Z h0 "java/lang/String" "COMPACT_STRINGS" "Z" (.int kc)) (hkc : ¬ kc = (0 : Int32)) :
    MetFree l (⟨"java/lang/StringBuilder", "<init>", "()V"⟩ : MethodName) (head1 (Jvm.Cond.code (⟨"java/lang/StringBuilder", "<init>", "()V"⟩ : MethodName) jdk_67_method_1_code 1 none :: ws) ({ frames := 2, cells := 1, slots := 16, locals := 25 } : Room)) (fun a U => a = #[(.ref a1)] ∧ Z.Warmed39 U.vm ∧ U.heap = h0) (fun _ _ _ _ _ => True) (fun _ U o U' => ∃ v L, o = .returned v ∧ QSB Z a1 kc h0 n0 v U'.heap L ∧ FrameEnd U o U' L ({ frames := 2, cells := 1, slots := 16, locals := 25 } : Room).cells ({ frames := 2, cells := 1, slots := 16, locals := 25 } : Room).slots) := by
  refine MetFree.of_bodySF (plainFor_of_name pn_java_lang_StringBuilder) hisR ?_
  intro p e s m args below meth c s₁ Bd hml0 hP hK
  obtain ⟨rfl, hZ, hh⟩ := hP
  have hx := Bd.exec
  have hby := Bd.bytes
  have hml : c.maxLocals = 1 := hml0
  have hown : s.vm.findClass "java/lang/StringBuilder" = some m.cls := findClass_of_methodNamed Bd.named
  have hnm := (name_of_methodNamed Bd.named Bd.method).1
  have X0 : Stand p l e ({ frames := 2, cells := 1, slots := 16, locals := 25 } : Room) s m #[(.ref a1)] below meth c s₁ [] 0 0 := Stand.of_body Bd
  have e0 : s₁.heap = h0 := by rw [← hh, Bd.state]; rfl
  have N0 := Fr.nil n0
  have pre0 : ∀ tG, Steps p.tables e below (s₁.setTop (mkF m 0 #[.val (.ref a1)] [])) tG → Steps p.tables e below (s₁.setTop (entryFrame m #[(.ref a1)] 1)) tG := fun tG kG => castTop (ef_rmSB m a1) kG
  obtain ⟨_, _, ⟨T236, L236, k236, n236⟩, -, X236, ⟨Lc236, hQ236, l236, y236, z236⟩, st236⟩ := X0.specialBack hx (y := (⟨"java/lang/AbstractStringBuilder", "<init>", "(I)V"⟩ : MethodName)) rfl hown (mvT hZ (own_w hw 120 rfl)) (mvT hZ (own_w hw 121 rfl)) (mvT hZ (own_w hw 125 rfl)) (by decide) (backOf (W := 0) (rmAS l Z a0 hw [] a1 kc h0 n0 Z0 E_a1 g_a1 F_value F_coder F_count SC hkc) hZ (own_w hw 125 rfl) (own_w hw 124 rfl) (by decide) (by decide)) (g := (mkF m 3 #[.val (.ref a1)] [(.int 16), (.ref a1)])) rfl (by rw [hml]; rfl) (Steps.refl _) (a := a1) (argsL := [(.int 16)]) (rest := []) (lenOf pd_28I29V rfl) rfl (by show 2 * 0 + _ ≤ _; exact Nat.le_of_eq rfl) (hb hby d19_3) (fun _ _ => ⟨rfl, e0, (by decide : 0 + 1 ≤ _), (by decide : 0 + 16 ≤ _)⟩)
  dsimp only [Pt.U, Pt.locs, Pt.cells, Pt.slots] at X236 l236 y236 z236 st236 hQ236
  subst l236 y236 z236
  obtain ⟨rfl, N236q, Kq236, c236, lt236, E236x, F236_value, F236_coder, F236_count, BA236⟩ := hQ236
  have gg236_c236 : n0 ≤ c236 := Nat.le_trans Z0 lt236
  have sz236_c236 : h0.size ≤ c236 := Nat.le_trans (Keep.refl h0 [a1]).1 lt236
  have ne237 : a1 ≠ c236 := Nat.ne_of_lt (Nat.lt_of_lt_of_le E_a1.lt lt236)
  have N236 := Fr.app N0 N236q
  have Z236 : n0 ≤ T236.heap.size := Nat.le_trans Z0 Kq236.1
  have K236 : Keep h0 T236.heap [a1] := (Keep.refl h0 [a1]).trans Kq236 (allS (Or.inl (List.mem_of_getElem? (i := 0) rfl)) all0)
  have f238 : Exa Z T236.heap a1 "java/lang/StringBuilder" := E_a1.keep Kq236
  have f242 : Sta Z T236.heap "java/lang/String" "COMPACT_STRINGS" "Z" (.int kc) := own_sta_keep SC Kq236 (nsS E_a1.nostat ns0)
  obtain ⟨fs, hr, hrun, hended, hW, hsame⟩ := X236.leave (v := none) (fun _ => rfl)
  refine ⟨_, _, pre0 _ ?_, hrun, hended, _, _, rfl, ?_, ⟨_, rfl⟩, hW, hsame.mono (by decide) (by decide)⟩
  · refine own_aloadN X0.here hx (hb hby d19_0) rfl rfl ?_
    refine own_bipush X0.here hx (16 : Int32) (hb hby d19_1) rfl ?_
    refine st236.trans ?_
    show Steps p.tables e below (T236.setTop (mkF m 6 #[.val (.ref a1)] [])) _
    exact X236.returnOut hx Bd.returns (hb hby d19_6) hr
  · show QSB Z a1 kc h0 n0 _ T236.heap _
    exact ⟨rfl, N236, K236, c236, sz236_c236, E236x, F236_value, F236_coder, F236_count, BA236⟩
theorem ef_rmCo (m : MethodId) (x0 : Addr) : entryFrame m #[(.ref x0)] 1 = mkF m 0 #[.val (.ref x0)] [] := by first | (simp [entryFrame, mkF, argsToLocals, Value.category]; done) | rfl
def QCo (Z : State) (a1 : Addr) (kc : Int32) (h0 : Heap) (n0 : Nat) (v : Option Value) (h : Heap) (L : List Loc) : Prop := v = some (.int (0 : Int32)) ∧ Fr n0 L ∧ h = h0
theorem d24_0 : decode jdk_42_method_152_code 0 = .ok (.getstatic 38, 3) := by decide +kernel
theorem d24_3 : decode jdk_42_method_152_code 3 = .ok (.ifCond .eq 10, 3) := by decide +kernel
theorem d24_6 : decode jdk_42_method_152_code 6 = .ok (.aload_n 0, 1) := by decide +kernel
theorem d24_7 : decode jdk_42_method_152_code 7 = .ok (.getfield 15, 3) := by decide +kernel
theorem d24_10 : decode jdk_42_method_152_code 10 = .ok (.goto 4, 3) := by decide +kernel
theorem d24_14 : decode jdk_42_method_152_code 14 = .ok (.ireturn, 1) := by decide +kernel
set_option maxRecDepth 65536 in
set_option maxHeartbeats 40000000 in
theorem rmCo (l : Launch) (Z : State) (a0 : Array Value) (hw : ∀ d ∈ tables_1, d.before a0 Z = true) (ws : List Jvm.Cond) (a1 : Addr) (kc : Int32) (h0 : Heap) (n0 : Nat) (Z0 : n0 ≤ h0.size) (SC : Sta Z h0 "java/lang/String" "COMPACT_STRINGS" "Z" (.int kc)) (hkc : ¬ kc = (0 : Int32)) (FC : Fld Z h0 a1 "java/lang/String" "coder" "B" (.int 0)) :
    MetFree l (⟨"java/lang/String", "coder", "()B"⟩ : MethodName) (head1 (Jvm.Cond.code (⟨"java/lang/String", "coder", "()B"⟩ : MethodName) jdk_42_method_152_code 1 (some .byte) :: ws) ({ frames := 0, cells := 0, slots := 0, locals := 0 } : Room)) (fun a U => a = #[(.ref a1)] ∧ Z.Warmed39 U.vm ∧ U.heap = h0) (fun _ _ _ _ _ => True) (fun _ U o U' => ∃ v L, o = .returned v ∧ QCo Z a1 kc h0 n0 v U'.heap L ∧ FrameEnd U o U' L ({ frames := 0, cells := 0, slots := 0, locals := 0 } : Room).cells ({ frames := 0, cells := 0, slots := 0, locals := 0 } : Room).slots) := by
  refine MetFree.of_bodySF (plainFor_of_name pn_java_lang_String) hisR ?_
  intro p e s m args below meth c s₁ Bd hml0 hP hK
  obtain ⟨rfl, hZ, hh⟩ := hP
  have hx := Bd.exec
  have hby := Bd.bytes
  have hml : c.maxLocals = 1 := hml0
  have hown : s.vm.findClass "java/lang/String" = some m.cls := findClass_of_methodNamed Bd.named
  have hnm := (name_of_methodNamed Bd.named Bd.method).1
  have X0 : Stand p l e ({ frames := 0, cells := 0, slots := 0, locals := 0 } : Room) s m #[(.ref a1)] below meth c s₁ [] 0 0 := Stand.of_body Bd
  have e0 : s₁.heap = h0 := by rw [← hh, Bd.state]; rfl
  have N0 := Fr.nil n0
  have pre0 : ∀ tG, Steps p.tables e below (s₁.setTop (mkF m 0 #[.val (.ref a1)] [])) tG → Steps p.tables e below (s₁.setTop (entryFrame m #[(.ref a1)] 1)) tG := fun tG kG => castTop (ef_rmCo m a1) kG
  obtain ⟨T243, X243, e243, st243⟩ := getS2 X0 hx hZ hown (host := "") (Or.inl (own_w hw 20 rfl)) Via.refl e0 SC (g := (mkF m 0 #[.val (.ref a1)] [])) rfl (hb hby d24_0)
  obtain ⟨T244, X244, e244, st244⟩ := getF X243 hx hZ hown (host := "") (Or.inl (own_w hw 38 rfl)) Via.refl e243 FC (g := (mkF m 7 #[.val (.ref a1)] [(.ref a1)])) rfl rfl (hb hby d24_7)
  obtain ⟨fs, hr, hrun, hended, hW, hsame⟩ := X244.leave (v := some (.int 0)) (fun h => by rw [Bd.returns] at h; cases h)
  refine ⟨_, _, pre0 _ ?_, hrun, hended, _, _, rfl, ?_, ⟨_, rfl⟩, hW, hsame.mono (by decide) (by decide)⟩
  · refine st243 _ ?_
    show Steps p.tables e below (T243.setTop (mkF m 3 #[.val (.ref a1)] [(.int kc)])) _
    refine own_ifNo X243.here hx (hb hby d24_3) ((if0 _ _).trans (feq hkc).1) ?_
    refine own_aloadN X243.here hx (hb hby d24_6) rfl rfl ?_
    refine st244 _ ?_
    show Steps p.tables e below (T244.setTop (mkF m 10 #[.val (.ref a1)] [(.int 0)])) _
    refine own_goto X244.here hx 10 14 rfl (hb hby d24_10) (by decide) (by decide) ?_
    exact retN X244 hx (t := .byte) Bd.returns (by simp) (hb hby d24_14) hr
  · show QCo Z a1 kc h0 n0 _ T244.heap _
    rw [e244]
    exact ⟨rfl, N0, rfl⟩
theorem ef_rmLe (m : MethodId) (x0 : Addr) : entryFrame m #[(.ref x0)] 1 = mkF m 0 #[.val (.ref x0)] [] := by first | (simp [entryFrame, mkF, argsToLocals, Value.category]; done) | rfl
def QLe (Z : State) (a1 : Addr) (kc : Int32) (d2 : Addr) (h0 : Heap) (n0 : Nat) (v : Option Value) (h : Heap) (L : List Loc) : Prop := v = some (.int (1 : Int32)) ∧ Fr n0 L ∧ h = h0
theorem d23_0 : decode jdk_42_method_54_code 0 = .ok (.aload_n 0, 1) := by decide +kernel
theorem d23_1 : decode jdk_42_method_54_code 1 = .ok (.getfield 9, 3) := by decide +kernel
theorem d23_4 : decode jdk_42_method_54_code 4 = .ok (.arraylength, 1) := by decide +kernel
theorem d23_5 : decode jdk_42_method_54_code 5 = .ok (.aload_n 0, 1) := by decide +kernel
theorem d23_6 : decode jdk_42_method_54_code 6 = .ok (.invokevirtual 335, 3) := by decide +kernel
theorem pd_2829B : parseMethodDescriptor "()B" = some ⟨[], some .byte⟩ := by decide +kernel
theorem d23_9 : decode jdk_42_method_54_code 9 = .ok (.ishr, 1) := by decide +kernel
theorem d23_10 : decode jdk_42_method_54_code 10 = .ok (.ireturn, 1) := by decide +kernel
set_option maxRecDepth 65536 in
set_option maxHeartbeats 40000000 in
theorem rmLe (l : Launch) (Z : State) (a0 : Array Value) (hw : ∀ d ∈ tables_1, d.before a0 Z = true) (ws : List Jvm.Cond) (a1 : Addr) (kc : Int32) (d2 : Addr) (h0 : Heap) (n0 : Nat) (Z0 : n0 ≤ h0.size) (SC : Sta Z h0 "java/lang/String" "COMPACT_STRINGS" "Z" (.int kc)) (hkc : ¬ kc = (0 : Int32)) (ES : Exa Z h0 a1 "java/lang/String") (FC : Fld Z h0 a1 "java/lang/String" "coder" "B" (.int 0)) (FV : Fld Z h0 a1 "java/lang/String" "value" "[B" (.ref d2)) (BS : own_BV Z h0 d2 1) :
    MetFree l (⟨"java/lang/String", "length", "()I"⟩ : MethodName) (head1 (Jvm.Cond.code (⟨"java/lang/String", "length", "()I"⟩ : MethodName) jdk_42_method_54_code 1 (some .int) :: ws) ({ frames := 1, cells := 0, slots := 0, locals := 13 } : Room)) (fun a U => a = #[(.ref a1)] ∧ Z.Warmed39 U.vm ∧ U.heap = h0) (fun _ _ _ _ _ => True) (fun _ U o U' => ∃ v L, o = .returned v ∧ QLe Z a1 kc d2 h0 n0 v U'.heap L ∧ FrameEnd U o U' L ({ frames := 1, cells := 0, slots := 0, locals := 13 } : Room).cells ({ frames := 1, cells := 0, slots := 0, locals := 13 } : Room).slots) := by
  refine MetFree.of_bodySF (plainFor_of_name pn_java_lang_String) hisR ?_
  intro p e s m args below meth c s₁ Bd hml0 hP hK
  obtain ⟨rfl, hZ, hh⟩ := hP
  have hx := Bd.exec
  have hby := Bd.bytes
  have hml : c.maxLocals = 1 := hml0
  have hown : s.vm.findClass "java/lang/String" = some m.cls := findClass_of_methodNamed Bd.named
  have hnm := (name_of_methodNamed Bd.named Bd.method).1
  have X0 : Stand p l e ({ frames := 1, cells := 0, slots := 0, locals := 13 } : Room) s m #[(.ref a1)] below meth c s₁ [] 0 0 := Stand.of_body Bd
  have e0 : s₁.heap = h0 := by rw [← hh, Bd.state]; rfl
  have N0 := Fr.nil n0
  have pre0 : ∀ tG, Steps p.tables e below (s₁.setTop (mkF m 0 #[.val (.ref a1)] [])) tG → Steps p.tables e below (s₁.setTop (entryFrame m #[(.ref a1)] 1)) tG := fun tG kG => castTop (ef_rmLe m a1) kG
  obtain ⟨T245, X245, e245, st245⟩ := getF X0 hx hZ hown (host := "") (Or.inl (own_w hw 36 rfl)) Via.refl e0 FV (g := (mkF m 1 #[.val (.ref a1)] [(.ref a1)])) rfl rfl (hb hby d23_1)
  obtain ⟨kk246, vs246, ⟨cl246, Ar246, -, S246, M246, -, -⟩, -⟩ := id BS
  obtain ⟨cq247, kq247, q247a, q247b, q247c⟩ := isOf hZ e245 ES
  obtain ⟨_, _, ⟨T247, L247, k247, n247⟩, -, X247, ⟨Lc247, hQ247, l247, y247, z247⟩, st247⟩ := X245.virtualBack hx (y := (⟨"java/lang/String", "coder", "()B"⟩ : MethodName)) (z := (⟨"java/lang/String", "coder", "()B"⟩ : MethodName)) hown (mvT hZ (own_w hw 147 rfl)) (mvT hZ (own_w hw 148 rfl)) (notFace_of_selects (args := #[]) (mvT hZ (own_w hw 150 rfl))) (mvT hZ (own_w hw 150 rfl)) (mvT hZ (own_w hw 149 rfl)) (by decide) (backOf (W := 1) (rmCo l Z a0 hw [] a1 kc h0 n0 Z0 SC hkc FC) hZ (own_w hw 151 rfl) (own_w hw 18 rfl) (by decide) (by decide)) q247a q247c (g := (mkF m 6 #[.val (.ref a1)] [(.ref a1), (.int 1)])) rfl (by rw [hml]; rfl) (Steps.refl _) (argsL := []) (rest := [(.int 1)]) (lenOf pd_2829B rfl) rfl (by show 2 * 0 + _ ≤ _; exact Nat.le_of_eq rfl) (hb hby d23_6) (fun _ _ => ⟨rfl, e245, (by decide : 0 + 0 ≤ _), (by decide : 0 + 0 ≤ _)⟩)
  dsimp only [Pt.U, Pt.locs, Pt.cells, Pt.slots] at X247 l247 y247 z247 st247 hQ247
  subst l247 y247 z247
  obtain ⟨rfl, N247q, e247⟩ := hQ247
  have N247 := Fr.app N0 N247q
  obtain ⟨fs, hr, hrun, hended, hW, hsame⟩ := X247.leave (v := some (.int 1)) (fun h => by rw [Bd.returns] at h; cases h)
  refine ⟨_, _, pre0 _ ?_, hrun, hended, _, _, rfl, ?_, ⟨_, rfl⟩, hW, hsame.mono (by decide) (by decide)⟩
  · refine own_aloadN X0.here hx (hb hby d23_0) rfl rfl ?_
    refine st245 _ ?_
    show Steps p.tables e below (T245.setTop (mkF m 4 #[.val (.ref a1)] [(.ref d2)])) _
    refine X245.arraylength hx (by rw [e245]; exact Ar246.1) (State.isArrayOf_alike hZ.alike Ar246.2.1) (g := (mkF m 4 #[.val (.ref a1)] [(.ref d2)])) rfl rfl (hb hby d23_4) _ ?_
    rw [len_of S246 M246]
    show Steps p.tables e below (T245.setTop (mkF m 5 #[.val (.ref a1)] [(.int 1)])) _
    refine own_aloadN X245.here hx (hb hby d23_5) rfl rfl ?_
    refine st247.trans ?_
    show Steps p.tables e below (T247.setTop (mkF m 9 #[.val (.ref a1)] [(.int 0), (.int 1)])) _
    refine own_ishr X247.here hx (hb hby d23_9) ?_
    show Steps p.tables e below (T247.setTop (mkF m 10 #[.val (.ref a1)] [(.int 1)])) _
    exact retI X247 hx Bd.returns (hb hby d23_10) hr
  · show QLe Z a1 kc d2 h0 n0 _ T247.heap _
    rw [e247]
    exact ⟨rfl, N247, rfl⟩
theorem ef_rmIL (m : MethodId) (x0 : Addr) : entryFrame m #[(.ref x0)] 1 = mkF m 0 #[.val (.ref x0)] [] := by first | (simp [entryFrame, mkF, argsToLocals, Value.category]; done) | rfl
def QIL (Z : State) (a1 : Addr) (kc : Int32) (h0 : Heap) (n0 : Nat) (v : Option Value) (h : Heap) (L : List Loc) : Prop := v = some (.int (1 : Int32)) ∧ Fr n0 L ∧ h = h0
theorem d32_0 : decode jdk_68_method_68_code 0 = .ok (.getstatic 18, 3) := by decide +kernel
theorem d32_3 : decode jdk_68_method_68_code 3 = .ok (.ifCond .eq 14, 3) := by decide +kernel
theorem d32_6 : decode jdk_68_method_68_code 6 = .ok (.aload_n 0, 1) := by decide +kernel
theorem d32_7 : decode jdk_68_method_68_code 7 = .ok (.getfield 22, 3) := by decide +kernel
theorem d32_10 : decode jdk_68_method_68_code 10 = .ok (.ifCond .ne 7, 3) := by decide +kernel
theorem d32_13 : decode jdk_68_method_68_code 13 = .ok (.iconst 1, 1) := by decide +kernel
theorem d32_14 : decode jdk_68_method_68_code 14 = .ok (.goto 4, 3) := by decide +kernel
theorem d32_18 : decode jdk_68_method_68_code 18 = .ok (.ireturn, 1) := by decide +kernel
set_option maxRecDepth 65536 in
set_option maxHeartbeats 40000000 in
theorem rmIL (l : Launch) (Z : State) (a0 : Array Value) (hw : ∀ d ∈ tables_1, d.before a0 Z = true) (ws : List Jvm.Cond) (a1 : Addr) (kc : Int32) (h0 : Heap) (n0 : Nat) (Z0 : n0 ≤ h0.size) (SC : Sta Z h0 "java/lang/String" "COMPACT_STRINGS" "Z" (.int kc)) (hkc : ¬ kc = (0 : Int32)) (F_coder : Fld Z h0 a1 "java/lang/AbstractStringBuilder" "coder" "B" (.int 0)) :
    MetFree l (⟨"java/lang/AbstractStringBuilder", "isLatin1", "()Z"⟩ : MethodName) (head1 (Jvm.Cond.code (⟨"java/lang/AbstractStringBuilder", "isLatin1", "()Z"⟩ : MethodName) jdk_68_method_68_code 1 (some .boolean) :: ws) ({ frames := 0, cells := 0, slots := 0, locals := 0 } : Room)) (fun a U => a = #[(.ref a1)] ∧ Z.Warmed39 U.vm ∧ U.heap = h0) (fun _ _ _ _ _ => True) (fun _ U o U' => ∃ v L, o = .returned v ∧ QIL Z a1 kc h0 n0 v U'.heap L ∧ FrameEnd U o U' L ({ frames := 0, cells := 0, slots := 0, locals := 0 } : Room).cells ({ frames := 0, cells := 0, slots := 0, locals := 0 } : Room).slots) := by
  refine MetFree.of_bodySF (plainFor_of_name pn_java_lang_AbstractStringBuilder) hisR ?_
  intro p e s m args below meth c s₁ Bd hml0 hP hK
  obtain ⟨rfl, hZ, hh⟩ := hP
  have hx := Bd.exec
  have hby := Bd.bytes
  have hml : c.maxLocals = 1 := hml0
  have hown : s.vm.findClass "java/lang/AbstractStringBuilder" = some m.cls := findClass_of_methodNamed Bd.named
  have hnm := (name_of_methodNamed Bd.named Bd.method).1
  have X0 : Stand p l e ({ frames := 0, cells := 0, slots := 0, locals := 0 } : Room) s m #[(.ref a1)] below meth c s₁ [] 0 0 := Stand.of_body Bd
  have e0 : s₁.heap = h0 := by rw [← hh, Bd.state]; rfl
  have N0 := Fr.nil n0
  have pre0 : ∀ tG, Steps p.tables e below (s₁.setTop (mkF m 0 #[.val (.ref a1)] [])) tG → Steps p.tables e below (s₁.setTop (entryFrame m #[(.ref a1)] 1)) tG := fun tG kG => castTop (ef_rmIL m a1) kG
  obtain ⟨T248, X248, e248, st248⟩ := getS2 X0 hx hZ hown (host := "") (Or.inl (own_w hw 127 rfl)) Via.refl e0 SC (g := (mkF m 0 #[.val (.ref a1)] [])) rfl (hb hby d32_0)
  obtain ⟨T249, X249, e249, st249⟩ := getF X248 hx hZ hown (host := "") (Or.inl (own_w hw 130 rfl)) Via.refl e248 F_coder (g := (mkF m 7 #[.val (.ref a1)] [(.ref a1)])) rfl rfl (hb hby d32_7)
  obtain ⟨fs, hr, hrun, hended, hW, hsame⟩ := X249.leave (v := some (.int 1)) (fun h => by rw [Bd.returns] at h; cases h)
  refine ⟨_, _, pre0 _ ?_, hrun, hended, _, _, rfl, ?_, ⟨_, rfl⟩, hW, hsame.mono (by decide) (by decide)⟩
  · refine st248 _ ?_
    show Steps p.tables e below (T248.setTop (mkF m 3 #[.val (.ref a1)] [(.int kc)])) _
    refine own_ifNo X248.here hx (hb hby d32_3) ((if0 _ _).trans (feq hkc).1) ?_
    refine own_aloadN X248.here hx (hb hby d32_6) rfl rfl ?_
    refine st249 _ ?_
    show Steps p.tables e below (T249.setTop (mkF m 10 #[.val (.ref a1)] [(.int 0)])) _
    refine own_ifNo X249.here hx (hb hby d32_10) ((if0 _ _).trans (teq (by decide : (0 : Int32) = (0 : Int32))).2) ?_
    refine own_iconst X249.here hx (1 : Int32) (hb hby d32_13) rfl ?_
    refine own_goto X249.here hx 14 18 rfl (hb hby d32_14) (by decide) (by decide) ?_
    exact retN X249 hx (t := .boolean) Bd.returns (by simp) (hb hby d32_18) hr
  · show QIL Z a1 kc h0 n0 _ T249.heap _
    rw [e249]
    exact ⟨rfl, N0, rfl⟩
theorem ef_rmGV (m : MethodId) (x0 : Addr) : entryFrame m #[(.ref x0)] 1 = mkF m 0 #[.val (.ref x0)] [] := by first | (simp [entryFrame, mkF, argsToLocals, Value.category]; done) | rfl
def QGV (Z : State) (a1 : Addr) (d1 : Addr) (h0 : Heap) (n0 : Nat) (v : Option Value) (h : Heap) (L : List Loc) : Prop := v = some (.ref d1) ∧ Fr n0 L ∧ h = h0
theorem d37_0 : decode jdk_68_method_64_code 0 = .ok (.aload_n 0, 1) := by decide +kernel
theorem d37_1 : decode jdk_68_method_64_code 1 = .ok (.getfield 15, 3) := by decide +kernel
theorem d37_4 : decode jdk_68_method_64_code 4 = .ok (.areturn, 1) := by decide +kernel
set_option maxRecDepth 65536 in
set_option maxHeartbeats 40000000 in
theorem rmGV (l : Launch) (Z : State) (a0 : Array Value) (hw : ∀ d ∈ tables_1, d.before a0 Z = true) (ws : List Jvm.Cond) (a1 : Addr) (d1 : Addr) (h0 : Heap) (n0 : Nat) (Z0 : n0 ≤ h0.size) (F_value : Fld Z h0 a1 "java/lang/AbstractStringBuilder" "value" "[B" (.ref d1)) :
    MetFree l (⟨"java/lang/AbstractStringBuilder", "getValue", "()[B"⟩ : MethodName) (head1 (Jvm.Cond.code (⟨"java/lang/AbstractStringBuilder", "getValue", "()[B"⟩ : MethodName) jdk_68_method_64_code 1 (some (.array .byte)) :: ws) ({ frames := 0, cells := 0, slots := 0, locals := 0 } : Room)) (fun a U => a = #[(.ref a1)] ∧ Z.Warmed39 U.vm ∧ U.heap = h0) (fun _ _ _ _ _ => True) (fun _ U o U' => ∃ v L, o = .returned v ∧ QGV Z a1 d1 h0 n0 v U'.heap L ∧ FrameEnd U o U' L ({ frames := 0, cells := 0, slots := 0, locals := 0 } : Room).cells ({ frames := 0, cells := 0, slots := 0, locals := 0 } : Room).slots) := by
  refine MetFree.of_bodySF (plainFor_of_name pn_java_lang_AbstractStringBuilder) hisR ?_
  intro p e s m args below meth c s₁ Bd hml0 hP hK
  obtain ⟨rfl, hZ, hh⟩ := hP
  have hx := Bd.exec
  have hby := Bd.bytes
  have hml : c.maxLocals = 1 := hml0
  have hown : s.vm.findClass "java/lang/AbstractStringBuilder" = some m.cls := findClass_of_methodNamed Bd.named
  have hnm := (name_of_methodNamed Bd.named Bd.method).1
  have X0 : Stand p l e ({ frames := 0, cells := 0, slots := 0, locals := 0 } : Room) s m #[(.ref a1)] below meth c s₁ [] 0 0 := Stand.of_body Bd
  have e0 : s₁.heap = h0 := by rw [← hh, Bd.state]; rfl
  have N0 := Fr.nil n0
  have pre0 : ∀ tG, Steps p.tables e below (s₁.setTop (mkF m 0 #[.val (.ref a1)] [])) tG → Steps p.tables e below (s₁.setTop (entryFrame m #[(.ref a1)] 1)) tG := fun tG kG => castTop (ef_rmGV m a1) kG
  obtain ⟨T250, X250, e250, st250⟩ := getF X0 hx hZ hown (host := "") (Or.inl (own_w hw 128 rfl)) Via.refl e0 F_value (g := (mkF m 1 #[.val (.ref a1)] [(.ref a1)])) rfl rfl (hb hby d37_1)
  obtain ⟨fs, hr, hrun, hended, hW, hsame⟩ := X250.leave (v := some (.ref d1)) (fun h => by rw [Bd.returns] at h; cases h)
  refine ⟨_, _, pre0 _ ?_, hrun, hended, _, _, rfl, ?_, ⟨_, rfl⟩, hW, hsame.mono (by decide) (by decide)⟩
  · refine own_aloadN X0.here hx (hb hby d37_0) rfl rfl ?_
    refine st250 _ ?_
    show Steps p.tables e below (T250.setTop (mkF m 4 #[.val (.ref a1)] [(.ref d1)])) _
    jvm_step X250.here [X250.here.top, hx, (hb hby d37_4), X250.method', Bd.returns, Value.isRef, FieldType.isReference]
    first | (intro acts; rw [hr _ acts rfl rfl rfl]) | rw [hr _ _ rfl rfl rfl]
    exact Steps.refl _
  · show QGV Z a1 d1 h0 n0 _ T250.heap _
    rw [e250]
    exact ⟨rfl, N0, rfl⟩
theorem ef_rmAN (m : MethodId) (x0 : Addr) : entryFrame m #[(.ref x0)] 1 = mkF m 0 #[.val (.ref x0)] [] := by first | (simp [entryFrame, mkF, argsToLocals, Value.category]; done) | rfl
def QAN (Z : State) (a1 : Addr) (c1 : Int32) (h0 : Heap) (n0 : Nat) (v : Option Value) (h : Heap) (L : List Loc) : Prop := v = some (.int c1) ∧ Fr n0 L ∧ h = h0
theorem d39_0 : decode jdk_68_method_6_code 0 = .ok (.aload_n 0, 1) := by decide +kernel
theorem d39_1 : decode jdk_68_method_6_code 1 = .ok (.getfield 79, 3) := by decide +kernel
theorem d39_4 : decode jdk_68_method_6_code 4 = .ok (.ireturn, 1) := by decide +kernel
set_option maxRecDepth 65536 in
set_option maxHeartbeats 40000000 in
theorem rmAN (l : Launch) (Z : State) (a0 : Array Value) (hw : ∀ d ∈ tables_1, d.before a0 Z = true) (ws : List Jvm.Cond) (a1 : Addr) (c1 : Int32) (h0 : Heap) (n0 : Nat) (Z0 : n0 ≤ h0.size) (F_count : Fld Z h0 a1 "java/lang/AbstractStringBuilder" "count" "I" (.int c1)) :
    MetFree l (⟨"java/lang/AbstractStringBuilder", "length", "()I"⟩ : MethodName) (head1 (Jvm.Cond.code (⟨"java/lang/AbstractStringBuilder", "length", "()I"⟩ : MethodName) jdk_68_method_6_code 1 (some .int) :: ws) ({ frames := 0, cells := 0, slots := 0, locals := 0 } : Room)) (fun a U => a = #[(.ref a1)] ∧ Z.Warmed39 U.vm ∧ U.heap = h0) (fun _ _ _ _ _ => True) (fun _ U o U' => ∃ v L, o = .returned v ∧ QAN Z a1 c1 h0 n0 v U'.heap L ∧ FrameEnd U o U' L ({ frames := 0, cells := 0, slots := 0, locals := 0 } : Room).cells ({ frames := 0, cells := 0, slots := 0, locals := 0 } : Room).slots) := by
  refine MetFree.of_bodySF (plainFor_of_name pn_java_lang_AbstractStringBuilder) hisR ?_
  intro p e s m args below meth c s₁ Bd hml0 hP hK
  obtain ⟨rfl, hZ, hh⟩ := hP
  have hx := Bd.exec
  have hby := Bd.bytes
  have hml : c.maxLocals = 1 := hml0
  have hown : s.vm.findClass "java/lang/AbstractStringBuilder" = some m.cls := findClass_of_methodNamed Bd.named
  have hnm := (name_of_methodNamed Bd.named Bd.method).1
  have X0 : Stand p l e ({ frames := 0, cells := 0, slots := 0, locals := 0 } : Room) s m #[(.ref a1)] below meth c s₁ [] 0 0 := Stand.of_body Bd
  have e0 : s₁.heap = h0 := by rw [← hh, Bd.state]; rfl
  have N0 := Fr.nil n0
  have pre0 : ∀ tG, Steps p.tables e below (s₁.setTop (mkF m 0 #[.val (.ref a1)] [])) tG → Steps p.tables e below (s₁.setTop (entryFrame m #[(.ref a1)] 1)) tG := fun tG kG => castTop (ef_rmAN m a1) kG
  obtain ⟨T251, X251, e251, st251⟩ := getF X0 hx hZ hown (host := "") (Or.inl (own_w hw 152 rfl)) Via.refl e0 F_count (g := (mkF m 1 #[.val (.ref a1)] [(.ref a1)])) rfl rfl (hb hby d39_1)
  obtain ⟨fs, hr, hrun, hended, hW, hsame⟩ := X251.leave (v := some (.int c1)) (fun h => by rw [Bd.returns] at h; cases h)
  refine ⟨_, _, pre0 _ ?_, hrun, hended, _, _, rfl, ?_, ⟨_, rfl⟩, hW, hsame.mono (by decide) (by decide)⟩
  · refine own_aloadN X0.here hx (hb hby d39_0) rfl rfl ?_
    refine st251 _ ?_
    show Steps p.tables e below (T251.setTop (mkF m 4 #[.val (.ref a1)] [(.int c1)])) _
    exact retI X251 hx Bd.returns (hb hby d39_4) hr
  · show QAN Z a1 c1 h0 n0 _ T251.heap _
    rw [e251]
    exact ⟨rfl, N0, rfl⟩
theorem ef_rmSN (m : MethodId) (x0 : Addr) : entryFrame m #[(.ref x0)] 1 = mkF m 0 #[.val (.ref x0)] [] := by first | (simp [entryFrame, mkF, argsToLocals, Value.category]; done) | rfl
def QSN (Z : State) (a1 : Addr) (c1 : Int32) (h0 : Heap) (n0 : Nat) (v : Option Value) (h : Heap) (L : List Loc) : Prop := v = some (.int c1) ∧ Fr n0 L ∧ h = h0
theorem d38_0 : decode jdk_67_method_93_code 0 = .ok (.aload_n 0, 1) := by decide +kernel
theorem d38_1 : decode jdk_67_method_93_code 1 = .ok (.invokespecial 343, 3) := by decide +kernel
theorem pd_2829I : parseMethodDescriptor "()I" = some ⟨[], some .int⟩ := by decide +kernel
theorem d38_4 : decode jdk_67_method_93_code 4 = .ok (.ireturn, 1) := by decide +kernel
set_option maxRecDepth 65536 in
set_option maxHeartbeats 40000000 in
theorem rmSN (l : Launch) (Z : State) (a0 : Array Value) (hw : ∀ d ∈ tables_1, d.before a0 Z = true) (ws : List Jvm.Cond) (a1 : Addr) (c1 : Int32) (h0 : Heap) (n0 : Nat) (Z0 : n0 ≤ h0.size) (E_a1 : Exa Z h0 a1 "java/lang/StringBuilder") (F_count : Fld Z h0 a1 "java/lang/AbstractStringBuilder" "count" "I" (.int c1)) :
    MetFree l (⟨"java/lang/StringBuilder", "length", "()I"⟩ : MethodName) (head1 (Jvm.Cond.code (⟨"java/lang/StringBuilder", "length", "()I"⟩ : MethodName) jdk_67_method_93_code 1 (some .int) :: ws) ({ frames := 1, cells := 0, slots := 0, locals := 12 } : Room)) (fun a U => a = #[(.ref a1)] ∧ Z.Warmed39 U.vm ∧ U.heap = h0) (fun _ _ _ _ _ => True) (fun _ U o U' => ∃ v L, o = .returned v ∧ QSN Z a1 c1 h0 n0 v U'.heap L ∧ FrameEnd U o U' L ({ frames := 1, cells := 0, slots := 0, locals := 12 } : Room).cells ({ frames := 1, cells := 0, slots := 0, locals := 12 } : Room).slots) := by
  refine MetFree.of_bodySF (plainFor_of_name pn_java_lang_StringBuilder) hisR ?_
  intro p e s m args below meth c s₁ Bd hml0 hP hK
  obtain ⟨rfl, hZ, hh⟩ := hP
  have hx := Bd.exec
  have hby := Bd.bytes
  have hml : c.maxLocals = 1 := hml0
  have hown : s.vm.findClass "java/lang/StringBuilder" = some m.cls := findClass_of_methodNamed Bd.named
  have hnm := (name_of_methodNamed Bd.named Bd.method).1
  have X0 : Stand p l e ({ frames := 1, cells := 0, slots := 0, locals := 12 } : Room) s m #[(.ref a1)] below meth c s₁ [] 0 0 := Stand.of_body Bd
  have e0 : s₁.heap = h0 := by rw [← hh, Bd.state]; rfl
  have N0 := Fr.nil n0
  have pre0 : ∀ tG, Steps p.tables e below (s₁.setTop (mkF m 0 #[.val (.ref a1)] [])) tG → Steps p.tables e below (s₁.setTop (entryFrame m #[(.ref a1)] 1)) tG := fun tG kG => castTop (ef_rmSN m a1) kG
  obtain ⟨_, _, ⟨T252, L252, k252, n252⟩, -, X252, ⟨Lc252, hQ252, l252, y252, z252⟩, st252⟩ := superBack X0 hx hZ (y := (⟨"java/lang/AbstractStringBuilder", "length", "()I"⟩ : MethodName)) hown (own_w hw 232 rfl) (own_same (own_w hw 228 rfl) (own_w hw 157 rfl) rfl (by decide)) (own_w hw 228 rfl) (own_w hw 139 rfl) (by decide) (backOf (W := 0) (rmAN l Z a0 hw [] a1 c1 h0 n0 Z0 F_count) hZ (own_w hw 233 rfl) (own_w hw 124 rfl) (by decide) (by decide)) e0 (Ins.self E_a1) (g := (mkF m 1 #[.val (.ref a1)] [(.ref a1)])) rfl (by rw [hml]; rfl) (own_w hw 233 rfl) (argsL := []) (rest := []) (lenOf pd_2829I rfl) rfl (by show 2 * 0 + _ ≤ _; exact Nat.le_of_eq rfl) (hb hby d38_1) (fun _ _ => ⟨rfl, e0, (by decide : 0 + 0 ≤ _), (by decide : 0 + 0 ≤ _)⟩)
  dsimp only [Pt.U, Pt.locs, Pt.cells, Pt.slots] at X252 l252 y252 z252 st252 hQ252
  subst l252 y252 z252
  obtain ⟨rfl, N252q, e252⟩ := hQ252
  have N252 := Fr.app N0 N252q
  obtain ⟨fs, hr, hrun, hended, hW, hsame⟩ := X252.leave (v := some (.int c1)) (fun h => by rw [Bd.returns] at h; cases h)
  refine ⟨_, _, pre0 _ ?_, hrun, hended, _, _, rfl, ?_, ⟨_, rfl⟩, hW, hsame.mono (by decide) (by decide)⟩
  · refine own_aloadN X0.here hx (hb hby d38_0) rfl rfl ?_
    refine st252.trans ?_
    show Steps p.tables e below (T252.setTop (mkF m 4 #[.val (.ref a1)] [(.int c1)])) _
    exact retI X252 hx Bd.returns (hb hby d38_4) hr
  · show QSN Z a1 c1 h0 n0 _ T252.heap _
    rw [e252]
    exact ⟨rfl, N252, rfl⟩
theorem ef_rmIn (m : MethodId) (x0 : Addr) (x1 : Addr) : entryFrame m #[(.ref x0), (.ref x1)] 2 = mkF m 0 #[.val (.ref x0), .val (.ref x1)] [] := by first | (simp [entryFrame, mkF, argsToLocals, Value.category]; done) | rfl
def QIn (Z : State) (a1 : Addr) (a2 : Addr) (kc : Int32) (h0 : Heap) (n0 : Nat) (v : Option Value) (h : Heap) (L : List Loc) : Prop := v = none ∧ Fr n0 L ∧ h = h0
theorem d27_0 : decode jdk_68_method_71_code 0 = .ok (.getstatic 18, 3) := by decide +kernel
theorem d27_3 : decode jdk_68_method_71_code 3 = .ok (.ifCond .eq 18, 3) := by decide +kernel
theorem d27_6 : decode jdk_68_method_71_code 6 = .ok (.aload_n 0, 1) := by decide +kernel
theorem d27_7 : decode jdk_68_method_71_code 7 = .ok (.getfield 22, 3) := by decide +kernel
theorem d27_10 : decode jdk_68_method_71_code 10 = .ok (.aload_n 1, 1) := by decide +kernel
theorem d27_11 : decode jdk_68_method_71_code 11 = .ok (.invokevirtual 40, 3) := by decide +kernel
theorem d27_14 : decode jdk_68_method_71_code 14 = .ok (.if_icmp .eq 7, 3) := by decide +kernel
theorem d27_21 : decode jdk_68_method_71_code 21 = .ok (.return_, 1) := by decide +kernel
set_option maxRecDepth 65536 in
set_option maxHeartbeats 40000000 in
theorem rmIn (l : Launch) (Z : State) (a0 : Array Value) (hw : ∀ d ∈ tables_1, d.before a0 Z = true) (ws : List Jvm.Cond) (a1 : Addr) (a2 : Addr) (kc : Int32) (h0 : Heap) (n0 : Nat) (Z0 : n0 ≤ h0.size) (SC : Sta Z h0 "java/lang/String" "COMPACT_STRINGS" "Z" (.int kc)) (hkc : ¬ kc = (0 : Int32)) (F_coder : Fld Z h0 a1 "java/lang/AbstractStringBuilder" "coder" "B" (.int 0)) (ES : Exa Z h0 a2 "java/lang/String") (FC : Fld Z h0 a2 "java/lang/String" "coder" "B" (.int 0)) :
    MetFree l (⟨"java/lang/AbstractStringBuilder", "inflateIfNeededFor", "(Ljava/lang/String;)V"⟩ : MethodName) (head1 (Jvm.Cond.code (⟨"java/lang/AbstractStringBuilder", "inflateIfNeededFor", "(Ljava/lang/String;)V"⟩ : MethodName) jdk_68_method_71_code 2 none :: ws) ({ frames := 1, cells := 0, slots := 0, locals := 13 } : Room)) (fun a U => a = #[(.ref a1), (.ref a2)] ∧ Z.Warmed39 U.vm ∧ U.heap = h0) (fun _ _ _ _ _ => True) (fun _ U o U' => ∃ v L, o = .returned v ∧ QIn Z a1 a2 kc h0 n0 v U'.heap L ∧ FrameEnd U o U' L ({ frames := 1, cells := 0, slots := 0, locals := 13 } : Room).cells ({ frames := 1, cells := 0, slots := 0, locals := 13 } : Room).slots) := by
  refine MetFree.of_bodySF (plainFor_of_name pn_java_lang_AbstractStringBuilder) hisR ?_
  intro p e s m args below meth c s₁ Bd hml0 hP hK
  obtain ⟨rfl, hZ, hh⟩ := hP
  have hx := Bd.exec
  have hby := Bd.bytes
  have hml : c.maxLocals = 2 := hml0
  have hown : s.vm.findClass "java/lang/AbstractStringBuilder" = some m.cls := findClass_of_methodNamed Bd.named
  have hnm := (name_of_methodNamed Bd.named Bd.method).1
  have X0 : Stand p l e ({ frames := 1, cells := 0, slots := 0, locals := 13 } : Room) s m #[(.ref a1), (.ref a2)] below meth c s₁ [] 0 0 := Stand.of_body Bd
  have e0 : s₁.heap = h0 := by rw [← hh, Bd.state]; rfl
  have N0 := Fr.nil n0
  have pre0 : ∀ tG, Steps p.tables e below (s₁.setTop (mkF m 0 #[.val (.ref a1), .val (.ref a2)] [])) tG → Steps p.tables e below (s₁.setTop (entryFrame m #[(.ref a1), (.ref a2)] 2)) tG := fun tG kG => castTop (ef_rmIn m a1 a2) kG
  obtain ⟨T253, X253, e253, st253⟩ := getS2 X0 hx hZ hown (host := "") (Or.inl (own_w hw 127 rfl)) Via.refl e0 SC (g := (mkF m 0 #[.val (.ref a1), .val (.ref a2)] [])) rfl (hb hby d27_0)
  obtain ⟨T254, X254, e254, st254⟩ := getF X253 hx hZ hown (host := "") (Or.inl (own_w hw 130 rfl)) Via.refl e253 F_coder (g := (mkF m 7 #[.val (.ref a1), .val (.ref a2)] [(.ref a1)])) rfl rfl (hb hby d27_7)
  obtain ⟨cq255, kq255, q255a, q255b, q255c⟩ := isOf hZ e254 ES
  obtain ⟨_, _, ⟨T255, L255, k255, n255⟩, -, X255, ⟨Lc255, hQ255, l255, y255, z255⟩, st255⟩ := X254.virtualBack hx (y := (⟨"java/lang/String", "coder", "()B"⟩ : MethodName)) (z := (⟨"java/lang/String", "coder", "()B"⟩ : MethodName)) hown (mvT hZ (own_w hw 169 rfl)) (mvT hZ (own_w hw 148 rfl)) (notFace_of_selects (args := #[]) (mvT hZ (own_w hw 150 rfl))) (mvT hZ (own_w hw 150 rfl)) (mvT hZ (own_w hw 149 rfl)) (by decide) (backOf (W := 1) (rmCo l Z a0 hw [] a2 kc h0 n0 Z0 SC hkc FC) hZ (own_w hw 151 rfl) (own_w hw 18 rfl) (by decide) (by decide)) q255a q255c (g := (mkF m 11 #[.val (.ref a1), .val (.ref a2)] [(.ref a2), (.int 0)])) rfl (by rw [hml]; rfl) (Steps.refl _) (argsL := []) (rest := [(.int 0)]) (lenOf pd_2829B rfl) rfl (by show 2 * 0 + _ ≤ _; exact Nat.le_of_eq rfl) (hb hby d27_11) (fun _ _ => ⟨rfl, e254, (by decide : 0 + 0 ≤ _), (by decide : 0 + 0 ≤ _)⟩)
  dsimp only [Pt.U, Pt.locs, Pt.cells, Pt.slots] at X255 l255 y255 z255 st255 hQ255
  subst l255 y255 z255
  obtain ⟨rfl, N255q, e255⟩ := hQ255
  have N255 := Fr.app N0 N255q
  obtain ⟨fs, hr, hrun, hended, hW, hsame⟩ := X255.leave (v := none) (fun _ => rfl)
  refine ⟨_, _, pre0 _ ?_, hrun, hended, _, _, rfl, ?_, ⟨_, rfl⟩, hW, hsame.mono (by decide) (by decide)⟩
  · refine st253 _ ?_
    show Steps p.tables e below (T253.setTop (mkF m 3 #[.val (.ref a1), .val (.ref a2)] [(.int kc)])) _
    refine own_ifNo X253.here hx (hb hby d27_3) ((if0 _ _).trans (feq hkc).1) ?_
    refine own_aloadN X253.here hx (hb hby d27_6) rfl rfl ?_
    refine st254 _ ?_
    show Steps p.tables e below (T254.setTop (mkF m 10 #[.val (.ref a1), .val (.ref a2)] [(.int 0)])) _
    refine own_aloadN X254.here hx (hb hby d27_10) rfl rfl ?_
    refine st255.trans ?_
    show Steps p.tables e below (T255.setTop (mkF m 14 #[.val (.ref a1), .val (.ref a2)] [(.int 0), (.int 0)])) _
    refine own_icmpYes X255.here hx 14 21 rfl (hb hby d27_14) (teq (by decide : (0 : Int32) = (0 : Int32))).1 (by decide) (by decide) ?_
    exact X255.returnOut hx Bd.returns (hb hby d27_21) hr
  · show QIn Z a1 a2 kc h0 n0 _ T255.heap _
    rw [e255]
    exact ⟨rfl, N255, rfl⟩
theorem ef_rmGB (m : MethodId) (x0 : Addr) (x1 : Addr) (x2 : Int32) (x3 : Int32) : entryFrame m #[(.ref x0), (.ref x1), (.int x2), (.int x3)] 4 = mkF m 0 #[.val (.ref x0), .val (.ref x1), .val (.int x2), .val (.int x3)] [] := by first | (simp [entryFrame, mkF, argsToLocals, Value.category]; done) | rfl
def QGB (Z : State) (a1 : Addr) (a2 : Addr) (p3 : Int32) (kc : Int32) (d2 : Addr) (z : Int32) (h0 : Heap) (n0 : Nat) (v : Option Value) (h : Heap) (L : List Loc) : Prop := v = none ∧ Fr n0 L ∧ Keep h0 h [a2] ∧ own_BA Z h a2 z
theorem d28_0 : decode jdk_42_method_147_code 0 = .ok (.aload_n 0, 1) := by decide +kernel
theorem d28_1 : decode jdk_42_method_147_code 1 = .ok (.invokevirtual 335, 3) := by decide +kernel
theorem d28_4 : decode jdk_42_method_147_code 4 = .ok (.iload_n 3, 1) := by decide +kernel
theorem d28_5 : decode jdk_42_method_147_code 5 = .ok (.if_icmp .ne 23, 3) := by decide +kernel
theorem d28_8 : decode jdk_42_method_147_code 8 = .ok (.aload_n 0, 1) := by decide +kernel
theorem d28_9 : decode jdk_42_method_147_code 9 = .ok (.getfield 9, 3) := by decide +kernel
theorem d28_12 : decode jdk_42_method_147_code 12 = .ok (.iconst 0, 1) := by decide +kernel
theorem d28_13 : decode jdk_42_method_147_code 13 = .ok (.aload_n 1, 1) := by decide +kernel
theorem d28_14 : decode jdk_42_method_147_code 14 = .ok (.iload_n 2, 1) := by decide +kernel
theorem d28_15 : decode jdk_42_method_147_code 15 = .ok (.iload_n 3, 1) := by decide +kernel
theorem d28_16 : decode jdk_42_method_147_code 16 = .ok (.ishl, 1) := by decide +kernel
theorem d28_17 : decode jdk_42_method_147_code 17 = .ok (.aload_n 0, 1) := by decide +kernel
theorem d28_18 : decode jdk_42_method_147_code 18 = .ok (.getfield 9, 3) := by decide +kernel
theorem d28_21 : decode jdk_42_method_147_code 21 = .ok (.arraylength, 1) := by decide +kernel
theorem d28_22 : decode jdk_42_method_147_code 22 = .ok (.invokestatic 212, 3) := by decide +kernel
theorem d28_25 : decode jdk_42_method_147_code 25 = .ok (.goto 18, 3) := by decide +kernel
theorem d28_43 : decode jdk_42_method_147_code 43 = .ok (.return_, 1) := by decide +kernel
set_option maxRecDepth 65536 in
set_option maxHeartbeats 40000000 in
theorem rmGB (l : Launch) (Z : State) (a0 : Array Value) (hw : ∀ d ∈ tables_1, d.before a0 Z = true) (ws : List Jvm.Cond) (a1 : Addr) (a2 : Addr) (p3 : Int32) (kc : Int32) (d2 : Addr) (z : Int32) (h0 : Heap) (n0 : Nat) (Z0 : n0 ≤ h0.size) (SC : Sta Z h0 "java/lang/String" "COMPACT_STRINGS" "Z" (.int kc)) (hkc : ¬ kc = (0 : Int32)) (ES : Exa Z h0 a1 "java/lang/String") (FC : Fld Z h0 a1 "java/lang/String" "coder" "B" (.int 0)) (FV : Fld Z h0 a1 "java/lang/String" "value" "[B" (.ref d2)) (BS : own_BV Z h0 d2 1) (BD : own_BA Z h0 a2 z) (g2 : n0 ≤ a2) (hp0 : ¬ p3 < (0 : Int32)) (hp1 : p3 < z) :
    MetFree l (⟨"java/lang/String", "getBytes", "([BIB)V"⟩ : MethodName) (head1 (Jvm.Cond.code (⟨"java/lang/String", "getBytes", "([BIB)V"⟩ : MethodName) jdk_42_method_147_code 4 none :: ws) ({ frames := 1, cells := 0, slots := 0, locals := 18 } : Room)) (fun a U => a = #[(.ref a1), (.ref a2), (.int p3), (.int 0)] ∧ Z.Warmed39 U.vm ∧ U.heap = h0) (fun _ _ _ _ _ => True) (fun _ U o U' => ∃ v L, o = .returned v ∧ QGB Z a1 a2 p3 kc d2 z h0 n0 v U'.heap L ∧ FrameEnd U o U' L ({ frames := 1, cells := 0, slots := 0, locals := 18 } : Room).cells ({ frames := 1, cells := 0, slots := 0, locals := 18 } : Room).slots) := by
  refine MetFree.of_bodySF (plainFor_of_name pn_java_lang_String) hisR ?_
  intro p e s m args below meth c s₁ Bd hml0 hP hK
  obtain ⟨rfl, hZ, hh⟩ := hP
  have hx := Bd.exec
  have hby := Bd.bytes
  have hml : c.maxLocals = 4 := hml0
  have hown : s.vm.findClass "java/lang/String" = some m.cls := findClass_of_methodNamed Bd.named
  have hnm := (name_of_methodNamed Bd.named Bd.method).1
  have X0 : Stand p l e ({ frames := 1, cells := 0, slots := 0, locals := 18 } : Room) s m #[(.ref a1), (.ref a2), (.int p3), (.int 0)] below meth c s₁ [] 0 0 := Stand.of_body Bd
  have e0 : s₁.heap = h0 := by rw [← hh, Bd.state]; rfl
  have N0 := Fr.nil n0
  have pre0 : ∀ tG, Steps p.tables e below (s₁.setTop (mkF m 0 #[.val (.ref a1), .val (.ref a2), .val (.int p3), .val (.int 0)] [])) tG → Steps p.tables e below (s₁.setTop (entryFrame m #[(.ref a1), (.ref a2), (.int p3), (.int 0)] 4)) tG := fun tG kG => castTop (ef_rmGB m a1 a2 p3 (0 : Int32)) kG
  obtain ⟨cq256, kq256, q256a, q256b, q256c⟩ := isOf hZ e0 ES
  obtain ⟨_, _, ⟨T256, L256, k256, n256⟩, -, X256, ⟨Lc256, hQ256, l256, y256, z256⟩, st256⟩ := X0.virtualBack hx (y := (⟨"java/lang/String", "coder", "()B"⟩ : MethodName)) (z := (⟨"java/lang/String", "coder", "()B"⟩ : MethodName)) hown (mvT hZ (own_w hw 147 rfl)) (mvT hZ (own_w hw 148 rfl)) (notFace_of_selects (args := #[]) (mvT hZ (own_w hw 150 rfl))) (mvT hZ (own_w hw 150 rfl)) (mvT hZ (own_w hw 149 rfl)) (by decide) (backOf (W := 0) (rmCo l Z a0 hw [] a1 kc h0 n0 Z0 SC hkc FC) hZ (own_w hw 151 rfl) (own_w hw 18 rfl) (by decide) (by decide)) q256a q256c (g := (mkF m 1 #[.val (.ref a1), .val (.ref a2), .val (.int p3), .val (.int 0)] [(.ref a1)])) rfl (by rw [hml]; rfl) (Steps.refl _) (argsL := []) (rest := []) (lenOf pd_2829B rfl) rfl (by show 2 * 0 + _ ≤ _; exact Nat.le_of_eq rfl) (hb hby d28_1) (fun _ _ => ⟨rfl, e0, (by decide : 0 + 0 ≤ _), (by decide : 0 + 0 ≤ _)⟩)
  dsimp only [Pt.U, Pt.locs, Pt.cells, Pt.slots] at X256 l256 y256 z256 st256 hQ256
  subst l256 y256 z256
  obtain ⟨rfl, N256q, e256⟩ := hQ256
  have N256 := Fr.app N0 N256q
  obtain ⟨T257, X257, e257, st257⟩ := getF X256 hx hZ hown (host := "") (Or.inl (own_w hw 36 rfl)) Via.refl e256 FV (g := (mkF m 9 #[.val (.ref a1), .val (.ref a2), .val (.int p3), .val (.int 0)] [(.ref a1)])) rfl rfl (hb hby d28_9)
  obtain ⟨T258, X258, e258, st258⟩ := getF X257 hx hZ hown (host := "") (Or.inl (own_w hw 36 rfl)) Via.refl e257 FV (g := (mkF m 18 #[.val (.ref a1), .val (.ref a2), .val (.int p3), .val (.int 0)] [(.ref a1), (.int p3), (.ref a2), (.int 0), (.ref d2)])) rfl rfl (hb hby d28_18)
  obtain ⟨kk259, vs259, ⟨cl259, Ar259, -, S259, M259, -, -⟩, -⟩ := id BS
  obtain ⟨T260, h260, L260, X260, e260, N260, Kq260, V260, st260⟩ := own_cpB X258 hx hZ hown (own_w hw 175 rfl) (own_w hw 178 rfl) (own_w hw 176 rfl) (own_w hw 177 rfl) e258 BS BD (by decide) (hp0) (by decide) (by decide) (by rw [own_ltI] at hp1; have : (1 : Int32).toInt = 1 := rfl; omega) N256 g2 (g := (mkF m 22 #[.val (.ref a1), .val (.ref a2), .val (.int p3), .val (.int 0)] [(.int 1), (.int p3), (.ref a2), (.int 0), (.ref d2)])) rfl (by rw [hml]; rfl) rfl (hb hby d28_22) (by decide) (W := 0) (by show 2 * 0 + _ ≤ _; exact Nat.le_of_eq rfl) (by decide)
  have Z260 : n0 ≤ h260.size := Nat.le_trans Z0 Kq260.1
  have K260 : Keep h0 h260 [a2] := (Keep.refl h0 [a2]).trans Kq260 (allS (Or.inl (List.mem_of_getElem? (i := 0) rfl)) all0)
  obtain ⟨fs, hr, hrun, hended, hW, hsame⟩ := X260.leave (v := none) (fun _ => rfl)
  refine ⟨_, _, pre0 _ ?_, hrun, hended, _, _, rfl, ?_, ⟨_, rfl⟩, hW, hsame.mono (by decide) (by decide)⟩
  · refine own_aloadN X0.here hx (hb hby d28_0) rfl rfl ?_
    refine st256.trans ?_
    show Steps p.tables e below (T256.setTop (mkF m 4 #[.val (.ref a1), .val (.ref a2), .val (.int p3), .val (.int 0)] [(.int 0)])) _
    refine own_iloadN X256.here hx (hb hby d28_4) rfl ?_
    refine own_icmpNo X256.here hx (hb hby d28_5) (teq (by decide : (0 : Int32) = (0 : Int32))).2 ?_
    refine own_aloadN X256.here hx (hb hby d28_8) rfl rfl ?_
    refine st257 _ ?_
    show Steps p.tables e below (T257.setTop (mkF m 12 #[.val (.ref a1), .val (.ref a2), .val (.int p3), .val (.int 0)] [(.ref d2)])) _
    refine own_iconst X257.here hx (0 : Int32) (hb hby d28_12) rfl ?_
    refine own_aloadN X257.here hx (hb hby d28_13) rfl rfl ?_
    refine own_iloadN X257.here hx (hb hby d28_14) rfl ?_
    refine own_iloadN X257.here hx (hb hby d28_15) rfl ?_
    refine own_ishl X257.here hx (hb hby d28_16) ?_
    show Steps p.tables e below (T257.setTop (mkF m 17 #[.val (.ref a1), .val (.ref a2), .val (.int p3), .val (.int 0)] [(.int (p3 <<< ((0 : Int32) &&& 31))), (.ref a2), (.int 0), (.ref d2)])) _
    rw [own_shl0]
    show Steps p.tables e below (T257.setTop (mkF m 17 #[.val (.ref a1), .val (.ref a2), .val (.int p3), .val (.int 0)] [(.int p3), (.ref a2), (.int 0), (.ref d2)])) _
    refine own_aloadN X257.here hx (hb hby d28_17) rfl rfl ?_
    refine st258 _ ?_
    show Steps p.tables e below (T258.setTop (mkF m 21 #[.val (.ref a1), .val (.ref a2), .val (.int p3), .val (.int 0)] [(.ref d2), (.int p3), (.ref a2), (.int 0), (.ref d2)])) _
    refine X258.arraylength hx (by rw [e258]; exact Ar259.1) (State.isArrayOf_alike hZ.alike Ar259.2.1) (g := (mkF m 21 #[.val (.ref a1), .val (.ref a2), .val (.int p3), .val (.int 0)] [(.ref d2), (.int p3), (.ref a2), (.int 0), (.ref d2)])) rfl rfl (hb hby d28_21) _ ?_
    rw [len_of S259 M259]
    show Steps p.tables e below (T258.setTop (mkF m 22 #[.val (.ref a1), .val (.ref a2), .val (.int p3), .val (.int 0)] [(.int 1), (.int p3), (.ref a2), (.int 0), (.ref d2)])) _
    refine st260 _ ?_
    show Steps p.tables e below (T260.setTop (mkF m 25 #[.val (.ref a1), .val (.ref a2), .val (.int p3), .val (.int 0)] [])) _
    refine own_goto X260.here hx 25 43 rfl (hb hby d28_25) (by decide) (by decide) ?_
    exact X260.returnOut hx Bd.returns (hb hby d28_43) hr
  · show QGB Z a1 a2 p3 kc d2 z h0 n0 _ T260.heap _
    rw [e260]
    exact ⟨rfl, N260, K260, V260⟩
theorem ef_rmPS (m : MethodId) (x0 : Addr) (x1 : Int32) (x2 : Addr) : entryFrame m #[(.ref x0), (.int x1), (.ref x2)] 3 = mkF m 0 #[.val (.ref x0), .val (.int x1), .val (.ref x2)] [] := by first | (simp [entryFrame, mkF, argsToLocals, Value.category]; done) | rfl
def QPS (Z : State) (a1 : Addr) (p2 : Int32) (a3 : Addr) (kc : Int32) (d1 : Addr) (d2 : Addr) (z : Int32) (c1 : Int32) (h0 : Heap) (n0 : Nat) (v : Option Value) (h : Heap) (L : List Loc) : Prop := v = none ∧ Fr n0 L ∧ Keep h0 h [d1] ∧ own_BA Z h d1 z
theorem d26_0 : decode jdk_68_method_73_code 0 = .ok (.aload_n 0, 1) := by decide +kernel
theorem d26_1 : decode jdk_68_method_73_code 1 = .ok (.aload_n 2, 1) := by decide +kernel
theorem d26_2 : decode jdk_68_method_73_code 2 = .ok (.invokevirtual 397, 3) := by decide +kernel
theorem pd_28Ljava2flang2fString3b29V : parseMethodDescriptor "(Ljava/lang/String;)V" = some ⟨[(.object "java/lang/String")], none⟩ := by decide +kernel
theorem d26_5 : decode jdk_68_method_73_code 5 = .ok (.aload_n 2, 1) := by decide +kernel
theorem d26_6 : decode jdk_68_method_73_code 6 = .ok (.aload_n 0, 1) := by decide +kernel
theorem d26_7 : decode jdk_68_method_73_code 7 = .ok (.getfield 15, 3) := by decide +kernel
theorem d26_10 : decode jdk_68_method_73_code 10 = .ok (.iload_n 1, 1) := by decide +kernel
theorem d26_11 : decode jdk_68_method_73_code 11 = .ok (.aload_n 0, 1) := by decide +kernel
theorem d26_12 : decode jdk_68_method_73_code 12 = .ok (.getfield 22, 3) := by decide +kernel
theorem d26_15 : decode jdk_68_method_73_code 15 = .ok (.invokevirtual 399, 3) := by decide +kernel
theorem pd_285bBIB29V : parseMethodDescriptor "([BIB)V" = some ⟨[(.array .byte), .int, .byte], none⟩ := by decide +kernel
theorem d26_18 : decode jdk_68_method_73_code 18 = .ok (.return_, 1) := by decide +kernel
set_option maxRecDepth 65536 in
set_option maxHeartbeats 40000000 in
theorem rmPS (l : Launch) (Z : State) (a0 : Array Value) (hw : ∀ d ∈ tables_1, d.before a0 Z = true) (ws : List Jvm.Cond) (a1 : Addr) (p2 : Int32) (a3 : Addr) (kc : Int32) (d1 : Addr) (d2 : Addr) (z : Int32) (c1 : Int32) (h0 : Heap) (n0 : Nat) (Z0 : n0 ≤ h0.size) (E_a1 : Exa Z h0 a1 "java/lang/StringBuilder") (g_a1 : n0 ≤ a1) (F_value : Fld Z h0 a1 "java/lang/AbstractStringBuilder" "value" "[B" (.ref d1)) (F_coder : Fld Z h0 a1 "java/lang/AbstractStringBuilder" "coder" "B" (.int 0)) (F_count : Fld Z h0 a1 "java/lang/AbstractStringBuilder" "count" "I" (.int c1)) (B_d1 : own_BA Z h0 d1 z) (g_d1 : n0 ≤ d1) (nD : a1 ≠ d1) (SC : Sta Z h0 "java/lang/String" "COMPACT_STRINGS" "Z" (.int kc)) (hkc : ¬ kc = (0 : Int32)) (ES : Exa Z h0 a3 "java/lang/String") (FC : Fld Z h0 a3 "java/lang/String" "coder" "B" (.int 0)) (FV : Fld Z h0 a3 "java/lang/String" "value" "[B" (.ref d2)) (BS : own_BV Z h0 d2 1) (hp0 : ¬ p2 < (0 : Int32)) (hp1 : p2 < z) :
    MetFree l (⟨"java/lang/AbstractStringBuilder", "putStringAt", "(ILjava/lang/String;)V"⟩ : MethodName) (head1 (Jvm.Cond.code (⟨"java/lang/AbstractStringBuilder", "putStringAt", "(ILjava/lang/String;)V"⟩ : MethodName) jdk_68_method_73_code 3 none :: ws) ({ frames := 2, cells := 0, slots := 0, locals := 33 } : Room)) (fun a U => a = #[(.ref a1), (.int p2), (.ref a3)] ∧ Z.Warmed39 U.vm ∧ U.heap = h0) (fun _ _ _ _ _ => True) (fun _ U o U' => ∃ v L, o = .returned v ∧ QPS Z a1 p2 a3 kc d1 d2 z c1 h0 n0 v U'.heap L ∧ FrameEnd U o U' L ({ frames := 2, cells := 0, slots := 0, locals := 33 } : Room).cells ({ frames := 2, cells := 0, slots := 0, locals := 33 } : Room).slots) := by
  refine MetFree.of_bodySF (plainFor_of_name pn_java_lang_AbstractStringBuilder) hisR ?_
  intro p e s m args below meth c s₁ Bd hml0 hP hK
  obtain ⟨rfl, hZ, hh⟩ := hP
  have hx := Bd.exec
  have hby := Bd.bytes
  have hml : c.maxLocals = 3 := hml0
  have hown : s.vm.findClass "java/lang/AbstractStringBuilder" = some m.cls := findClass_of_methodNamed Bd.named
  have hnm := (name_of_methodNamed Bd.named Bd.method).1
  have X0 : Stand p l e ({ frames := 2, cells := 0, slots := 0, locals := 33 } : Room) s m #[(.ref a1), (.int p2), (.ref a3)] below meth c s₁ [] 0 0 := Stand.of_body Bd
  have e0 : s₁.heap = h0 := by rw [← hh, Bd.state]; rfl
  have N0 := Fr.nil n0
  have pre0 : ∀ tG, Steps p.tables e below (s₁.setTop (mkF m 0 #[.val (.ref a1), .val (.int p2), .val (.ref a3)] [])) tG → Steps p.tables e below (s₁.setTop (entryFrame m #[(.ref a1), (.int p2), (.ref a3)] 3)) tG := fun tG kG => castTop (ef_rmPS m a1 p2 a3) kG
  obtain ⟨cq262, q262, q262'⟩ := E_a1.cell
  obtain ⟨_, _, ⟨T262, L262, k262, n262⟩, -, X262, ⟨Lc262, hQ262, l262, y262, z262⟩, st262⟩ := X0.privateBack hx (y := (⟨"java/lang/AbstractStringBuilder", "inflateIfNeededFor", "(Ljava/lang/String;)V"⟩ : MethodName)) hown (mvT hZ (own_w hw 164 rfl)) (mvT hZ (own_w hw 165 rfl)) (mvT hZ (own_selp (own_w hw 165 rfl) (own_w hw 166 rfl) (own_w hw 167 rfl) (by decide))) (Cond.privateMethod_at (mvP hZ (own_w hw 166 rfl) (args := #[]))) (mvT hZ (own_w hw 168 rfl)) (by decide) (backOf (W := 0) (rmIn l Z a0 hw [] a1 a3 kc h0 n0 Z0 SC hkc F_coder ES FC) hZ (own_w hw 168 rfl) (own_w hw 124 rfl) (by decide) (by decide)) (g := (mkF m 2 #[.val (.ref a1), .val (.int p2), .val (.ref a3)] [(.ref a3), (.ref a1)])) rfl (by rw [hml]; rfl) (Steps.refl _) (a := a1) (by rw [e0]; exact q262) q262' (argsL := [(.ref a3)]) (rest := []) (lenOf pd_28Ljava2flang2fString3b29V rfl) rfl (by show 2 * 0 + _ ≤ _; exact Nat.le_of_eq rfl) (hb hby d26_2) (fun _ _ => ⟨rfl, e0, (by decide : 0 + 0 ≤ _), (by decide : 0 + 0 ≤ _)⟩)
  dsimp only [Pt.U, Pt.locs, Pt.cells, Pt.slots] at X262 l262 y262 z262 st262 hQ262
  subst l262 y262 z262
  obtain ⟨rfl, N262q, e262⟩ := hQ262
  have N262 := Fr.app N0 N262q
  obtain ⟨T263, X263, e263, st263⟩ := getF X262 hx hZ hown (host := "") (Or.inl (own_w hw 128 rfl)) Via.refl e262 F_value (g := (mkF m 7 #[.val (.ref a1), .val (.int p2), .val (.ref a3)] [(.ref a1), (.ref a3)])) rfl rfl (hb hby d26_7)
  obtain ⟨T264, X264, e264, st264⟩ := getF X263 hx hZ hown (host := "") (Or.inl (own_w hw 130 rfl)) Via.refl e263 F_coder (g := (mkF m 12 #[.val (.ref a1), .val (.int p2), .val (.ref a3)] [(.ref a1), (.int p2), (.ref d1), (.ref a3)])) rfl rfl (hb hby d26_12)
  obtain ⟨cq265, kq265, q265a, q265b, q265c⟩ := isOf hZ e264 ES
  obtain ⟨_, _, ⟨T265, L265, k265, n265⟩, -, X265, ⟨Lc265, hQ265, l265, y265, z265⟩, st265⟩ := X264.virtualBack hx (y := (⟨"java/lang/String", "getBytes", "([BIB)V"⟩ : MethodName)) (z := (⟨"java/lang/String", "getBytes", "([BIB)V"⟩ : MethodName)) hown (mvT hZ (own_w hw 170 rfl)) (mvT hZ (own_w hw 171 rfl)) (notFace_of_selects (args := #[]) (mvT hZ (own_w hw 173 rfl))) (mvT hZ (own_w hw 173 rfl)) (mvT hZ (own_w hw 172 rfl)) (by decide) (backOf (W := 0) (rmGB l Z a0 hw [] a3 d1 p2 kc d2 z h0 n0 Z0 SC hkc ES FC FV BS B_d1 g_d1 hp0 hp1) hZ (own_w hw 174 rfl) (own_w hw 18 rfl) (by decide) (by decide)) q265a q265c (g := (mkF m 15 #[.val (.ref a1), .val (.int p2), .val (.ref a3)] [(.int 0), (.int p2), (.ref d1), (.ref a3)])) rfl (by rw [hml]; rfl) (Steps.refl _) (argsL := [(.ref d1), (.int p2), (.int 0)]) (rest := []) (lenOf pd_285bBIB29V rfl) rfl (by show 2 * 0 + _ ≤ _; exact Nat.le_of_eq rfl) (hb hby d26_15) (fun _ _ => ⟨rfl, e264, (by decide : 0 + 0 ≤ _), (by decide : 0 + 0 ≤ _)⟩)
  dsimp only [Pt.U, Pt.locs, Pt.cells, Pt.slots] at X265 l265 y265 z265 st265 hQ265
  subst l265 y265 z265
  obtain ⟨rfl, N265q, Kq265, BA265⟩ := hQ265
  have N265 := Fr.app N262 N265q
  have Z265 : n0 ≤ T265.heap.size := Nat.le_trans Z0 Kq265.1
  have K265 : Keep h0 T265.heap [d1] := (Keep.refl h0 [d1]).trans Kq265 (allS (Or.inl (List.mem_of_getElem? (i := 0) rfl)) all0)
  obtain ⟨fs, hr, hrun, hended, hW, hsame⟩ := X265.leave (v := none) (fun _ => rfl)
  refine ⟨_, _, pre0 _ ?_, hrun, hended, _, _, rfl, ?_, ⟨_, rfl⟩, hW, hsame.mono (by decide) (by decide)⟩
  · refine own_aloadN X0.here hx (hb hby d26_0) rfl rfl ?_
    refine own_aloadN X0.here hx (hb hby d26_1) rfl rfl ?_
    refine st262.trans ?_
    show Steps p.tables e below (T262.setTop (mkF m 5 #[.val (.ref a1), .val (.int p2), .val (.ref a3)] [])) _
    refine own_aloadN X262.here hx (hb hby d26_5) rfl rfl ?_
    refine own_aloadN X262.here hx (hb hby d26_6) rfl rfl ?_
    refine st263 _ ?_
    show Steps p.tables e below (T263.setTop (mkF m 10 #[.val (.ref a1), .val (.int p2), .val (.ref a3)] [(.ref d1), (.ref a3)])) _
    refine own_iloadN X263.here hx (hb hby d26_10) rfl ?_
    refine own_aloadN X263.here hx (hb hby d26_11) rfl rfl ?_
    refine st264 _ ?_
    show Steps p.tables e below (T264.setTop (mkF m 15 #[.val (.ref a1), .val (.int p2), .val (.ref a3)] [(.int 0), (.int p2), (.ref d1), (.ref a3)])) _
    refine st265.trans ?_
    show Steps p.tables e below (T265.setTop (mkF m 18 #[.val (.ref a1), .val (.int p2), .val (.ref a3)] [])) _
    exact X265.returnOut hx Bd.returns (hb hby d26_18) hr
  · show QPS Z a1 p2 a3 kc d1 d2 z c1 h0 n0 _ T265.heap _
    exact ⟨rfl, N265, K265, BA265⟩
theorem own_cpm {z p : Int32} (z0 : ¬ z < 0) (p0 : ¬ p < 0) : ¬ own_min z p < 0 ∧ (0 : Int32).toInt + (own_min z p).toInt ≤ z.toInt ∧ (0 : Int32).toInt + (own_min z p).toInt ≤ p.toInt := by
  have e := own_min_toInt z p
  have k0 : (0 : Int32).toInt = 0 := rfl
  rw [own_ltI, k0] at z0 p0
  refine ⟨?_, ?_, ?_⟩
  · rw [own_ltI, k0, e]; split <;> omega
  · rw [e, k0]; split <;> omega
  · rw [e, k0]; split <;> omega
theorem ef_rmCP (m : MethodId) (x0 : Addr) (x1 : Int32) : entryFrame m #[(.ref x0), (.int x1)] 3 = mkF m 0 #[.val (.ref x0), .val (.int x1), .unset] [] := by first | (simp [entryFrame, mkF, argsToLocals, Value.category]; done) | rfl
theorem pn_java_util_Arrays : plainName "java/util/Arrays" = true := by first | (simp [plainName, overriddenIn]; done) | decide +kernel
def QCP (Z : State) (a1 : Addr) (p2 : Int32) (z : Int32) (h0 : Heap) (n0 : Nat) (v : Option Value) (h : Heap) (L : List Loc) : Prop := ∃ b, v = some (.ref b) ∧ Fr n0 L ∧ Keep h0 h [] ∧ h0.size ≤ b ∧ own_BA Z h b p2
theorem d46_0 : decode jdk_65_method_121_code 0 = .ok (.iload_n 1, 1) := by decide +kernel
theorem d46_1 : decode jdk_65_method_121_code 1 = .ok (.aload_n 0, 1) := by decide +kernel
theorem d46_2 : decode jdk_65_method_121_code 2 = .ok (.arraylength, 1) := by decide +kernel
theorem d46_3 : decode jdk_65_method_121_code 3 = .ok (.if_icmp .ne 11, 3) := by decide +kernel
theorem d46_14 : decode jdk_65_method_121_code 14 = .ok (.iload_n 1, 1) := by decide +kernel
theorem d46_15 : decode jdk_65_method_121_code 15 = .ok (.newarray .byte, 2) := by decide +kernel
theorem d46_17 : decode jdk_65_method_121_code 17 = .ok (.astore_n 2, 1) := by decide +kernel
theorem d46_18 : decode jdk_65_method_121_code 18 = .ok (.aload_n 0, 1) := by decide +kernel
theorem d46_19 : decode jdk_65_method_121_code 19 = .ok (.iconst 0, 1) := by decide +kernel
theorem d46_20 : decode jdk_65_method_121_code 20 = .ok (.aload_n 2, 1) := by decide +kernel
theorem d46_21 : decode jdk_65_method_121_code 21 = .ok (.iconst 0, 1) := by decide +kernel
theorem d46_22 : decode jdk_65_method_121_code 22 = .ok (.aload_n 0, 1) := by decide +kernel
theorem d46_23 : decode jdk_65_method_121_code 23 = .ok (.arraylength, 1) := by decide +kernel
theorem d46_24 : decode jdk_65_method_121_code 24 = .ok (.iload_n 1, 1) := by decide +kernel
theorem d46_25 : decode jdk_65_method_121_code 25 = .ok (.invokestatic 304, 3) := by decide +kernel
theorem d46_28 : decode jdk_65_method_121_code 28 = .ok (.invokestatic 150, 3) := by decide +kernel
theorem d46_31 : decode jdk_65_method_121_code 31 = .ok (.aload_n 2, 1) := by decide +kernel
theorem d46_32 : decode jdk_65_method_121_code 32 = .ok (.areturn, 1) := by decide +kernel
set_option maxRecDepth 65536 in
set_option maxHeartbeats 40000000 in
theorem rmCP (l : Launch) (Z : State) (a0 : Array Value) (hw : ∀ d ∈ tables_1, d.before a0 Z = true) (ws : List Jvm.Cond) (a1 : Addr) (p2 : Int32) (z : Int32) (h0 : Heap) (n0 : Nat) (Z0 : n0 ≤ h0.size) (BS : own_BV Z h0 a1 z) (hne : ¬ p2 = z) (hq0 : ¬ p2 < (0 : Int32)) (hq1 : p2.toNatClampNeg ≤ 70) :
    MetFree l (⟨"java/util/Arrays", "copyOf", "([BI)[B"⟩ : MethodName) (head1 (Jvm.Cond.code (⟨"java/util/Arrays", "copyOf", "([BI)[B"⟩ : MethodName) jdk_65_method_121_code 3 (some (.array .byte)) :: ws) ({ frames := 1, cells := 1, slots := 70, locals := 18 } : Room)) (fun a U => a = #[(.ref a1), (.int p2)] ∧ Z.Warmed39 U.vm ∧ U.heap = h0) (fun _ _ _ _ _ => True) (fun _ U o U' => ∃ v L, o = .returned v ∧ QCP Z a1 p2 z h0 n0 v U'.heap L ∧ FrameEnd U o U' L ({ frames := 1, cells := 1, slots := 70, locals := 18 } : Room).cells ({ frames := 1, cells := 1, slots := 70, locals := 18 } : Room).slots) := by
  refine MetFree.of_bodySF (plainFor_of_name pn_java_util_Arrays) hisR ?_
  intro p e s m args below meth c s₁ Bd hml0 hP hK
  obtain ⟨rfl, hZ, hh⟩ := hP
  have hx := Bd.exec
  have hby := Bd.bytes
  have hml : c.maxLocals = 3 := hml0
  have hown : s.vm.findClass "java/util/Arrays" = some m.cls := findClass_of_methodNamed Bd.named
  have hnm := (name_of_methodNamed Bd.named Bd.method).1
  have X0 : Stand p l e ({ frames := 1, cells := 1, slots := 70, locals := 18 } : Room) s m #[(.ref a1), (.int p2)] below meth c s₁ [] 0 0 := Stand.of_body Bd
  have e0 : s₁.heap = h0 := by rw [← hh, Bd.state]; rfl
  have N0 := Fr.nil n0
  have pre0 : ∀ tG, Steps p.tables e below (s₁.setTop (mkF m 0 #[.val (.ref a1), .val (.int p2), .unset] [])) tG → Steps p.tables e below (s₁.setTop (entryFrame m #[(.ref a1), (.int p2)] 3)) tG := fun tG kG => castTop (ef_rmCP m a1 p2) kG
  obtain ⟨kk266, vs266, ⟨cl266, Ar266, -, S266, M266, -, -⟩, -⟩ := id BS
  obtain ⟨T267, h267, k267, X267, e267, E267, A267, B267, st267⟩ := newPE X0 hx hZ (own_w hw 30 rfl) e0 (g := (mkF m 15 #[.val (.ref a1), .val (.int p2), .unset] [(.int p2)])) rfl (hb hby d46_15) rfl hq0 (cap := 70) hq1 (by decide) (by decide) (by decide) (ad := "[B") (by decide)
  obtain ⟨b267, g267⟩ : ∃ z, z = h0.size := ⟨_, rfl⟩
  rw [← g267] at A267 B267 st267
  have E267' := E267
  have gg267 : n0 ≤ b267 := Nat.le_trans Z0 (Nat.le_of_eq g267.symm)
  have sz267 : h0.size ≤ b267 := Nat.le_trans (Keep.refl h0 []).1 (Nat.le_of_eq g267.symm)
  have ne268 : a1 ≠ b267 := Nat.ne_of_lt (Nat.lt_of_lt_of_le BS.lt (Nat.le_of_eq g267.symm))
  have Z267 : n0 ≤ h267.size := Nat.le_trans Z0 E267.1
  have K267 : Keep h0 h267 [] := (Keep.refl h0 []).ext E267
  have f269 : own_BV Z h267 a1 z := BS.ext E267
  have V267 : own_BA Z h267 b267 p2 := ⟨B267, own_BV.new A267 hq0⟩
  obtain ⟨kk270, vs270, ⟨cl270, Ar270, -, S270, M270, -, -⟩, -⟩ := id f269
  obtain ⟨_, _, ⟨T271, L271, k271, n271⟩, -, X271, ⟨Lc271, hQ271, l271, y271, z271⟩, st271⟩ := Jvm.LawKit.callS X267 hx (y := (⟨"java/lang/Math", "min", "(II)I"⟩ : MethodName)) hown (mvT hZ (own_w hw 245 rfl)) (mvT hZ (own_w hw 246 rfl)) (mvT hZ (own_w hw 109 rfl)) (mvT hZ (own_w hw 247 rfl)) (by decide) (backOf (W := 4) (rmMin l Z a0 hw [] z p2 h267 n0 Z267) hZ (own_w hw 247 rfl) (own_w hw 109 rfl) (by decide) (by decide)) (g := (mkF m 25 #[.val (.ref a1), .val (.int p2), .val (.ref b267)] [(.int p2), (.int z), (.int 0), (.ref b267), (.int 0), (.ref a1)])) rfl (by rw [hml]; rfl) (argsL := [(.int z), (.int p2)]) (rest := [(.int 0), (.ref b267), (.int 0), (.ref a1)]) (lenOf pd_28II29I rfl) rfl (by show 2 * 0 + _ ≤ _; exact Nat.le_of_eq rfl) (hb hby d46_25) (fun _ _ => ⟨rfl, e267, (by decide : 1 + 0 ≤ _), (by decide : 70 + 0 ≤ _)⟩)
  dsimp only [Pt.U, Pt.locs, Pt.cells, Pt.slots] at X271 l271 y271 z271 st271 hQ271
  subst l271 y271 z271
  obtain ⟨rfl, N271q, e271⟩ := hQ271
  have N271 := Fr.app N0 N271q
  obtain ⟨T272, h272, L272, X272, e272, N272, Kq272, V272, st272⟩ := own_cpB X271 hx hZ hown (own_w hw 248 rfl) (own_w hw 178 rfl) (own_w hw 176 rfl) (own_w hw 177 rfl) e271 f269 V267 (by decide) (by decide) ((own_cpm BS.pos hq0).1) ((own_cpm BS.pos hq0).2.1) ((own_cpm BS.pos hq0).2.2) N271 gg267 (g := (mkF m 28 #[.val (.ref a1), .val (.int p2), .val (.ref b267)] [(.int (own_min z p2)), (.int 0), (.ref b267), (.int 0), (.ref a1)])) rfl (by rw [hml]; rfl) rfl (hb hby d46_28) (by decide) (W := 0) (by show 2 * 0 + _ ≤ _; exact Nat.le_of_eq rfl) (by decide)
  have Z272 : n0 ≤ h272.size := Nat.le_trans Z267 Kq272.1
  have K272 : Keep h0 h272 [] := K267.trans Kq272 (allS (Or.inr sz267) all0)
  have f273 : own_BV Z h272 a1 z := f269.keep Kq272 (ninS ne268 nin0)
  obtain ⟨fs, hr, hrun, hended, hW, hsame⟩ := X272.leave (v := some (.ref b267)) (fun h => by rw [Bd.returns] at h; cases h)
  refine ⟨_, _, pre0 _ ?_, hrun, hended, _, _, rfl, ?_, ⟨_, rfl⟩, hW, hsame.mono (by decide) (by decide)⟩
  · refine own_iloadN X0.here hx (hb hby d46_0) rfl ?_
    refine own_aloadN X0.here hx (hb hby d46_1) rfl rfl ?_
    refine X0.arraylength hx (by rw [e0]; exact Ar266.1) (State.isArrayOf_alike hZ.alike Ar266.2.1) (g := (mkF m 2 #[.val (.ref a1), .val (.int p2), .unset] [(.ref a1), (.int p2)])) rfl rfl (hb hby d46_2) _ ?_
    rw [len_of S266 M266]
    show Steps p.tables e below (s₁.setTop (mkF m 3 #[.val (.ref a1), .val (.int p2), .unset] [(.int z), (.int p2)])) _
    refine own_icmpYes X0.here hx 3 14 rfl (hb hby d46_3) (feq hne).2 (by decide) (by decide) ?_
    refine own_iloadN X0.here hx (hb hby d46_14) rfl ?_
    refine st267 _ ?_
    show Steps p.tables e below (T267.setTop (mkF m 17 #[.val (.ref a1), .val (.int p2), .unset] [(.ref b267)])) _
    refine own_astoreN X267.here hx (hb hby d46_17) rfl (l' := #[.val (.ref a1), .val (.int p2), .val (.ref b267)]) rfl ?_
    refine own_aloadN X267.here hx (hb hby d46_18) rfl rfl ?_
    refine own_iconst X267.here hx (0 : Int32) (hb hby d46_19) rfl ?_
    refine own_aloadN X267.here hx (hb hby d46_20) rfl rfl ?_
    refine own_iconst X267.here hx (0 : Int32) (hb hby d46_21) rfl ?_
    refine own_aloadN X267.here hx (hb hby d46_22) rfl rfl ?_
    refine X267.arraylength hx (by rw [e267]; exact Ar270.1) (State.isArrayOf_alike hZ.alike Ar270.2.1) (g := (mkF m 23 #[.val (.ref a1), .val (.int p2), .val (.ref b267)] [(.ref a1), (.int 0), (.ref b267), (.int 0), (.ref a1)])) rfl rfl (hb hby d46_23) _ ?_
    rw [len_of S270 M270]
    show Steps p.tables e below (T267.setTop (mkF m 24 #[.val (.ref a1), .val (.int p2), .val (.ref b267)] [(.int z), (.int 0), (.ref b267), (.int 0), (.ref a1)])) _
    refine own_iloadN X267.here hx (hb hby d46_24) rfl ?_
    refine st271 _ ?_
    show Steps p.tables e below (T271.setTop (mkF m 28 #[.val (.ref a1), .val (.int p2), .val (.ref b267)] [(.int (own_min z p2)), (.int 0), (.ref b267), (.int 0), (.ref a1)])) _
    refine st272 _ ?_
    show Steps p.tables e below (T272.setTop (mkF m 31 #[.val (.ref a1), .val (.int p2), .val (.ref b267)] [])) _
    refine own_aloadN X272.here hx (hb hby d46_31) rfl rfl ?_
    show Steps p.tables e below (T272.setTop (mkF m 32 #[.val (.ref a1), .val (.int p2), .val (.ref b267)] [(.ref b267)])) _
    jvm_step X272.here [X272.here.top, hx, (hb hby d46_32), X272.method', Bd.returns, Value.isRef, FieldType.isReference]
    first | (intro acts; rw [hr _ acts rfl rfl rfl]) | rw [hr _ _ rfl rfl rfl]
    exact Steps.refl _
  · show QCP Z a1 p2 z h0 n0 _ T272.heap _
    rw [e272]
    exact ⟨b267, rfl, N272, K272, sz267, V272⟩
theorem ef_rmNL (m : MethodId) (x0 : Int32) (x1 : Int32) (x2 : Int32) : entryFrame m #[(.int x0), (.int x1), (.int x2)] 4 = mkF m 0 #[.val (.int x0), .val (.int x1), .val (.int x2), .unset] [] := by first | (simp [entryFrame, mkF, argsToLocals, Value.category]; done) | rfl
theorem pn_jdk_internal_util_ArraysSupport : plainName "jdk/internal/util/ArraysSupport" = true := by first | (simp [plainName, overriddenIn]; done) | decide +kernel
def QNL (Z : State) (p1 : Int32) (p2 : Int32) (p3 : Int32) (h0 : Heap) (n0 : Nat) (v : Option Value) (h : Heap) (L : List Loc) : Prop := v = some (.int (p1 + (own_max p2 p3))) ∧ Fr n0 L ∧ h = h0
theorem d45_0 : decode jdk_48_method_27_code 0 = .ok (.iload_n 0, 1) := by decide +kernel
theorem d45_1 : decode jdk_48_method_27_code 1 = .ok (.iload_n 1, 1) := by decide +kernel
theorem d45_2 : decode jdk_48_method_27_code 2 = .ok (.iload_n 2, 1) := by decide +kernel
theorem d45_3 : decode jdk_48_method_27_code 3 = .ok (.invokestatic 194, 3) := by decide +kernel
theorem d45_6 : decode jdk_48_method_27_code 6 = .ok (.iadd, 1) := by decide +kernel
theorem d45_7 : decode jdk_48_method_27_code 7 = .ok (.istore_n 3, 1) := by decide +kernel
theorem d45_8 : decode jdk_48_method_27_code 8 = .ok (.iconst 0, 1) := by decide +kernel
theorem d45_9 : decode jdk_48_method_27_code 9 = .ok (.iload_n 3, 1) := by decide +kernel
theorem d45_10 : decode jdk_48_method_27_code 10 = .ok (.if_icmp .ge 11, 3) := by decide +kernel
theorem d45_13 : decode jdk_48_method_27_code 13 = .ok (.iload_n 3, 1) := by decide +kernel
theorem d45_14 : decode jdk_48_method_27_code 14 = .ok (.ldc 200, 2) := by decide +kernel
theorem d45_16 : decode jdk_48_method_27_code 16 = .ok (.if_icmp .gt 5, 3) := by decide +kernel
theorem d45_19 : decode jdk_48_method_27_code 19 = .ok (.iload_n 3, 1) := by decide +kernel
theorem d45_20 : decode jdk_48_method_27_code 20 = .ok (.ireturn, 1) := by decide +kernel
set_option maxRecDepth 65536 in
set_option maxHeartbeats 40000000 in
theorem rmNL (l : Launch) (Z : State) (a0 : Array Value) (hw : ∀ d ∈ tables_1, d.before a0 Z = true) (ws : List Jvm.Cond) (p1 : Int32) (p2 : Int32) (p3 : Int32) (h0 : Heap) (n0 : Nat) (Z0 : n0 ≤ h0.size) (g1 : (0 : Int32) < (p1 + (own_max p2 p3))) (g2 : ¬ (2147483639 : Int32) < (p1 + (own_max p2 p3))) :
    MetFree l (⟨"jdk/internal/util/ArraysSupport", "newLength", "(III)I"⟩ : MethodName) (head1 (Jvm.Cond.code (⟨"jdk/internal/util/ArraysSupport", "newLength", "(III)I"⟩ : MethodName) jdk_48_method_27_code 4 (some .int) :: ws) ({ frames := 1, cells := 0, slots := 0, locals := 14 } : Room)) (fun a U => a = #[(.int p1), (.int p2), (.int p3)] ∧ Z.Warmed39 U.vm ∧ U.heap = h0) (fun _ _ _ _ _ => True) (fun _ U o U' => ∃ v L, o = .returned v ∧ QNL Z p1 p2 p3 h0 n0 v U'.heap L ∧ FrameEnd U o U' L ({ frames := 1, cells := 0, slots := 0, locals := 14 } : Room).cells ({ frames := 1, cells := 0, slots := 0, locals := 14 } : Room).slots) := by
  refine MetFree.of_bodySF (plainFor_of_name pn_jdk_internal_util_ArraysSupport) hisR ?_
  intro p e s m args below meth c s₁ Bd hml0 hP hK
  obtain ⟨rfl, hZ, hh⟩ := hP
  have hx := Bd.exec
  have hby := Bd.bytes
  have hml : c.maxLocals = 4 := hml0
  have hown : s.vm.findClass "jdk/internal/util/ArraysSupport" = some m.cls := findClass_of_methodNamed Bd.named
  have hnm := (name_of_methodNamed Bd.named Bd.method).1
  have X0 : Stand p l e ({ frames := 1, cells := 0, slots := 0, locals := 14 } : Room) s m #[(.int p1), (.int p2), (.int p3)] below meth c s₁ [] 0 0 := Stand.of_body Bd
  have e0 : s₁.heap = h0 := by rw [← hh, Bd.state]; rfl
  have N0 := Fr.nil n0
  have pre0 : ∀ tG, Steps p.tables e below (s₁.setTop (mkF m 0 #[.val (.int p1), .val (.int p2), .val (.int p3), .unset] [])) tG → Steps p.tables e below (s₁.setTop (entryFrame m #[(.int p1), (.int p2), (.int p3)] 4)) tG := fun tG kG => castTop (ef_rmNL m p1 p2 p3) kG
  obtain ⟨_, _, ⟨T275, L275, k275, n275⟩, -, X275, ⟨Lc275, hQ275, l275, y275, z275⟩, st275⟩ := Jvm.LawKit.callS X0 hx (y := (⟨"java/lang/Math", "max", "(II)I"⟩ : MethodName)) hown (mvT hZ (own_w hw 258 rfl)) (mvT hZ (own_w hw 108 rfl)) (mvT hZ (own_w hw 109 rfl)) (mvT hZ (own_w hw 110 rfl)) (by decide) (backOf (W := 1) (rmMax l Z a0 hw [] p2 p3 h0 n0 Z0) hZ (own_w hw 110 rfl) (own_w hw 109 rfl) (by decide) (by decide)) (g := (mkF m 3 #[.val (.int p1), .val (.int p2), .val (.int p3), .unset] [(.int p3), (.int p2), (.int p1)])) rfl (by rw [hml]; rfl) (argsL := [(.int p2), (.int p3)]) (rest := [(.int p1)]) (lenOf pd_28II29I rfl) rfl (by show 2 * 0 + _ ≤ _; exact Nat.le_of_eq rfl) (hb hby d45_3) (fun _ _ => ⟨rfl, e0, (by decide : 0 + 0 ≤ _), (by decide : 0 + 0 ≤ _)⟩)
  dsimp only [Pt.U, Pt.locs, Pt.cells, Pt.slots] at X275 l275 y275 z275 st275 hQ275
  subst l275 y275 z275
  obtain ⟨rfl, N275q, e275⟩ := hQ275
  have N275 := Fr.app N0 N275q
  obtain ⟨fs, hr, hrun, hended, hW, hsame⟩ := X275.leave (v := some (.int (p1 + (own_max p2 p3)))) (fun h => by rw [Bd.returns] at h; cases h)
  refine ⟨_, _, pre0 _ ?_, hrun, hended, _, _, rfl, ?_, ⟨_, rfl⟩, hW, hsame.mono (by decide) (by decide)⟩
  · refine own_iloadN X0.here hx (hb hby d45_0) rfl ?_
    refine own_iloadN X0.here hx (hb hby d45_1) rfl ?_
    refine own_iloadN X0.here hx (hb hby d45_2) rfl ?_
    refine st275 _ ?_
    show Steps p.tables e below (T275.setTop (mkF m 6 #[.val (.int p1), .val (.int p2), .val (.int p3), .unset] [(.int (own_max p2 p3)), (.int p1)])) _
    refine own_iadd X275.here hx (hb hby d45_6) ?_
    refine own_istoreN X275.here hx (hb hby d45_7) (l' := #[.val (.int p1), .val (.int p2), .val (.int p3), .val (.int (p1 + (own_max p2 p3)))]) rfl ?_
    refine own_iconst X275.here hx (0 : Int32) (hb hby d45_8) rfl ?_
    refine own_iloadN X275.here hx (hb hby d45_9) rfl ?_
    refine own_icmpNo X275.here hx (hb hby d45_10) (tlt g1).2.1 ?_
    refine own_iloadN X275.here hx (hb hby d45_13) rfl ?_
    refine X275.ldcInt hx hown (mvT hZ (own_w hw 259 rfl)) (g := (mkF m 14 #[.val (.int p1), .val (.int p2), .val (.int p3), .val (.int (p1 + (own_max p2 p3)))] [(.int (p1 + (own_max p2 p3)))])) rfl (hb hby d45_14) _ ?_
    show Steps p.tables e below (T275.setTop (mkF m 16 #[.val (.int p1), .val (.int p2), .val (.int p3), .val (.int (p1 + (own_max p2 p3)))] [(.int 2147483639), (.int (p1 + (own_max p2 p3)))])) _
    refine own_icmpNo X275.here hx (hb hby d45_16) (flt g2).2.2.1 ?_
    refine own_iloadN X275.here hx (hb hby d45_19) rfl ?_
    exact retI X275 hx Bd.returns (hb hby d45_20) hr
  · show QNL Z p1 p2 p3 h0 n0 _ T275.heap _
    rw [e275]
    exact ⟨rfl, N275, rfl⟩
theorem ef_rmNC (m : MethodId) (x0 : Addr) (x1 : Int32) : entryFrame m #[(.ref x0), (.int x1)] 6 = mkF m 0 #[.val (.ref x0), .val (.int x1), .unset, .unset, .unset, .unset] [] := by first | (simp [entryFrame, mkF, argsToLocals, Value.category]; done) | rfl
def QNC (Z : State) (a1 : Addr) (p1 : Int32) (d1 : Addr) (z : Int32) (c1 : Int32) (h0 : Heap) (n0 : Nat) (v : Option Value) (h : Heap) (L : List Loc) : Prop := v = some (.int (own_nc z p1)) ∧ Fr n0 L ∧ h = h0
theorem d44_0 : decode jdk_68_method_10_code 0 = .ok (.aload_n 0, 1) := by decide +kernel
theorem d44_1 : decode jdk_68_method_10_code 1 = .ok (.getfield 15, 3) := by decide +kernel
theorem d44_4 : decode jdk_68_method_10_code 4 = .ok (.arraylength, 1) := by decide +kernel
theorem d44_5 : decode jdk_68_method_10_code 5 = .ok (.istore_n 2, 1) := by decide +kernel
theorem d44_6 : decode jdk_68_method_10_code 6 = .ok (.iload_n 1, 1) := by decide +kernel
theorem d44_7 : decode jdk_68_method_10_code 7 = .ok (.aload_n 0, 1) := by decide +kernel
theorem d44_8 : decode jdk_68_method_10_code 8 = .ok (.getfield 22, 3) := by decide +kernel
theorem d44_11 : decode jdk_68_method_10_code 11 = .ok (.ishl, 1) := by decide +kernel
theorem d44_12 : decode jdk_68_method_10_code 12 = .ok (.istore_n 3, 1) := by decide +kernel
theorem d44_13 : decode jdk_68_method_10_code 13 = .ok (.iload_n 3, 1) := by decide +kernel
theorem d44_14 : decode jdk_68_method_10_code 14 = .ok (.iload_n 2, 1) := by decide +kernel
theorem d44_15 : decode jdk_68_method_10_code 15 = .ok (.isub, 1) := by decide +kernel
theorem d44_16 : decode jdk_68_method_10_code 16 = .ok (.istore 4, 2) := by decide +kernel
theorem d44_18 : decode jdk_68_method_10_code 18 = .ok (.iload_n 2, 1) := by decide +kernel
theorem d44_19 : decode jdk_68_method_10_code 19 = .ok (.iload 4, 2) := by decide +kernel
theorem d44_21 : decode jdk_68_method_10_code 21 = .ok (.iload_n 2, 1) := by decide +kernel
theorem d44_22 : decode jdk_68_method_10_code 22 = .ok (.iconst 2, 1) := by decide +kernel
theorem d44_23 : decode jdk_68_method_10_code 23 = .ok (.aload_n 0, 1) := by decide +kernel
theorem d44_24 : decode jdk_68_method_10_code 24 = .ok (.getfield 22, 3) := by decide +kernel
theorem d44_27 : decode jdk_68_method_10_code 27 = .ok (.ishl, 1) := by decide +kernel
theorem d44_28 : decode jdk_68_method_10_code 28 = .ok (.iadd, 1) := by decide +kernel
theorem d44_29 : decode jdk_68_method_10_code 29 = .ok (.invokestatic 114, 3) := by decide +kernel
theorem pd_28III29I : parseMethodDescriptor "(III)I" = some ⟨[.int, .int, .int], some .int⟩ := by decide +kernel
theorem d44_32 : decode jdk_68_method_10_code 32 = .ok (.istore 5, 2) := by decide +kernel
theorem d44_34 : decode jdk_68_method_10_code 34 = .ok (.iload 5, 2) := by decide +kernel
theorem d44_36 : decode jdk_68_method_10_code 36 = .ok (.ldc 39, 2) := by decide +kernel
theorem d44_38 : decode jdk_68_method_10_code 38 = .ok (.if_icmp .ne 13, 3) := by decide +kernel
theorem d44_51 : decode jdk_68_method_10_code 51 = .ok (.iload 5, 2) := by decide +kernel
theorem d44_53 : decode jdk_68_method_10_code 53 = .ok (.aload_n 0, 1) := by decide +kernel
theorem d44_54 : decode jdk_68_method_10_code 54 = .ok (.getfield 22, 3) := by decide +kernel
theorem d44_57 : decode jdk_68_method_10_code 57 = .ok (.ishr, 1) := by decide +kernel
theorem d44_58 : decode jdk_68_method_10_code 58 = .ok (.ireturn, 1) := by decide +kernel
set_option maxRecDepth 65536 in
set_option maxHeartbeats 40000000 in
theorem rmNC (l : Launch) (Z : State) (a0 : Array Value) (hw : ∀ d ∈ tables_1, d.before a0 Z = true) (ws : List Jvm.Cond) (a1 : Addr) (p1 : Int32) (d1 : Addr) (z : Int32) (c1 : Int32) (h0 : Heap) (n0 : Nat) (Z0 : n0 ≤ h0.size) (E_a1 : Exa Z h0 a1 "java/lang/StringBuilder") (g_a1 : n0 ≤ a1) (F_value : Fld Z h0 a1 "java/lang/AbstractStringBuilder" "value" "[B" (.ref d1)) (F_coder : Fld Z h0 a1 "java/lang/AbstractStringBuilder" "coder" "B" (.int 0)) (F_count : Fld Z h0 a1 "java/lang/AbstractStringBuilder" "count" "I" (.int c1)) (B_d1 : own_BA Z h0 d1 z) (g_d1 : n0 ≤ d1) (nD : a1 ≠ d1) (g1 : (0 : Int32) < own_nc z p1) (g2 : ¬ (2147483639 : Int32) < own_nc z p1) (g3 : ¬ own_nc z p1 = (2147483647 : Int32)) :
    MetFree l (⟨"java/lang/AbstractStringBuilder", "newCapacity", "(I)I"⟩ : MethodName) (head1 (Jvm.Cond.code (⟨"java/lang/AbstractStringBuilder", "newCapacity", "(I)I"⟩ : MethodName) jdk_68_method_10_code 6 (some .int) :: ws) ({ frames := 2, cells := 0, slots := 0, locals := 29 } : Room)) (fun a U => a = #[(.ref a1), (.int p1)] ∧ Z.Warmed39 U.vm ∧ U.heap = h0) (fun _ _ _ _ _ => True) (fun _ U o U' => ∃ v L, o = .returned v ∧ QNC Z a1 p1 d1 z c1 h0 n0 v U'.heap L ∧ FrameEnd U o U' L ({ frames := 2, cells := 0, slots := 0, locals := 29 } : Room).cells ({ frames := 2, cells := 0, slots := 0, locals := 29 } : Room).slots) := by
  refine MetFree.of_bodySF (plainFor_of_name pn_java_lang_AbstractStringBuilder) hisR ?_
  intro p e s m args below meth c s₁ Bd hml0 hP hK
  obtain ⟨rfl, hZ, hh⟩ := hP
  have hx := Bd.exec
  have hby := Bd.bytes
  have hml : c.maxLocals = 6 := hml0
  have hown : s.vm.findClass "java/lang/AbstractStringBuilder" = some m.cls := findClass_of_methodNamed Bd.named
  have hnm := (name_of_methodNamed Bd.named Bd.method).1
  have X0 : Stand p l e ({ frames := 2, cells := 0, slots := 0, locals := 29 } : Room) s m #[(.ref a1), (.int p1)] below meth c s₁ [] 0 0 := Stand.of_body Bd
  have e0 : s₁.heap = h0 := by rw [← hh, Bd.state]; rfl
  have N0 := Fr.nil n0
  have pre0 : ∀ tG, Steps p.tables e below (s₁.setTop (mkF m 0 #[.val (.ref a1), .val (.int p1), .unset, .unset, .unset, .unset] [])) tG → Steps p.tables e below (s₁.setTop (entryFrame m #[(.ref a1), (.int p1)] 6)) tG := fun tG kG => castTop (ef_rmNC m a1 p1) kG
  obtain ⟨T276, X276, e276, st276⟩ := getF X0 hx hZ hown (host := "") (Or.inl (own_w hw 128 rfl)) Via.refl e0 F_value (g := (mkF m 1 #[.val (.ref a1), .val (.int p1), .unset, .unset, .unset, .unset] [(.ref a1)])) rfl rfl (hb hby d44_1)
  obtain ⟨kk277, vs277, ⟨cl277, Ar277, -, S277, M277, -, -⟩, -⟩ := id B_d1.2
  obtain ⟨T278, X278, e278, st278⟩ := getF X276 hx hZ hown (host := "") (Or.inl (own_w hw 130 rfl)) Via.refl e276 F_coder (g := (mkF m 8 #[.val (.ref a1), .val (.int p1), .val (.int z), .unset, .unset, .unset] [(.ref a1), (.int p1)])) rfl rfl (hb hby d44_8)
  obtain ⟨T279, X279, e279, st279⟩ := getF X278 hx hZ hown (host := "") (Or.inl (own_w hw 130 rfl)) Via.refl e278 F_coder (g := (mkF m 24 #[.val (.ref a1), .val (.int p1), .val (.int z), .val (.int p1), .val (.int (p1 - z)), .unset] [(.ref a1), (.int 2), (.int z), (.int (p1 - z)), (.int z)])) rfl rfl (hb hby d44_24)
  obtain ⟨_, _, ⟨T280, L280, k280, n280⟩, -, X280, ⟨Lc280, hQ280, l280, y280, z280⟩, st280⟩ := Jvm.LawKit.callS X279 hx (y := (⟨"jdk/internal/util/ArraysSupport", "newLength", "(III)I"⟩ : MethodName)) hown (mvT hZ (own_w hw 254 rfl)) (mvT hZ (own_w hw 255 rfl)) (mvT hZ (own_w hw 256 rfl)) (mvT hZ (own_w hw 257 rfl)) (by decide) (backOf (W := 0) (rmNL l Z a0 hw [] z (p1 - z) (z + (2 : Int32)) h0 n0 Z0 g1 g2) hZ (own_w hw 257 rfl) (own_w hw 256 rfl) (by decide) (by decide)) (g := (mkF m 29 #[.val (.ref a1), .val (.int p1), .val (.int z), .val (.int p1), .val (.int (p1 - z)), .unset] [(.int (z + (2 : Int32))), (.int (p1 - z)), (.int z)])) rfl (by rw [hml]; rfl) (argsL := [(.int z), (.int (p1 - z)), (.int (z + (2 : Int32)))]) (rest := []) (lenOf pd_28III29I rfl) rfl (by show 2 * 0 + _ ≤ _; exact Nat.le_of_eq rfl) (hb hby d44_29) (fun _ _ => ⟨rfl, e279, (by decide : 0 + 0 ≤ _), (by decide : 0 + 0 ≤ _)⟩)
  dsimp only [Pt.U, Pt.locs, Pt.cells, Pt.slots] at X280 l280 y280 z280 st280 hQ280
  subst l280 y280 z280
  obtain ⟨rfl, N280q, e280⟩ := hQ280
  have N280 := Fr.app N0 N280q
  obtain ⟨T281, X281, e281, st281⟩ := getF X280 hx hZ hown (host := "") (Or.inl (own_w hw 130 rfl)) Via.refl e280 F_coder (g := (mkF m 54 #[.val (.ref a1), .val (.int p1), .val (.int z), .val (.int p1), .val (.int (p1 - z)), .val (.int (own_nc z p1))] [(.ref a1), (.int (own_nc z p1))])) rfl rfl (hb hby d44_54)
  obtain ⟨fs, hr, hrun, hended, hW, hsame⟩ := X281.leave (v := some (.int (own_nc z p1))) (fun h => by rw [Bd.returns] at h; cases h)
  refine ⟨_, _, pre0 _ ?_, hrun, hended, _, _, rfl, ?_, ⟨_, rfl⟩, hW, hsame.mono (by decide) (by decide)⟩
  · refine own_aloadN X0.here hx (hb hby d44_0) rfl rfl ?_
    refine st276 _ ?_
    show Steps p.tables e below (T276.setTop (mkF m 4 #[.val (.ref a1), .val (.int p1), .unset, .unset, .unset, .unset] [(.ref d1)])) _
    refine X276.arraylength hx (by rw [e276]; exact Ar277.1) (State.isArrayOf_alike hZ.alike Ar277.2.1) (g := (mkF m 4 #[.val (.ref a1), .val (.int p1), .unset, .unset, .unset, .unset] [(.ref d1)])) rfl rfl (hb hby d44_4) _ ?_
    rw [len_of S277 M277]
    show Steps p.tables e below (T276.setTop (mkF m 5 #[.val (.ref a1), .val (.int p1), .unset, .unset, .unset, .unset] [(.int z)])) _
    refine own_istoreN X276.here hx (hb hby d44_5) (l' := #[.val (.ref a1), .val (.int p1), .val (.int z), .unset, .unset, .unset]) rfl ?_
    refine own_iloadN X276.here hx (hb hby d44_6) rfl ?_
    refine own_aloadN X276.here hx (hb hby d44_7) rfl rfl ?_
    refine st278 _ ?_
    show Steps p.tables e below (T278.setTop (mkF m 11 #[.val (.ref a1), .val (.int p1), .val (.int z), .unset, .unset, .unset] [(.int 0), (.int p1)])) _
    refine own_ishl X278.here hx (hb hby d44_11) ?_
    show Steps p.tables e below (T278.setTop (mkF m 12 #[.val (.ref a1), .val (.int p1), .val (.int z), .unset, .unset, .unset] [(.int (p1 <<< ((0 : Int32) &&& 31)))])) _
    rw [own_shl0]
    show Steps p.tables e below (T278.setTop (mkF m 12 #[.val (.ref a1), .val (.int p1), .val (.int z), .unset, .unset, .unset] [(.int p1)])) _
    refine own_istoreN X278.here hx (hb hby d44_12) (l' := #[.val (.ref a1), .val (.int p1), .val (.int z), .val (.int p1), .unset, .unset]) rfl ?_
    refine own_iloadN X278.here hx (hb hby d44_13) rfl ?_
    refine own_iloadN X278.here hx (hb hby d44_14) rfl ?_
    refine own_isub X278.here hx (hb hby d44_15) ?_
    refine own_istore X278.here hx (hb hby d44_16) (l' := #[.val (.ref a1), .val (.int p1), .val (.int z), .val (.int p1), .val (.int (p1 - z)), .unset]) rfl ?_
    refine own_iloadN X278.here hx (hb hby d44_18) rfl ?_
    refine own_iload X278.here hx (hb hby d44_19) rfl ?_
    refine own_iloadN X278.here hx (hb hby d44_21) rfl ?_
    refine own_iconst X278.here hx (2 : Int32) (hb hby d44_22) rfl ?_
    refine own_aloadN X278.here hx (hb hby d44_23) rfl rfl ?_
    refine st279 _ ?_
    show Steps p.tables e below (T279.setTop (mkF m 27 #[.val (.ref a1), .val (.int p1), .val (.int z), .val (.int p1), .val (.int (p1 - z)), .unset] [(.int 0), (.int 2), (.int z), (.int (p1 - z)), (.int z)])) _
    refine own_ishl X279.here hx (hb hby d44_27) ?_
    show Steps p.tables e below (T279.setTop (mkF m 28 #[.val (.ref a1), .val (.int p1), .val (.int z), .val (.int p1), .val (.int (p1 - z)), .unset] [(.int 2), (.int z), (.int (p1 - z)), (.int z)])) _
    refine own_iadd X279.here hx (hb hby d44_28) ?_
    refine st280 _ ?_
    show Steps p.tables e below (T280.setTop (mkF m 32 #[.val (.ref a1), .val (.int p1), .val (.int z), .val (.int p1), .val (.int (p1 - z)), .unset] [(.int (own_nc z p1))])) _
    refine own_istore X280.here hx (hb hby d44_32) (l' := #[.val (.ref a1), .val (.int p1), .val (.int z), .val (.int p1), .val (.int (p1 - z)), .val (.int (own_nc z p1))]) rfl ?_
    refine own_iload X280.here hx (hb hby d44_34) rfl ?_
    refine X280.ldcInt hx hown (mvT hZ (own_w hw 260 rfl)) (g := (mkF m 36 #[.val (.ref a1), .val (.int p1), .val (.int z), .val (.int p1), .val (.int (p1 - z)), .val (.int (own_nc z p1))] [(.int (own_nc z p1))])) rfl (hb hby d44_36) _ ?_
    show Steps p.tables e below (T280.setTop (mkF m 38 #[.val (.ref a1), .val (.int p1), .val (.int z), .val (.int p1), .val (.int (p1 - z)), .val (.int (own_nc z p1))] [(.int 2147483647), (.int (own_nc z p1))])) _
    refine own_icmpYes X280.here hx 38 51 rfl (hb hby d44_38) (feq g3).2 (by decide) (by decide) ?_
    refine own_iload X280.here hx (hb hby d44_51) rfl ?_
    refine own_aloadN X280.here hx (hb hby d44_53) rfl rfl ?_
    refine st281 _ ?_
    show Steps p.tables e below (T281.setTop (mkF m 57 #[.val (.ref a1), .val (.int p1), .val (.int z), .val (.int p1), .val (.int (p1 - z)), .val (.int (own_nc z p1))] [(.int 0), (.int (own_nc z p1))])) _
    refine own_ishr X281.here hx (hb hby d44_57) ?_
    show Steps p.tables e below (T281.setTop (mkF m 58 #[.val (.ref a1), .val (.int p1), .val (.int z), .val (.int p1), .val (.int (p1 - z)), .val (.int (own_nc z p1))] [(.int ((own_nc z p1) >>> ((0 : Int32) &&& 31)))])) _
    rw [own_shr0]
    show Steps p.tables e below (T281.setTop (mkF m 58 #[.val (.ref a1), .val (.int p1), .val (.int z), .val (.int p1), .val (.int (p1 - z)), .val (.int (own_nc z p1))] [(.int (own_nc z p1))])) _
    exact retI X281 hx Bd.returns (hb hby d44_58) hr
  · show QNC Z a1 p1 d1 z c1 h0 n0 _ T281.heap _
    rw [e281]
    exact ⟨rfl, N280, rfl⟩
theorem ef_rmEF (m : MethodId) (x0 : Addr) (x1 : Int32) : entryFrame m #[(.ref x0), (.int x1)] 3 = mkF m 0 #[.val (.ref x0), .val (.int x1), .unset] [] := by first | (simp [entryFrame, mkF, argsToLocals, Value.category]; done) | rfl
def QEF (Z : State) (a1 : Addr) (p1 : Int32) (d1 : Addr) (z : Int32) (c1 : Int32) (h0 : Heap) (n0 : Nat) (v : Option Value) (h : Heap) (L : List Loc) : Prop := v = none ∧ Fr n0 L ∧ h = h0
theorem d25_0 : decode jdk_68_method_9_code 0 = .ok (.aload_n 0, 1) := by decide +kernel
theorem d25_1 : decode jdk_68_method_9_code 1 = .ok (.getfield 15, 3) := by decide +kernel
theorem d25_4 : decode jdk_68_method_9_code 4 = .ok (.arraylength, 1) := by decide +kernel
theorem d25_5 : decode jdk_68_method_9_code 5 = .ok (.aload_n 0, 1) := by decide +kernel
theorem d25_6 : decode jdk_68_method_9_code 6 = .ok (.getfield 22, 3) := by decide +kernel
theorem d25_9 : decode jdk_68_method_9_code 9 = .ok (.ishr, 1) := by decide +kernel
theorem d25_10 : decode jdk_68_method_9_code 10 = .ok (.istore_n 2, 1) := by decide +kernel
theorem d25_11 : decode jdk_68_method_9_code 11 = .ok (.iload_n 1, 1) := by decide +kernel
theorem d25_12 : decode jdk_68_method_9_code 12 = .ok (.iload_n 2, 1) := by decide +kernel
theorem d25_13 : decode jdk_68_method_9_code 13 = .ok (.isub, 1) := by decide +kernel
theorem d25_14 : decode jdk_68_method_9_code 14 = .ok (.ifCond .le 24, 3) := by decide +kernel
theorem d25_38 : decode jdk_68_method_9_code 38 = .ok (.return_, 1) := by decide +kernel
set_option maxRecDepth 65536 in
set_option maxHeartbeats 40000000 in
theorem rmEF (l : Launch) (Z : State) (a0 : Array Value) (hw : ∀ d ∈ tables_1, d.before a0 Z = true) (ws : List Jvm.Cond) (a1 : Addr) (p1 : Int32) (d1 : Addr) (z : Int32) (c1 : Int32) (h0 : Heap) (n0 : Nat) (Z0 : n0 ≤ h0.size) (E_a1 : Exa Z h0 a1 "java/lang/StringBuilder") (g_a1 : n0 ≤ a1) (F_value : Fld Z h0 a1 "java/lang/AbstractStringBuilder" "value" "[B" (.ref d1)) (F_coder : Fld Z h0 a1 "java/lang/AbstractStringBuilder" "coder" "B" (.int 0)) (F_count : Fld Z h0 a1 "java/lang/AbstractStringBuilder" "count" "I" (.int c1)) (B_d1 : own_BA Z h0 d1 z) (g_d1 : n0 ≤ d1) (nD : a1 ≠ d1) (hE : ¬ (0 : Int32) < (p1 - z)) :
    MetFree l (⟨"java/lang/AbstractStringBuilder", "ensureCapacityInternal", "(I)V"⟩ : MethodName) (head1 (Jvm.Cond.code (⟨"java/lang/AbstractStringBuilder", "ensureCapacityInternal", "(I)V"⟩ : MethodName) jdk_68_method_9_code 3 none :: ws) ({ frames := 0, cells := 0, slots := 0, locals := 0 } : Room)) (fun a U => a = #[(.ref a1), (.int p1)] ∧ Z.Warmed39 U.vm ∧ U.heap = h0) (fun _ _ _ _ _ => True) (fun _ U o U' => ∃ v L, o = .returned v ∧ QEF Z a1 p1 d1 z c1 h0 n0 v U'.heap L ∧ FrameEnd U o U' L ({ frames := 0, cells := 0, slots := 0, locals := 0 } : Room).cells ({ frames := 0, cells := 0, slots := 0, locals := 0 } : Room).slots) := by
  refine MetFree.of_bodySF (plainFor_of_name pn_java_lang_AbstractStringBuilder) hisR ?_
  intro p e s m args below meth c s₁ Bd hml0 hP hK
  obtain ⟨rfl, hZ, hh⟩ := hP
  have hx := Bd.exec
  have hby := Bd.bytes
  have hml : c.maxLocals = 3 := hml0
  have hown : s.vm.findClass "java/lang/AbstractStringBuilder" = some m.cls := findClass_of_methodNamed Bd.named
  have hnm := (name_of_methodNamed Bd.named Bd.method).1
  have X0 : Stand p l e ({ frames := 0, cells := 0, slots := 0, locals := 0 } : Room) s m #[(.ref a1), (.int p1)] below meth c s₁ [] 0 0 := Stand.of_body Bd
  have e0 : s₁.heap = h0 := by rw [← hh, Bd.state]; rfl
  have N0 := Fr.nil n0
  have pre0 : ∀ tG, Steps p.tables e below (s₁.setTop (mkF m 0 #[.val (.ref a1), .val (.int p1), .unset] [])) tG → Steps p.tables e below (s₁.setTop (entryFrame m #[(.ref a1), (.int p1)] 3)) tG := fun tG kG => castTop (ef_rmEF m a1 p1) kG
  obtain ⟨T282, X282, e282, st282⟩ := getF X0 hx hZ hown (host := "") (Or.inl (own_w hw 128 rfl)) Via.refl e0 F_value (g := (mkF m 1 #[.val (.ref a1), .val (.int p1), .unset] [(.ref a1)])) rfl rfl (hb hby d25_1)
  obtain ⟨kk283, vs283, ⟨cl283, Ar283, -, S283, M283, -, -⟩, -⟩ := id B_d1.2
  obtain ⟨T284, X284, e284, st284⟩ := getF X282 hx hZ hown (host := "") (Or.inl (own_w hw 130 rfl)) Via.refl e282 F_coder (g := (mkF m 6 #[.val (.ref a1), .val (.int p1), .unset] [(.ref a1), (.int z)])) rfl rfl (hb hby d25_6)
  obtain ⟨fs, hr, hrun, hended, hW, hsame⟩ := X284.leave (v := none) (fun _ => rfl)
  refine ⟨_, _, pre0 _ ?_, hrun, hended, _, _, rfl, ?_, ⟨_, rfl⟩, hW, hsame.mono (by decide) (by decide)⟩
  · refine own_aloadN X0.here hx (hb hby d25_0) rfl rfl ?_
    refine st282 _ ?_
    show Steps p.tables e below (T282.setTop (mkF m 4 #[.val (.ref a1), .val (.int p1), .unset] [(.ref d1)])) _
    refine X282.arraylength hx (by rw [e282]; exact Ar283.1) (State.isArrayOf_alike hZ.alike Ar283.2.1) (g := (mkF m 4 #[.val (.ref a1), .val (.int p1), .unset] [(.ref d1)])) rfl rfl (hb hby d25_4) _ ?_
    rw [len_of S283 M283]
    show Steps p.tables e below (T282.setTop (mkF m 5 #[.val (.ref a1), .val (.int p1), .unset] [(.int z)])) _
    refine own_aloadN X282.here hx (hb hby d25_5) rfl rfl ?_
    refine st284 _ ?_
    show Steps p.tables e below (T284.setTop (mkF m 9 #[.val (.ref a1), .val (.int p1), .unset] [(.int 0), (.int z)])) _
    refine own_ishr X284.here hx (hb hby d25_9) ?_
    show Steps p.tables e below (T284.setTop (mkF m 10 #[.val (.ref a1), .val (.int p1), .unset] [(.int (z >>> ((0 : Int32) &&& 31)))])) _
    rw [own_shr0]
    show Steps p.tables e below (T284.setTop (mkF m 10 #[.val (.ref a1), .val (.int p1), .unset] [(.int z)])) _
    refine own_istoreN X284.here hx (hb hby d25_10) (l' := #[.val (.ref a1), .val (.int p1), .val (.int z)]) rfl ?_
    refine own_iloadN X284.here hx (hb hby d25_11) rfl ?_
    refine own_iloadN X284.here hx (hb hby d25_12) rfl ?_
    refine own_isub X284.here hx (hb hby d25_13) ?_
    refine own_ifYes X284.here hx 14 38 rfl (hb hby d25_14) ((if0 _ _).trans (flt hE).2.2.2) (by decide) (by decide) ?_
    exact X284.returnOut hx Bd.returns (hb hby d25_38) hr
  · show QEF Z a1 p1 d1 z c1 h0 n0 _ T284.heap _
    rw [e284]
    exact ⟨rfl, N0, rfl⟩
theorem ef_rmEG (m : MethodId) (x0 : Addr) (x1 : Int32) : entryFrame m #[(.ref x0), (.int x1)] 3 = mkF m 0 #[.val (.ref x0), .val (.int x1), .unset] [] := by first | (simp [entryFrame, mkF, argsToLocals, Value.category]; done) | rfl
def QEG (Z : State) (a1 : Addr) (p1 : Int32) (d1 : Addr) (z : Int32) (c1 : Int32) (h0 : Heap) (n0 : Nat) (v : Option Value) (h : Heap) (L : List Loc) : Prop := v = none ∧ Fr n0 L ∧ Keep h0 h [a1] ∧ ∃ d, h0.size ≤ d ∧ Exa Z h a1 "java/lang/StringBuilder" ∧ Fld Z h a1 "java/lang/AbstractStringBuilder" "value" "[B" (.ref d) ∧ Fld Z h a1 "java/lang/AbstractStringBuilder" "coder" "B" (.int 0) ∧ Fld Z h a1 "java/lang/AbstractStringBuilder" "count" "I" (.int c1) ∧ own_BA Z h d (own_nc z p1)
theorem d25_17 : decode jdk_68_method_9_code 17 = .ok (.aload_n 0, 1) := by decide +kernel
theorem d25_18 : decode jdk_68_method_9_code 18 = .ok (.aload_n 0, 1) := by decide +kernel
theorem d25_19 : decode jdk_68_method_9_code 19 = .ok (.getfield 15, 3) := by decide +kernel
theorem d25_22 : decode jdk_68_method_9_code 22 = .ok (.aload_n 0, 1) := by decide +kernel
theorem d25_23 : decode jdk_68_method_9_code 23 = .ok (.iload_n 1, 1) := by decide +kernel
theorem d25_24 : decode jdk_68_method_9_code 24 = .ok (.invokevirtual 104, 3) := by decide +kernel
theorem pd_28I29I : parseMethodDescriptor "(I)I" = some ⟨[.int], some .int⟩ := by decide +kernel
theorem d25_27 : decode jdk_68_method_9_code 27 = .ok (.aload_n 0, 1) := by decide +kernel
theorem d25_28 : decode jdk_68_method_9_code 28 = .ok (.getfield 22, 3) := by decide +kernel
theorem d25_31 : decode jdk_68_method_9_code 31 = .ok (.ishl, 1) := by decide +kernel
theorem d25_32 : decode jdk_68_method_9_code 32 = .ok (.invokestatic 108, 3) := by decide +kernel
theorem pd_285bBI295bB : parseMethodDescriptor "([BI)[B" = some ⟨[(.array .byte), .int], some (.array .byte)⟩ := by decide +kernel
theorem d25_35 : decode jdk_68_method_9_code 35 = .ok (.putfield 15, 3) := by decide +kernel
set_option maxRecDepth 65536 in
set_option maxHeartbeats 40000000 in
theorem rmEG (l : Launch) (Z : State) (a0 : Array Value) (hw : ∀ d ∈ tables_1, d.before a0 Z = true) (ws : List Jvm.Cond) (a1 : Addr) (p1 : Int32) (d1 : Addr) (z : Int32) (c1 : Int32) (h0 : Heap) (n0 : Nat) (Z0 : n0 ≤ h0.size) (E_a1 : Exa Z h0 a1 "java/lang/StringBuilder") (g_a1 : n0 ≤ a1) (F_value : Fld Z h0 a1 "java/lang/AbstractStringBuilder" "value" "[B" (.ref d1)) (F_coder : Fld Z h0 a1 "java/lang/AbstractStringBuilder" "coder" "B" (.int 0)) (F_count : Fld Z h0 a1 "java/lang/AbstractStringBuilder" "count" "I" (.int c1)) (B_d1 : own_BA Z h0 d1 z) (g_d1 : n0 ≤ d1) (nD : a1 ≠ d1) (hE : (0 : Int32) < (p1 - z)) (g1 : (0 : Int32) < own_nc z p1) (g2 : ¬ (2147483639 : Int32) < own_nc z p1) (g3 : ¬ own_nc z p1 = (2147483647 : Int32)) (hne : ¬ own_nc z p1 = z) (hq0 : ¬ own_nc z p1 < (0 : Int32)) (hq1 : (own_nc z p1).toNatClampNeg ≤ 70) :
    MetFree l (⟨"java/lang/AbstractStringBuilder", "ensureCapacityInternal", "(I)V"⟩ : MethodName) (head1 (Jvm.Cond.code (⟨"java/lang/AbstractStringBuilder", "ensureCapacityInternal", "(I)V"⟩ : MethodName) jdk_68_method_9_code 3 none :: ws) ({ frames := 3, cells := 1, slots := 70, locals := 48 } : Room)) (fun a U => a = #[(.ref a1), (.int p1)] ∧ Z.Warmed39 U.vm ∧ U.heap = h0) (fun _ _ _ _ _ => True) (fun _ U o U' => ∃ v L, o = .returned v ∧ QEG Z a1 p1 d1 z c1 h0 n0 v U'.heap L ∧ FrameEnd U o U' L ({ frames := 3, cells := 1, slots := 70, locals := 48 } : Room).cells ({ frames := 3, cells := 1, slots := 70, locals := 48 } : Room).slots) := by
  refine MetFree.of_bodySF (plainFor_of_name pn_java_lang_AbstractStringBuilder) hisR ?_
  intro p e s m args below meth c s₁ Bd hml0 hP hK
  obtain ⟨rfl, hZ, hh⟩ := hP
  have hx := Bd.exec
  have hby := Bd.bytes
  have hml : c.maxLocals = 3 := hml0
  have hown : s.vm.findClass "java/lang/AbstractStringBuilder" = some m.cls := findClass_of_methodNamed Bd.named
  have hnm := (name_of_methodNamed Bd.named Bd.method).1
  have X0 : Stand p l e ({ frames := 3, cells := 1, slots := 70, locals := 48 } : Room) s m #[(.ref a1), (.int p1)] below meth c s₁ [] 0 0 := Stand.of_body Bd
  have e0 : s₁.heap = h0 := by rw [← hh, Bd.state]; rfl
  have N0 := Fr.nil n0
  have pre0 : ∀ tG, Steps p.tables e below (s₁.setTop (mkF m 0 #[.val (.ref a1), .val (.int p1), .unset] [])) tG → Steps p.tables e below (s₁.setTop (entryFrame m #[(.ref a1), (.int p1)] 3)) tG := fun tG kG => castTop (ef_rmEG m a1 p1) kG
  obtain ⟨T285, X285, e285, st285⟩ := getF X0 hx hZ hown (host := "") (Or.inl (own_w hw 128 rfl)) Via.refl e0 F_value (g := (mkF m 1 #[.val (.ref a1), .val (.int p1), .unset] [(.ref a1)])) rfl rfl (hb hby d25_1)
  obtain ⟨kk286, vs286, ⟨cl286, Ar286, -, S286, M286, -, -⟩, -⟩ := id B_d1.2
  obtain ⟨T287, X287, e287, st287⟩ := getF X285 hx hZ hown (host := "") (Or.inl (own_w hw 130 rfl)) Via.refl e285 F_coder (g := (mkF m 6 #[.val (.ref a1), .val (.int p1), .unset] [(.ref a1), (.int z)])) rfl rfl (hb hby d25_6)
  obtain ⟨T288, X288, e288, st288⟩ := getF X287 hx hZ hown (host := "") (Or.inl (own_w hw 128 rfl)) Via.refl e287 F_value (g := (mkF m 19 #[.val (.ref a1), .val (.int p1), .val (.int z)] [(.ref a1), (.ref a1)])) rfl rfl (hb hby d25_19)
  obtain ⟨cq289, q289, q289'⟩ := E_a1.cell
  obtain ⟨_, _, ⟨T289, L289, k289, n289⟩, -, X289, ⟨Lc289, hQ289, l289, y289, z289⟩, st289⟩ := X288.privateBack hx (y := (⟨"java/lang/AbstractStringBuilder", "newCapacity", "(I)I"⟩ : MethodName)) hown (mvT hZ (own_w hw 249 rfl)) (mvT hZ (own_w hw 250 rfl)) (mvT hZ (own_selp (own_w hw 250 rfl) (own_w hw 251 rfl) (own_w hw 252 rfl) (by decide))) (Cond.privateMethod_at (mvP hZ (own_w hw 251 rfl) (args := #[]))) (mvT hZ (own_w hw 253 rfl)) (by decide) (backOf (W := 2) (rmNC l Z a0 hw [] a1 p1 d1 z c1 h0 n0 Z0 E_a1 g_a1 F_value F_coder F_count B_d1 g_d1 nD g1 g2 g3) hZ (own_w hw 253 rfl) (own_w hw 124 rfl) (by decide) (by decide)) (g := (mkF m 24 #[.val (.ref a1), .val (.int p1), .val (.int z)] [(.int p1), (.ref a1), (.ref d1), (.ref a1)])) rfl (by rw [hml]; rfl) (Steps.refl _) (a := a1) (by rw [e288]; exact q289) q289' (argsL := [(.int p1)]) (rest := [(.ref d1), (.ref a1)]) (lenOf pd_28I29I rfl) rfl (by show 2 * 0 + _ ≤ _; exact Nat.le_of_eq rfl) (hb hby d25_24) (fun _ _ => ⟨rfl, e288, (by decide : 0 + 0 ≤ _), (by decide : 0 + 0 ≤ _)⟩)
  dsimp only [Pt.U, Pt.locs, Pt.cells, Pt.slots] at X289 l289 y289 z289 st289 hQ289
  subst l289 y289 z289
  obtain ⟨rfl, N289q, e289⟩ := hQ289
  have N289 := Fr.app N0 N289q
  obtain ⟨T290, X290, e290, st290⟩ := getF X289 hx hZ hown (host := "") (Or.inl (own_w hw 130 rfl)) Via.refl e289 F_coder (g := (mkF m 28 #[.val (.ref a1), .val (.int p1), .val (.int z)] [(.ref a1), (.int (own_nc z p1)), (.ref d1), (.ref a1)])) rfl rfl (hb hby d25_28)
  obtain ⟨_, _, ⟨T291, L291, k291, n291⟩, -, X291, ⟨Lc291, hQ291, l291, y291, z291⟩, st291⟩ := Jvm.LawKit.callS X290 hx (y := (⟨"java/util/Arrays", "copyOf", "([BI)[B"⟩ : MethodName)) hown (mvT hZ (own_w hw 261 rfl)) (mvT hZ (own_w hw 262 rfl)) (mvT hZ (own_w hw 237 rfl)) (mvT hZ (own_w hw 263 rfl)) (by decide) (backOf (W := 1) (rmCP l Z a0 hw [] d1 (own_nc z p1) z h0 n0 Z0 B_d1.2 hne hq0 hq1) hZ (own_w hw 263 rfl) (own_w hw 237 rfl) (by decide) (by decide)) (g := (mkF m 32 #[.val (.ref a1), .val (.int p1), .val (.int z)] [(.int (own_nc z p1)), (.ref d1), (.ref a1)])) rfl (by rw [hml]; rfl) (argsL := [(.ref d1), (.int (own_nc z p1))]) (rest := [(.ref a1)]) (lenOf pd_285bBI295bB rfl) rfl (by show 2 * 0 + _ ≤ _; exact Nat.le_of_eq rfl) (hb hby d25_32) (fun _ _ => ⟨rfl, e290, (by decide : 0 + 1 ≤ _), (by decide : 0 + 70 ≤ _)⟩)
  dsimp only [Pt.U, Pt.locs, Pt.cells, Pt.slots] at X291 l291 y291 z291 st291 hQ291
  subst l291 y291 z291
  obtain ⟨c291, rfl, N291q, Kq291, lt291, BA291⟩ := hQ291
  have gg291_c291 : n0 ≤ c291 := Nat.le_trans Z0 lt291
  have sz291_c291 : h0.size ≤ c291 := Nat.le_trans (Keep.refl h0 [a1]).1 lt291
  have ne292 : a1 ≠ c291 := Nat.ne_of_lt (Nat.lt_of_lt_of_le E_a1.lt lt291)
  have ne293 : d1 ≠ c291 := Nat.ne_of_lt (Nat.lt_of_lt_of_le B_d1.lt lt291)
  have N291 := Fr.app N289 N291q
  have Z291 : n0 ≤ T291.heap.size := Nat.le_trans Z0 Kq291.1
  have K291 : Keep h0 T291.heap [a1] := (Keep.refl h0 [a1]).trans Kq291 all0
  have f294 : Exa Z T291.heap a1 "java/lang/StringBuilder" := E_a1.keep Kq291
  have f295 : Fld Z T291.heap a1 "java/lang/AbstractStringBuilder" "value" "[B" (.ref d1) := F_value.keep Kq291 nin0
  have f296 : Fld Z T291.heap a1 "java/lang/AbstractStringBuilder" "coder" "B" (.int 0) := F_coder.keep Kq291 nin0
  have f297 : Fld Z T291.heap a1 "java/lang/AbstractStringBuilder" "count" "I" (.int c1) := F_count.keep Kq291 nin0
  have f298 : own_BA Z T291.heap d1 z := B_d1.keep Kq291 nin0
  obtain ⟨T299, h299, X299, e299, W299, st299⟩ := putF X291 hx hZ hown (host := "") (Or.inl (own_w hw 128 rfl)) Via.refl rfl f295 f294 (Or.inl (own_w hw 129 rfl)) (own_w hw 115 rfl) (ty := (.array .byte)) (by decide) rfl rfl (g := (mkF m 35 #[.val (.ref a1), .val (.int p1), .val (.int z)] [(.ref c291), (.ref a1)])) rfl rfl (hb hby d25_35)
  have f300 : Exa Z h299 a1 "java/lang/StringBuilder" := f294.wr W299
  have f302 : Fld Z h299 a1 "java/lang/AbstractStringBuilder" "coder" "B" (.int 0) := f296.other W299 (Or.inr (slot_ne (Or.inl (own_w hw 131 rfl)) (Or.inl (own_w hw 129 rfl)) (by decide) (t := .byte) (t' := (.array .byte)) (by decide) (by decide)))
  have f303 : Fld Z h299 a1 "java/lang/AbstractStringBuilder" "count" "I" (.int c1) := f297.other W299 (Or.inr (slot_ne (Or.inl (own_w hw 153 rfl)) (Or.inl (own_w hw 129 rfl)) (by decide) (t := .int) (t' := (.array .byte)) (by decide) (by decide)))
  have f304 : own_BA Z h299 d1 z := f298.other W299 (Ne.symm nD)
  have f305 : own_BA Z h299 c291 (own_nc z p1) := BA291.other W299 (Ne.symm ne292)
  have f306 : Fld Z h299 a1 "java/lang/AbstractStringBuilder" "value" "[B" (.ref c291) := f295.same W299
  have N299 := Fr.snoc X299 N291 g_a1
  have Z299 : n0 ≤ h299.size := Nat.le_trans Z291 (Keep.of_wr W299).1
  have K299 : Keep h0 h299 [a1] := K291.wr W299 (Or.inl (List.mem_of_getElem? (i := 0) rfl))
  obtain ⟨fs, hr, hrun, hended, hW, hsame⟩ := X299.leave (v := none) (fun _ => rfl)
  refine ⟨_, _, pre0 _ ?_, hrun, hended, _, _, rfl, ?_, ⟨_, rfl⟩, hW, hsame.mono (by decide) (by decide)⟩
  · refine own_aloadN X0.here hx (hb hby d25_0) rfl rfl ?_
    refine st285 _ ?_
    show Steps p.tables e below (T285.setTop (mkF m 4 #[.val (.ref a1), .val (.int p1), .unset] [(.ref d1)])) _
    refine X285.arraylength hx (by rw [e285]; exact Ar286.1) (State.isArrayOf_alike hZ.alike Ar286.2.1) (g := (mkF m 4 #[.val (.ref a1), .val (.int p1), .unset] [(.ref d1)])) rfl rfl (hb hby d25_4) _ ?_
    rw [len_of S286 M286]
    show Steps p.tables e below (T285.setTop (mkF m 5 #[.val (.ref a1), .val (.int p1), .unset] [(.int z)])) _
    refine own_aloadN X285.here hx (hb hby d25_5) rfl rfl ?_
    refine st287 _ ?_
    show Steps p.tables e below (T287.setTop (mkF m 9 #[.val (.ref a1), .val (.int p1), .unset] [(.int 0), (.int z)])) _
    refine own_ishr X287.here hx (hb hby d25_9) ?_
    show Steps p.tables e below (T287.setTop (mkF m 10 #[.val (.ref a1), .val (.int p1), .unset] [(.int (z >>> ((0 : Int32) &&& 31)))])) _
    rw [own_shr0]
    show Steps p.tables e below (T287.setTop (mkF m 10 #[.val (.ref a1), .val (.int p1), .unset] [(.int z)])) _
    refine own_istoreN X287.here hx (hb hby d25_10) (l' := #[.val (.ref a1), .val (.int p1), .val (.int z)]) rfl ?_
    refine own_iloadN X287.here hx (hb hby d25_11) rfl ?_
    refine own_iloadN X287.here hx (hb hby d25_12) rfl ?_
    refine own_isub X287.here hx (hb hby d25_13) ?_
    refine own_ifNo X287.here hx (hb hby d25_14) ((if0 _ _).trans (tlt hE).2.2.2) ?_
    refine own_aloadN X287.here hx (hb hby d25_17) rfl rfl ?_
    refine own_aloadN X287.here hx (hb hby d25_18) rfl rfl ?_
    refine st288 _ ?_
    show Steps p.tables e below (T288.setTop (mkF m 22 #[.val (.ref a1), .val (.int p1), .val (.int z)] [(.ref d1), (.ref a1)])) _
    refine own_aloadN X288.here hx (hb hby d25_22) rfl rfl ?_
    refine own_iloadN X288.here hx (hb hby d25_23) rfl ?_
    refine st289.trans ?_
    show Steps p.tables e below (T289.setTop (mkF m 27 #[.val (.ref a1), .val (.int p1), .val (.int z)] [(.int (own_nc z p1)), (.ref d1), (.ref a1)])) _
    refine own_aloadN X289.here hx (hb hby d25_27) rfl rfl ?_
    refine st290 _ ?_
    show Steps p.tables e below (T290.setTop (mkF m 31 #[.val (.ref a1), .val (.int p1), .val (.int z)] [(.int 0), (.int (own_nc z p1)), (.ref d1), (.ref a1)])) _
    refine own_ishl X290.here hx (hb hby d25_31) ?_
    show Steps p.tables e below (T290.setTop (mkF m 32 #[.val (.ref a1), .val (.int p1), .val (.int z)] [(.int ((own_nc z p1) <<< ((0 : Int32) &&& 31))), (.ref d1), (.ref a1)])) _
    rw [own_shl0]
    show Steps p.tables e below (T290.setTop (mkF m 32 #[.val (.ref a1), .val (.int p1), .val (.int z)] [(.int (own_nc z p1)), (.ref d1), (.ref a1)])) _
    refine st291 _ ?_
    show Steps p.tables e below (T291.setTop (mkF m 35 #[.val (.ref a1), .val (.int p1), .val (.int z)] [(.ref c291), (.ref a1)])) _
    refine st299 _ ?_
    show Steps p.tables e below (T299.setTop (mkF m 38 #[.val (.ref a1), .val (.int p1), .val (.int z)] [])) _
    exact X299.returnOut hx Bd.returns (hb hby d25_38) hr
  · show QEG Z a1 p1 d1 z c1 h0 n0 _ T299.heap _
    rw [e299]
    exact ⟨rfl, N299, K299, c291, sz291_c291, f300, f306, f302, f303, f305⟩
theorem own_rsz {d d1 k n : Nat} (dj : d = d1 ∨ n ≤ d) (h1 : k ≤ d1) (h2 : k ≤ n) : k ≤ d := by omega
theorem own_rne {o d d1 n : Nat} (dj : d = d1 ∨ n ≤ d) (h1 : o ≠ d1) (h2 : o < n) : o ≠ d := by omega
theorem own_nn {c : Int32} (h : 0 ≤ c.toInt) : ¬ c < (0 : Int32) := by rw [own_ltI]; have k0 : (0 : Int32).toInt = 0 := rfl; omega
theorem own_p64 {a b : Int64} : a < b ↔ a.toInt < b.toInt := Int64.lt_iff_toInt_lt
/-- k signs are enough for x -/
def own_SS (x : Int64) (k : Int32) : Prop := (x.toInt < 0 ∧ 2 ≤ k.toInt ∧ k.toInt ≤ 20 ∧ -(10 ^ (k.toInt.toNat - 1) : Int) < x.toInt) ∨ (0 ≤ x.toInt ∧ 1 ≤ k.toInt ∧ k.toInt ≤ 19 ∧ x.toInt < (10 ^ k.toInt.toNat : Int))
theorem own_negI {x : Int64} (h : 0 ≤ x.toInt) : (-x).toInt = -x.toInt := by
  have h1 := c_lneg x
  have h2 := rng64 x
  have h3 := rng64 (-x)
  omega
theorem own_ssN {x p : Int64} {k : Int32} (h5 : lcmpW x 0 < 0) (h30 : 0 < lcmpW x p) (k1 : 2 ≤ k.toInt) (k2 : k.toInt ≤ 20) (e : p.toInt = -(10 ^ (k.toInt.toNat - 1) : Int)) : own_SS x k := by
  rw [lw_lt, own_p64] at h5
  rw [lw_gt, own_p64, e] at h30
  exact Or.inl ⟨h5, k1, k2, h30⟩
theorem own_ssNE {x : Int64} (h5 : lcmpW x 0 < 0) : own_SS x (20 : Int32) := by
  rw [lw_lt, own_p64] at h5
  have h2 := rng64 x
  have e : (10 ^ ((20 : Int32).toInt.toNat - 1) : Int) = 10000000000000000000 := by decide +kernel
  refine Or.inl ⟨h5, by decide, by decide, ?_⟩
  rw [e]; omega
theorem own_ssP {x p : Int64} {k : Int32} (h5 : ¬ lcmpW x 0 < 0) (h30 : 0 < lcmpW (-x) p) (k1 : 1 ≤ k.toInt) (k2 : k.toInt ≤ 19) (e : p.toInt = -(10 ^ k.toInt.toNat : Int)) : own_SS x k := by
  rw [lw_lt, own_p64] at h5
  have k0 : (0 : Int64).toInt = 0 := rfl
  have h0 : 0 ≤ x.toInt := by omega
  rw [lw_gt, own_p64, e, own_negI h0] at h30
  exact Or.inr ⟨h0, k1, k2, by omega⟩
theorem own_ssPE {x : Int64} (h5 : ¬ lcmpW x 0 < 0) : own_SS x (19 : Int32) := by
  rw [lw_lt, own_p64] at h5
  have k0 : (0 : Int64).toInt = 0 := rfl
  have h2 := rng64 x
  have e : (10 ^ ((19 : Int32).toInt.toNat) : Int) = 10000000000000000000 := by decide +kernel
  refine Or.inr ⟨by omega, by decide, by decide, ?_⟩
  rw [e]; omega
theorem ef_rmAP (m : MethodId) (x0 : Addr) (x1 : Addr) : entryFrame m #[(.ref x0), (.ref x1)] 3 = mkF m 0 #[.val (.ref x0), .val (.ref x1), .unset] [] := by first | (simp [entryFrame, mkF, argsToLocals, Value.category]; done) | rfl
def QAP (Z : State) (a1 : Addr) (a2 : Addr) (kc : Int32) (d1 : Addr) (d2 : Addr) (z : Int32) (c1 : Int32) (h0 : Heap) (n0 : Nat) (v : Option Value) (h : Heap) (L : List Loc) : Prop := v = some (.ref a1) ∧ Fr n0 L ∧ Keep h0 h [a1, d1] ∧ ∃ d, (d = d1 ∨ h0.size ≤ d) ∧ n0 ≤ d ∧ a1 ≠ d ∧ Exa Z h a1 "java/lang/StringBuilder" ∧ Fld Z h a1 "java/lang/AbstractStringBuilder" "value" "[B" (.ref d) ∧ Fld Z h a1 "java/lang/AbstractStringBuilder" "coder" "B" (.int 0) ∧ Fld Z h a1 "java/lang/AbstractStringBuilder" "count" "I" (.int (c1 + (1 : Int32))) ∧ own_BA Z h d (own_cap z (c1 + (1 : Int32)))
theorem d22_0 : decode jdk_68_method_22_code 0 = .ok (.aload_n 1, 1) := by decide +kernel
theorem d22_1 : decode jdk_68_method_22_code 1 = .ok (.ifnonnull 8, 3) := by decide +kernel
theorem d22_9 : decode jdk_68_method_22_code 9 = .ok (.aload_n 1, 1) := by decide +kernel
theorem d22_10 : decode jdk_68_method_22_code 10 = .ok (.invokevirtual 32, 3) := by decide +kernel
theorem d22_13 : decode jdk_68_method_22_code 13 = .ok (.istore_n 2, 1) := by decide +kernel
theorem d22_14 : decode jdk_68_method_22_code 14 = .ok (.aload_n 0, 1) := by decide +kernel
theorem d22_15 : decode jdk_68_method_22_code 15 = .ok (.aload_n 0, 1) := by decide +kernel
theorem d22_16 : decode jdk_68_method_22_code 16 = .ok (.getfield 79, 3) := by decide +kernel
theorem d22_19 : decode jdk_68_method_22_code 19 = .ok (.iload_n 2, 1) := by decide +kernel
theorem d22_20 : decode jdk_68_method_22_code 20 = .ok (.iadd, 1) := by decide +kernel
theorem d22_21 : decode jdk_68_method_22_code 21 = .ok (.invokevirtual 100, 3) := by decide +kernel
theorem d22_24 : decode jdk_68_method_22_code 24 = .ok (.aload_n 0, 1) := by decide +kernel
theorem d22_25 : decode jdk_68_method_22_code 25 = .ok (.aload_n 0, 1) := by decide +kernel
theorem d22_26 : decode jdk_68_method_22_code 26 = .ok (.getfield 79, 3) := by decide +kernel
theorem d22_29 : decode jdk_68_method_22_code 29 = .ok (.aload_n 1, 1) := by decide +kernel
theorem d22_30 : decode jdk_68_method_22_code 30 = .ok (.invokevirtual 208, 3) := by decide +kernel
theorem pd_28ILjava2flang2fString3b29V : parseMethodDescriptor "(ILjava/lang/String;)V" = some ⟨[.int, (.object "java/lang/String")], none⟩ := by decide +kernel
theorem d22_33 : decode jdk_68_method_22_code 33 = .ok (.aload_n 0, 1) := by decide +kernel
theorem d22_34 : decode jdk_68_method_22_code 34 = .ok (.dup, 1) := by decide +kernel
theorem d22_35 : decode jdk_68_method_22_code 35 = .ok (.getfield 79, 3) := by decide +kernel
theorem d22_38 : decode jdk_68_method_22_code 38 = .ok (.iload_n 2, 1) := by decide +kernel
theorem d22_39 : decode jdk_68_method_22_code 39 = .ok (.iadd, 1) := by decide +kernel
theorem d22_40 : decode jdk_68_method_22_code 40 = .ok (.putfield 79, 3) := by decide +kernel
theorem d22_43 : decode jdk_68_method_22_code 43 = .ok (.aload_n 0, 1) := by decide +kernel
theorem d22_44 : decode jdk_68_method_22_code 44 = .ok (.areturn, 1) := by decide +kernel
set_option maxRecDepth 65536 in
set_option maxHeartbeats 40000000 in
theorem rmAP (l : Launch) (Z : State) (a0 : Array Value) (hw : ∀ d ∈ tables_1, d.before a0 Z = true) (ws : List Jvm.Cond) (a1 : Addr) (a2 : Addr) (kc : Int32) (d1 : Addr) (d2 : Addr) (z : Int32) (c1 : Int32) (h0 : Heap) (n0 : Nat) (Z0 : n0 ≤ h0.size) (E_a1 : Exa Z h0 a1 "java/lang/StringBuilder") (g_a1 : n0 ≤ a1) (F_value : Fld Z h0 a1 "java/lang/AbstractStringBuilder" "value" "[B" (.ref d1)) (F_coder : Fld Z h0 a1 "java/lang/AbstractStringBuilder" "coder" "B" (.int 0)) (F_count : Fld Z h0 a1 "java/lang/AbstractStringBuilder" "count" "I" (.int c1)) (B_d1 : own_BA Z h0 d1 z) (g_d1 : n0 ≤ d1) (nD : a1 ≠ d1) (SC : Sta Z h0 "java/lang/String" "COMPACT_STRINGS" "Z" (.int kc)) (hkc : ¬ kc = (0 : Int32)) (ES : Exa Z h0 a2 "java/lang/String") (FC : Fld Z h0 a2 "java/lang/String" "coder" "B" (.int 0)) (FV : Fld Z h0 a2 "java/lang/String" "value" "[B" (.ref d2)) (BS : own_BV Z h0 d2 1) (hz16 : z.toInt = 16 ∨ z.toInt = 34) (hc0 : 0 ≤ c1.toInt) (hc1 : c1.toInt ≤ 23) (n21 : a2 ≠ a1) (n22 : d2 ≠ a1) :
    MetFree l (⟨"java/lang/AbstractStringBuilder", "append", "(Ljava/lang/String;)Ljava/lang/AbstractStringBuilder;"⟩ : MethodName) (head1 (Jvm.Cond.code (⟨"java/lang/AbstractStringBuilder", "append", "(Ljava/lang/String;)Ljava/lang/AbstractStringBuilder;"⟩ : MethodName) jdk_68_method_22_code 3 (some (.object "java/lang/AbstractStringBuilder")) :: ws) ({ frames := 4, cells := 1, slots := 70, locals := 62 } : Room)) (fun a U => a = #[(.ref a1), (.ref a2)] ∧ Z.Warmed39 U.vm ∧ U.heap = h0) (fun _ _ _ _ _ => True) (fun _ U o U' => ∃ v L, o = .returned v ∧ QAP Z a1 a2 kc d1 d2 z c1 h0 n0 v U'.heap L ∧ FrameEnd U o U' L ({ frames := 4, cells := 1, slots := 70, locals := 62 } : Room).cells ({ frames := 4, cells := 1, slots := 70, locals := 62 } : Room).slots) := by
  refine MetFree.of_bodySF (plainFor_of_name pn_java_lang_AbstractStringBuilder) hisR ?_
  intro p e s m args below meth c s₁ Bd hml0 hP hK
  obtain ⟨rfl, hZ, hh⟩ := hP
  have hx := Bd.exec
  have hby := Bd.bytes
  have hml : c.maxLocals = 3 := hml0
  have hown : s.vm.findClass "java/lang/AbstractStringBuilder" = some m.cls := findClass_of_methodNamed Bd.named
  have hnm := (name_of_methodNamed Bd.named Bd.method).1
  have X0 : Stand p l e ({ frames := 4, cells := 1, slots := 70, locals := 62 } : Room) s m #[(.ref a1), (.ref a2)] below meth c s₁ [] 0 0 := Stand.of_body Bd
  have e0 : s₁.heap = h0 := by rw [← hh, Bd.state]; rfl
  have N0 := Fr.nil n0
  have pre0 : ∀ tG, Steps p.tables e below (s₁.setTop (mkF m 0 #[.val (.ref a1), .val (.ref a2), .unset] [])) tG → Steps p.tables e below (s₁.setTop (entryFrame m #[(.ref a1), (.ref a2)] 3)) tG := fun tG kG => castTop (ef_rmAP m a1 a2) kG
  have hz : 16 ≤ z.toInt ∧ z.toInt ≤ 34 := by omega
  have hm : (c1 + (1 : Int32)).toInt = c1.toInt + 1 := own_plus1 hc0 (by omega)
  obtain ⟨cq307, kq307, q307a, q307b, q307c⟩ := isOf hZ e0 ES
  obtain ⟨_, _, ⟨T307, L307, k307, n307⟩, -, X307, ⟨Lc307, hQ307, l307, y307, z307⟩, st307⟩ := X0.virtualBack hx (y := (⟨"java/lang/String", "length", "()I"⟩ : MethodName)) (z := (⟨"java/lang/String", "length", "()I"⟩ : MethodName)) hown (mvT hZ (own_w hw 142 rfl)) (mvT hZ (own_w hw 143 rfl)) (notFace_of_selects (args := #[]) (mvT hZ (own_w hw 145 rfl))) (mvT hZ (own_w hw 145 rfl)) (mvT hZ (own_w hw 144 rfl)) (by decide) (backOf (W := 0) (rmLe l Z a0 hw [] a2 kc d2 h0 n0 Z0 SC hkc ES FC FV BS) hZ (own_w hw 146 rfl) (own_w hw 18 rfl) (by decide) (by decide)) q307a q307c (g := (mkF m 10 #[.val (.ref a1), .val (.ref a2), .unset] [(.ref a2)])) rfl (by rw [hml]; rfl) (Steps.refl _) (argsL := []) (rest := []) (lenOf pd_2829I rfl) rfl (by show 2 * 0 + _ ≤ _; exact Nat.le_of_eq rfl) (hb hby d22_10) (fun _ _ => ⟨rfl, e0, (by decide : 0 + 0 ≤ _), (by decide : 0 + 0 ≤ _)⟩)
  dsimp only [Pt.U, Pt.locs, Pt.cells, Pt.slots] at X307 l307 y307 z307 st307 hQ307
  subst l307 y307 z307
  obtain ⟨rfl, N307q, e307⟩ := hQ307
  have N307 := Fr.app N0 N307q
  obtain ⟨T308, X308, e308, st308⟩ := getF X307 hx hZ hown (host := "") (Or.inl (own_w hw 152 rfl)) Via.refl e307 F_count (g := (mkF m 16 #[.val (.ref a1), .val (.ref a2), .val (.int 1)] [(.ref a1), (.ref a1)])) rfl rfl (hb hby d22_16)
  have G309 : ∀ tG, Steps p.tables e below (T308.setTop (mkF m 21 #[.val (.ref a1), .val (.ref a2), .val (.int 1)] [(.int (c1 + (1 : Int32))), (.ref a1)])) tG → Steps p.tables e below (s₁.setTop (mkF m 0 #[.val (.ref a1), .val (.ref a2), .unset] [])) tG := by
    intro tG kG
    refine own_aloadN X0.here hx (hb hby d22_0) rfl rfl ?_
    refine own_ifnonnullYes X0.here hx 1 9 rfl (hb hby d22_1) (by decide) (by decide) ?_
    refine own_aloadN X0.here hx (hb hby d22_9) rfl rfl ?_
    refine st307.trans ?_
    show Steps p.tables e below (T307.setTop (mkF m 13 #[.val (.ref a1), .val (.ref a2), .unset] [(.int 1)])) _
    refine own_istoreN X307.here hx (hb hby d22_13) (l' := #[.val (.ref a1), .val (.ref a2), .val (.int 1)]) rfl ?_
    refine own_aloadN X307.here hx (hb hby d22_14) rfl rfl ?_
    refine own_aloadN X307.here hx (hb hby d22_15) rfl rfl ?_
    refine st308 _ ?_
    show Steps p.tables e below (T308.setTop (mkF m 19 #[.val (.ref a1), .val (.ref a2), .val (.int 1)] [(.int c1), (.ref a1)])) _
    refine own_iloadN X308.here hx (hb hby d22_19) rfl ?_
    refine own_iadd X308.here hx (hb hby d22_20) ?_
    exact kG
  rcases Decidable.em ((0 : Int32) < ((c1 + (1 : Int32)) - z)) with hE | hE
  · have gr := own_grows hz.1 hz.2 (by omega) (by omega) hE
    have hp0 : ¬ c1 < (0 : Int32) := own_nn hc0
    have hp1 : c1 < own_nc z (c1 + (1 : Int32)) := own_ltI.mpr (by have := gr.2.2.2.2.2.1; omega)
    obtain ⟨cq310, q310, q310'⟩ := E_a1.cell
    obtain ⟨_, _, ⟨T310, L310, k310, n310⟩, -, X310, ⟨Lc310, hQ310, l310, y310, z310⟩, st310⟩ := X308.privateBack hx (y := (⟨"java/lang/AbstractStringBuilder", "ensureCapacityInternal", "(I)V"⟩ : MethodName)) hown (mvT hZ (own_w hw 154 rfl)) (mvT hZ (own_w hw 155 rfl)) (mvT hZ (own_selp (own_w hw 155 rfl) (own_w hw 156 rfl) (own_w hw 157 rfl) (by decide))) (Cond.privateMethod_at (mvP hZ (own_w hw 156 rfl) (args := #[]))) (mvT hZ (own_w hw 158 rfl)) (by decide) (backOf (W := 0) (rmEG l Z a0 hw [] a1 (c1 + (1 : Int32)) d1 z c1 h0 n0 Z0 E_a1 g_a1 F_value F_coder F_count B_d1 g_d1 nD hE gr.1 gr.2.1 gr.2.2.2.2.2.2.2.2 gr.2.2.2.2.1 gr.2.2.2.1 gr.2.2.1) hZ (own_w hw 158 rfl) (own_w hw 124 rfl) (by decide) (by decide)) (g := (mkF m 21 #[.val (.ref a1), .val (.ref a2), .val (.int 1)] [(.int (c1 + (1 : Int32))), (.ref a1)])) rfl (by rw [hml]; rfl) (Steps.refl _) (a := a1) (by rw [e308]; exact q310) q310' (argsL := [(.int (c1 + (1 : Int32)))]) (rest := []) (lenOf pd_28I29V rfl) rfl (by show 2 * 0 + _ ≤ _; exact Nat.le_of_eq rfl) (hb hby d22_21) (fun _ _ => ⟨rfl, e308, (by decide : 0 + 1 ≤ _), (by decide : 0 + 70 ≤ _)⟩)
    dsimp only [Pt.U, Pt.locs, Pt.cells, Pt.slots] at X310 l310 y310 z310 st310 hQ310
    subst l310 y310 z310
    obtain ⟨rfl, N310q, Kq310, c310, lt310, E310x, F310_value, F310_coder, F310_count, BA310⟩ := hQ310
    have gg310_c310 : n0 ≤ c310 := Nat.le_trans Z0 lt310
    have sz310_c310 : h0.size ≤ c310 := Nat.le_trans (Keep.refl h0 [a1, d1]).1 lt310
    have ne311 : a1 ≠ c310 := Nat.ne_of_lt (Nat.lt_of_lt_of_le E_a1.lt lt310)
    have ne312 : d1 ≠ c310 := Nat.ne_of_lt (Nat.lt_of_lt_of_le B_d1.lt lt310)
    have ne313 : a2 ≠ c310 := Nat.ne_of_lt (Nat.lt_of_lt_of_le FC.lt lt310)
    have ne314 : d2 ≠ c310 := Nat.ne_of_lt (Nat.lt_of_lt_of_le BS.lt lt310)
    have N310 := Fr.app N307 N310q
    have Z310 : n0 ≤ T310.heap.size := Nat.le_trans Z0 Kq310.1
    have K310 : Keep h0 T310.heap [a1, d1] := (Keep.refl h0 [a1, d1]).trans Kq310 (allS (Or.inl (List.mem_of_getElem? (i := 0) rfl)) all0)
    have f315 : Sta Z T310.heap "java/lang/String" "COMPACT_STRINGS" "Z" (.int kc) := own_sta_keep SC Kq310 (nsS E_a1.nostat ns0)
    have f316 : Fld Z T310.heap a2 "java/lang/String" "coder" "B" (.int 0) := FC.keep Kq310 (ninS n21 nin0)
    have f317 : Exa Z T310.heap a2 "java/lang/String" := ES.keep Kq310
    have f318 : Fld Z T310.heap a2 "java/lang/String" "value" "[B" (.ref d2) := FV.keep Kq310 (ninS n21 nin0)
    have f319 : own_BV Z T310.heap d2 (1 : Int32) := BS.keep Kq310 (ninS n22 nin0)
    obtain ⟨T320, X320, e320, st320⟩ := getF X310 hx hZ hown (host := "") (Or.inl (own_w hw 152 rfl)) Via.refl rfl F310_count (g := (mkF m 26 #[.val (.ref a1), .val (.ref a2), .val (.int 1)] [(.ref a1), (.ref a1)])) rfl rfl (hb hby d22_26)
    obtain ⟨cq321, q321, q321'⟩ := E310x.cell
    obtain ⟨_, _, ⟨T321, L321, k321, n321⟩, -, X321, ⟨Lc321, hQ321, l321, y321, z321⟩, st321⟩ := X320.privateBack hx (y := (⟨"java/lang/AbstractStringBuilder", "putStringAt", "(ILjava/lang/String;)V"⟩ : MethodName)) hown (mvT hZ (own_w hw 159 rfl)) (mvT hZ (own_w hw 160 rfl)) (mvT hZ (own_selp (own_w hw 160 rfl) (own_w hw 161 rfl) (own_w hw 162 rfl) (by decide))) (Cond.privateMethod_at (mvP hZ (own_w hw 161 rfl) (args := #[]))) (mvT hZ (own_w hw 163 rfl)) (by decide) (backOf (W := 0) (rmPS l Z a0 hw [] a1 c1 a2 kc c310 d2 (own_nc z (c1 + (1 : Int32))) c1 T310.heap n0 Z310 E310x g_a1 F310_value F310_coder F310_count BA310 gg310_c310 ne311 f315 hkc f317 f316 f318 f319 hp0 hp1) hZ (own_w hw 163 rfl) (own_w hw 124 rfl) (by decide) (by decide)) (g := (mkF m 30 #[.val (.ref a1), .val (.ref a2), .val (.int 1)] [(.ref a2), (.int c1), (.ref a1)])) rfl (by rw [hml]; rfl) (Steps.refl _) (a := a1) (by rw [e320]; exact q321) q321' (argsL := [(.int c1), (.ref a2)]) (rest := []) (lenOf pd_28ILjava2flang2fString3b29V rfl) rfl (by show 2 * 0 + _ ≤ _; exact Nat.le_of_eq rfl) (hb hby d22_30) (fun _ _ => ⟨rfl, e320, (by decide : 1 + 0 ≤ _), (by decide : 70 + 0 ≤ _)⟩)
    dsimp only [Pt.U, Pt.locs, Pt.cells, Pt.slots] at X321 l321 y321 z321 st321 hQ321
    subst l321 y321 z321
    obtain ⟨rfl, N321q, Kq321, BA321⟩ := hQ321
    have N321 := Fr.app N310 N321q
    have Z321 : n0 ≤ T321.heap.size := Nat.le_trans Z310 Kq321.1
    have K321 : Keep h0 T321.heap [a1, d1] := K310.trans Kq321 (allS (Or.inr sz310_c310) all0)
    have f322 : Exa Z T321.heap a1 "java/lang/StringBuilder" := E310x.keep Kq321
    have f323 : Fld Z T321.heap a1 "java/lang/AbstractStringBuilder" "value" "[B" (.ref c310) := F310_value.keep Kq321 (ninS ne311 nin0)
    have f324 : Fld Z T321.heap a1 "java/lang/AbstractStringBuilder" "coder" "B" (.int 0) := F310_coder.keep Kq321 (ninS ne311 nin0)
    have f325 : Fld Z T321.heap a1 "java/lang/AbstractStringBuilder" "count" "I" (.int c1) := F310_count.keep Kq321 (ninS ne311 nin0)
    obtain ⟨T327, X327, e327, st327⟩ := getF X321 hx hZ hown (host := "") (Or.inl (own_w hw 152 rfl)) Via.refl rfl f325 (g := (mkF m 35 #[.val (.ref a1), .val (.ref a2), .val (.int 1)] [(.ref a1), (.ref a1)])) rfl rfl (hb hby d22_35)
    obtain ⟨T328, h328, X328, e328, W328, st328⟩ := putF X327 hx hZ hown (host := "") (Or.inl (own_w hw 152 rfl)) Via.refl e327 f325 f322 (Or.inl (own_w hw 153 rfl)) (own_w hw 115 rfl) (ty := .int) (by decide) rfl rfl (g := (mkF m 40 #[.val (.ref a1), .val (.ref a2), .val (.int 1)] [(.int (c1 + (1 : Int32))), (.ref a1)])) rfl rfl (hb hby d22_40)
    have f329 : Exa Z h328 a1 "java/lang/StringBuilder" := f322.wr W328
    have f330 : Fld Z h328 a1 "java/lang/AbstractStringBuilder" "value" "[B" (.ref c310) := f323.other W328 (Or.inr (slot_ne (Or.inl (own_w hw 129 rfl)) (Or.inl (own_w hw 153 rfl)) (by decide) (t := (.array .byte)) (t' := .int) (by decide) (by decide)))
    have f331 : Fld Z h328 a1 "java/lang/AbstractStringBuilder" "coder" "B" (.int 0) := f324.other W328 (Or.inr (slot_ne (Or.inl (own_w hw 131 rfl)) (Or.inl (own_w hw 153 rfl)) (by decide) (t := .byte) (t' := .int) (by decide) (by decide)))
    have f333 : own_BA Z h328 c310 (own_nc z (c1 + (1 : Int32))) := BA321.other W328 (Ne.symm ne311)
    have f334 : Fld Z h328 a1 "java/lang/AbstractStringBuilder" "count" "I" (.int (c1 + (1 : Int32))) := f325.same W328
    have N328 := Fr.snoc X328 N321 g_a1
    have Z328 : n0 ≤ h328.size := Nat.le_trans Z321 (Keep.of_wr W328).1
    have K328 : Keep h0 h328 [a1, d1] := K321.wr W328 (Or.inl (List.mem_of_getElem? (i := 0) rfl))
    obtain ⟨fs, hr, hrun, hended, hW, hsame⟩ := X328.leave (v := some (.ref a1)) (fun h => by rw [Bd.returns] at h; cases h)
    refine ⟨_, _, pre0 _ ?_, hrun, hended, _, _, rfl, ?_, ⟨_, rfl⟩, hW, hsame.mono (by decide) (by decide)⟩
    · refine G309 _ ?_
      refine st310.trans ?_
      show Steps p.tables e below (T310.setTop (mkF m 24 #[.val (.ref a1), .val (.ref a2), .val (.int 1)] [])) _
      refine own_aloadN X310.here hx (hb hby d22_24) rfl rfl ?_
      refine own_aloadN X310.here hx (hb hby d22_25) rfl rfl ?_
      refine st320 _ ?_
      show Steps p.tables e below (T320.setTop (mkF m 29 #[.val (.ref a1), .val (.ref a2), .val (.int 1)] [(.int c1), (.ref a1)])) _
      refine own_aloadN X320.here hx (hb hby d22_29) rfl rfl ?_
      refine st321.trans ?_
      show Steps p.tables e below (T321.setTop (mkF m 33 #[.val (.ref a1), .val (.ref a2), .val (.int 1)] [])) _
      refine own_aloadN X321.here hx (hb hby d22_33) rfl rfl ?_
      refine own_dup X321.here hx (hb hby d22_34) rfl ?_
      refine st327 _ ?_
      show Steps p.tables e below (T327.setTop (mkF m 38 #[.val (.ref a1), .val (.ref a2), .val (.int 1)] [(.int c1), (.ref a1)])) _
      refine own_iloadN X327.here hx (hb hby d22_38) rfl ?_
      refine own_iadd X327.here hx (hb hby d22_39) ?_
      refine st328 _ ?_
      show Steps p.tables e below (T328.setTop (mkF m 43 #[.val (.ref a1), .val (.ref a2), .val (.int 1)] [])) _
      refine own_aloadN X328.here hx (hb hby d22_43) rfl rfl ?_
      show Steps p.tables e below (T328.setTop (mkF m 44 #[.val (.ref a1), .val (.ref a2), .val (.int 1)] [(.ref a1)])) _
      jvm_step X328.here [X328.here.top, hx, (hb hby d22_44), X328.method', Bd.returns, Value.isRef, FieldType.isReference]
      first | (intro acts; rw [hr _ acts rfl rfl rfl]) | rw [hr _ _ rfl rfl rfl]
      exact Steps.refl _
    · show QAP Z a1 a2 kc d1 d2 z c1 h0 n0 _ T328.heap _
      rw [e328]
      exact ⟨rfl, N328, K328, c310, Or.inr sz310_c310, gg310_c310, ne311, f329, f330, f331, f334, (by rw [own_cap, if_pos hE]; exact f333)⟩
  · have fi := own_fitsI hz.1 (by omega) (by omega) (by omega) hE
    have hp0 : ¬ c1 < (0 : Int32) := own_nn hc0
    have hp1 : c1 < z := own_ltI.mpr (by omega)
    obtain ⟨cq335, q335, q335'⟩ := E_a1.cell
    obtain ⟨_, _, ⟨T335, L335, k335, n335⟩, -, X335, ⟨Lc335, hQ335, l335, y335, z335⟩, st335⟩ := X308.privateBack hx (y := (⟨"java/lang/AbstractStringBuilder", "ensureCapacityInternal", "(I)V"⟩ : MethodName)) hown (mvT hZ (own_w hw 154 rfl)) (mvT hZ (own_w hw 155 rfl)) (mvT hZ (own_selp (own_w hw 155 rfl) (own_w hw 156 rfl) (own_w hw 157 rfl) (by decide))) (Cond.privateMethod_at (mvP hZ (own_w hw 156 rfl) (args := #[]))) (mvT hZ (own_w hw 158 rfl)) (by decide) (backOf (W := 0) (rmEF l Z a0 hw [] a1 (c1 + (1 : Int32)) d1 z c1 h0 n0 Z0 E_a1 g_a1 F_value F_coder F_count B_d1 g_d1 nD hE) hZ (own_w hw 158 rfl) (own_w hw 124 rfl) (by decide) (by decide)) (g := (mkF m 21 #[.val (.ref a1), .val (.ref a2), .val (.int 1)] [(.int (c1 + (1 : Int32))), (.ref a1)])) rfl (by rw [hml]; rfl) (Steps.refl _) (a := a1) (by rw [e308]; exact q335) q335' (argsL := [(.int (c1 + (1 : Int32)))]) (rest := []) (lenOf pd_28I29V rfl) rfl (by show 2 * 0 + _ ≤ _; exact Nat.le_of_eq rfl) (hb hby d22_21) (fun _ _ => ⟨rfl, e308, (by decide : 0 + 0 ≤ _), (by decide : 0 + 0 ≤ _)⟩)
    dsimp only [Pt.U, Pt.locs, Pt.cells, Pt.slots] at X335 l335 y335 z335 st335 hQ335
    subst l335 y335 z335
    obtain ⟨rfl, N335q, e335⟩ := hQ335
    have N335 := Fr.app N307 N335q
    obtain ⟨T336, X336, e336, st336⟩ := getF X335 hx hZ hown (host := "") (Or.inl (own_w hw 152 rfl)) Via.refl e335 F_count (g := (mkF m 26 #[.val (.ref a1), .val (.ref a2), .val (.int 1)] [(.ref a1), (.ref a1)])) rfl rfl (hb hby d22_26)
    obtain ⟨cq337, q337, q337'⟩ := E_a1.cell
    obtain ⟨_, _, ⟨T337, L337, k337, n337⟩, -, X337, ⟨Lc337, hQ337, l337, y337, z337⟩, st337⟩ := X336.privateBack hx (y := (⟨"java/lang/AbstractStringBuilder", "putStringAt", "(ILjava/lang/String;)V"⟩ : MethodName)) hown (mvT hZ (own_w hw 159 rfl)) (mvT hZ (own_w hw 160 rfl)) (mvT hZ (own_selp (own_w hw 160 rfl) (own_w hw 161 rfl) (own_w hw 162 rfl) (by decide))) (Cond.privateMethod_at (mvP hZ (own_w hw 161 rfl) (args := #[]))) (mvT hZ (own_w hw 163 rfl)) (by decide) (backOf (W := 0) (rmPS l Z a0 hw [] a1 c1 a2 kc d1 d2 z c1 h0 n0 Z0 E_a1 g_a1 F_value F_coder F_count B_d1 g_d1 nD SC hkc ES FC FV BS hp0 hp1) hZ (own_w hw 163 rfl) (own_w hw 124 rfl) (by decide) (by decide)) (g := (mkF m 30 #[.val (.ref a1), .val (.ref a2), .val (.int 1)] [(.ref a2), (.int c1), (.ref a1)])) rfl (by rw [hml]; rfl) (Steps.refl _) (a := a1) (by rw [e336]; exact q337) q337' (argsL := [(.int c1), (.ref a2)]) (rest := []) (lenOf pd_28ILjava2flang2fString3b29V rfl) rfl (by show 2 * 0 + _ ≤ _; exact Nat.le_of_eq rfl) (hb hby d22_30) (fun _ _ => ⟨rfl, e336, (by decide : 0 + 0 ≤ _), (by decide : 0 + 0 ≤ _)⟩)
    dsimp only [Pt.U, Pt.locs, Pt.cells, Pt.slots] at X337 l337 y337 z337 st337 hQ337
    subst l337 y337 z337
    obtain ⟨rfl, N337q, Kq337, BA337⟩ := hQ337
    have N337 := Fr.app N335 N337q
    have Z337 : n0 ≤ T337.heap.size := Nat.le_trans Z0 Kq337.1
    have K337 : Keep h0 T337.heap [a1, d1] := (Keep.refl h0 [a1, d1]).trans Kq337 (allS (Or.inl (List.mem_of_getElem? (i := 1) rfl)) all0)
    have f338 : Exa Z T337.heap a1 "java/lang/StringBuilder" := E_a1.keep Kq337
    have f339 : Fld Z T337.heap a1 "java/lang/AbstractStringBuilder" "value" "[B" (.ref d1) := F_value.keep Kq337 (ninS nD nin0)
    have f340 : Fld Z T337.heap a1 "java/lang/AbstractStringBuilder" "coder" "B" (.int 0) := F_coder.keep Kq337 (ninS nD nin0)
    have f341 : Fld Z T337.heap a1 "java/lang/AbstractStringBuilder" "count" "I" (.int c1) := F_count.keep Kq337 (ninS nD nin0)
    obtain ⟨T343, X343, e343, st343⟩ := getF X337 hx hZ hown (host := "") (Or.inl (own_w hw 152 rfl)) Via.refl rfl f341 (g := (mkF m 35 #[.val (.ref a1), .val (.ref a2), .val (.int 1)] [(.ref a1), (.ref a1)])) rfl rfl (hb hby d22_35)
    obtain ⟨T344, h344, X344, e344, W344, st344⟩ := putF X343 hx hZ hown (host := "") (Or.inl (own_w hw 152 rfl)) Via.refl e343 f341 f338 (Or.inl (own_w hw 153 rfl)) (own_w hw 115 rfl) (ty := .int) (by decide) rfl rfl (g := (mkF m 40 #[.val (.ref a1), .val (.ref a2), .val (.int 1)] [(.int (c1 + (1 : Int32))), (.ref a1)])) rfl rfl (hb hby d22_40)
    have f345 : Exa Z h344 a1 "java/lang/StringBuilder" := f338.wr W344
    have f346 : Fld Z h344 a1 "java/lang/AbstractStringBuilder" "value" "[B" (.ref d1) := f339.other W344 (Or.inr (slot_ne (Or.inl (own_w hw 129 rfl)) (Or.inl (own_w hw 153 rfl)) (by decide) (t := (.array .byte)) (t' := .int) (by decide) (by decide)))
    have f347 : Fld Z h344 a1 "java/lang/AbstractStringBuilder" "coder" "B" (.int 0) := f340.other W344 (Or.inr (slot_ne (Or.inl (own_w hw 131 rfl)) (Or.inl (own_w hw 153 rfl)) (by decide) (t := .byte) (t' := .int) (by decide) (by decide)))
    have f349 : own_BA Z h344 d1 z := BA337.other W344 (Ne.symm nD)
    have f350 : Fld Z h344 a1 "java/lang/AbstractStringBuilder" "count" "I" (.int (c1 + (1 : Int32))) := f341.same W344
    have N344 := Fr.snoc X344 N337 g_a1
    have Z344 : n0 ≤ h344.size := Nat.le_trans Z337 (Keep.of_wr W344).1
    have K344 : Keep h0 h344 [a1, d1] := K337.wr W344 (Or.inl (List.mem_of_getElem? (i := 0) rfl))
    obtain ⟨fs, hr, hrun, hended, hW, hsame⟩ := X344.leave (v := some (.ref a1)) (fun h => by rw [Bd.returns] at h; cases h)
    refine ⟨_, _, pre0 _ ?_, hrun, hended, _, _, rfl, ?_, ⟨_, rfl⟩, hW, hsame.mono (by decide) (by decide)⟩
    · refine G309 _ ?_
      refine st335.trans ?_
      show Steps p.tables e below (T335.setTop (mkF m 24 #[.val (.ref a1), .val (.ref a2), .val (.int 1)] [])) _
      refine own_aloadN X335.here hx (hb hby d22_24) rfl rfl ?_
      refine own_aloadN X335.here hx (hb hby d22_25) rfl rfl ?_
      refine st336 _ ?_
      show Steps p.tables e below (T336.setTop (mkF m 29 #[.val (.ref a1), .val (.ref a2), .val (.int 1)] [(.int c1), (.ref a1)])) _
      refine own_aloadN X336.here hx (hb hby d22_29) rfl rfl ?_
      refine st337.trans ?_
      show Steps p.tables e below (T337.setTop (mkF m 33 #[.val (.ref a1), .val (.ref a2), .val (.int 1)] [])) _
      refine own_aloadN X337.here hx (hb hby d22_33) rfl rfl ?_
      refine own_dup X337.here hx (hb hby d22_34) rfl ?_
      refine st343 _ ?_
      show Steps p.tables e below (T343.setTop (mkF m 38 #[.val (.ref a1), .val (.ref a2), .val (.int 1)] [(.int c1), (.ref a1)])) _
      refine own_iloadN X343.here hx (hb hby d22_38) rfl ?_
      refine own_iadd X343.here hx (hb hby d22_39) ?_
      refine st344 _ ?_
      show Steps p.tables e below (T344.setTop (mkF m 43 #[.val (.ref a1), .val (.ref a2), .val (.int 1)] [])) _
      refine own_aloadN X344.here hx (hb hby d22_43) rfl rfl ?_
      show Steps p.tables e below (T344.setTop (mkF m 44 #[.val (.ref a1), .val (.ref a2), .val (.int 1)] [(.ref a1)])) _
      jvm_step X344.here [X344.here.top, hx, (hb hby d22_44), X344.method', Bd.returns, Value.isRef, FieldType.isReference]
      first | (intro acts; rw [hr _ acts rfl rfl rfl]) | rw [hr _ _ rfl rfl rfl]
      exact Steps.refl _
    · show QAP Z a1 a2 kc d1 d2 z c1 h0 n0 _ T344.heap _
      rw [e344]
      exact ⟨rfl, N344, K344, d1, Or.inl rfl, g_d1, nD, f345, f346, f347, f350, (by rw [own_cap, if_neg hE]; exact f349)⟩
theorem ef_rmSA (m : MethodId) (x0 : Addr) (x1 : Addr) : entryFrame m #[(.ref x0), (.ref x1)] 2 = mkF m 0 #[.val (.ref x0), .val (.ref x1)] [] := by first | (simp [entryFrame, mkF, argsToLocals, Value.category]; done) | rfl
def QSA (Z : State) (a1 : Addr) (a2 : Addr) (kc : Int32) (d1 : Addr) (d2 : Addr) (z : Int32) (c1 : Int32) (h0 : Heap) (n0 : Nat) (v : Option Value) (h : Heap) (L : List Loc) : Prop := v = some (.ref a1) ∧ Fr n0 L ∧ Keep h0 h [a1, d1] ∧ ∃ d, (d = d1 ∨ h0.size ≤ d) ∧ n0 ≤ d ∧ a1 ≠ d ∧ Exa Z h a1 "java/lang/StringBuilder" ∧ Fld Z h a1 "java/lang/AbstractStringBuilder" "value" "[B" (.ref d) ∧ Fld Z h a1 "java/lang/AbstractStringBuilder" "coder" "B" (.int 0) ∧ Fld Z h a1 "java/lang/AbstractStringBuilder" "count" "I" (.int (c1 + (1 : Int32))) ∧ own_BA Z h d (own_cap z (c1 + (1 : Int32)))
theorem d21_0 : decode jdk_67_method_7_code 0 = .ok (.aload_n 0, 1) := by decide +kernel
theorem d21_1 : decode jdk_67_method_7_code 1 = .ok (.aload_n 1, 1) := by decide +kernel
theorem d21_2 : decode jdk_67_method_7_code 2 = .ok (.invokespecial 29, 3) := by decide +kernel
theorem pd_28Ljava2flang2fString3b29Ljava2flang2fAbstractStringBuilder3b : parseMethodDescriptor "(Ljava/lang/String;)Ljava/lang/AbstractStringBuilder;" = some ⟨[(.object "java/lang/String")], some (.object "java/lang/AbstractStringBuilder")⟩ := by decide +kernel
theorem d21_5 : decode jdk_67_method_7_code 5 = .ok (.pop, 1) := by decide +kernel
theorem d21_6 : decode jdk_67_method_7_code 6 = .ok (.aload_n 0, 1) := by decide +kernel
theorem d21_7 : decode jdk_67_method_7_code 7 = .ok (.areturn, 1) := by decide +kernel
set_option maxRecDepth 65536 in
set_option maxHeartbeats 40000000 in
theorem rmSA (l : Launch) (Z : State) (a0 : Array Value) (hw : ∀ d ∈ tables_1, d.before a0 Z = true) (ws : List Jvm.Cond) (a1 : Addr) (a2 : Addr) (kc : Int32) (d1 : Addr) (d2 : Addr) (z : Int32) (c1 : Int32) (h0 : Heap) (n0 : Nat) (Z0 : n0 ≤ h0.size) (E_a1 : Exa Z h0 a1 "java/lang/StringBuilder") (g_a1 : n0 ≤ a1) (F_value : Fld Z h0 a1 "java/lang/AbstractStringBuilder" "value" "[B" (.ref d1)) (F_coder : Fld Z h0 a1 "java/lang/AbstractStringBuilder" "coder" "B" (.int 0)) (F_count : Fld Z h0 a1 "java/lang/AbstractStringBuilder" "count" "I" (.int c1)) (B_d1 : own_BA Z h0 d1 z) (g_d1 : n0 ≤ d1) (nD : a1 ≠ d1) (SC : Sta Z h0 "java/lang/String" "COMPACT_STRINGS" "Z" (.int kc)) (hkc : ¬ kc = (0 : Int32)) (ES : Exa Z h0 a2 "java/lang/String") (FC : Fld Z h0 a2 "java/lang/String" "coder" "B" (.int 0)) (FV : Fld Z h0 a2 "java/lang/String" "value" "[B" (.ref d2)) (BS : own_BV Z h0 d2 1) (hz16 : z.toInt = 16 ∨ z.toInt = 34) (hc0 : 0 ≤ c1.toInt) (hc1 : c1.toInt ≤ 23) (n21 : a2 ≠ a1) (n22 : d2 ≠ a1) :
    MetFree l (⟨"java/lang/StringBuilder", "append", "(Ljava/lang/String;)Ljava/lang/StringBuilder;"⟩ : MethodName) (head1 (Jvm.Cond.code (⟨"java/lang/StringBuilder", "append", "(Ljava/lang/String;)Ljava/lang/StringBuilder;"⟩ : MethodName) jdk_67_method_7_code 2 (some (.object "java/lang/StringBuilder")) :: ws) ({ frames := 5, cells := 1, slots := 70, locals := 76 } : Room)) (fun a U => a = #[(.ref a1), (.ref a2)] ∧ Z.Warmed39 U.vm ∧ U.heap = h0) (fun _ _ _ _ _ => True) (fun _ U o U' => ∃ v L, o = .returned v ∧ QSA Z a1 a2 kc d1 d2 z c1 h0 n0 v U'.heap L ∧ FrameEnd U o U' L ({ frames := 5, cells := 1, slots := 70, locals := 76 } : Room).cells ({ frames := 5, cells := 1, slots := 70, locals := 76 } : Room).slots) := by
  refine MetFree.of_bodySF (plainFor_of_name pn_java_lang_StringBuilder) hisR ?_
  intro p e s m args below meth c s₁ Bd hml0 hP hK
  obtain ⟨rfl, hZ, hh⟩ := hP
  have hx := Bd.exec
  have hby := Bd.bytes
  have hml : c.maxLocals = 2 := hml0
  have hown : s.vm.findClass "java/lang/StringBuilder" = some m.cls := findClass_of_methodNamed Bd.named
  have hnm := (name_of_methodNamed Bd.named Bd.method).1
  have X0 : Stand p l e ({ frames := 5, cells := 1, slots := 70, locals := 76 } : Room) s m #[(.ref a1), (.ref a2)] below meth c s₁ [] 0 0 := Stand.of_body Bd
  have e0 : s₁.heap = h0 := by rw [← hh, Bd.state]; rfl
  have N0 := Fr.nil n0
  have pre0 : ∀ tG, Steps p.tables e below (s₁.setTop (mkF m 0 #[.val (.ref a1), .val (.ref a2)] [])) tG → Steps p.tables e below (s₁.setTop (entryFrame m #[(.ref a1), (.ref a2)] 2)) tG := fun tG kG => castTop (ef_rmSA m a1 a2) kG
  obtain ⟨_, _, ⟨T351, L351, k351, n351⟩, -, X351, ⟨Lc351, hQ351, l351, y351, z351⟩, st351⟩ := superBack X0 hx hZ (y := (⟨"java/lang/AbstractStringBuilder", "append", "(Ljava/lang/String;)Ljava/lang/AbstractStringBuilder;"⟩ : MethodName)) hown (own_w hw 137 rfl) (own_same (own_w hw 138 rfl) (own_w hw 157 rfl) rfl (by decide)) (own_w hw 138 rfl) (own_w hw 139 rfl) (by decide) (backOf (W := 0) (rmAP l Z a0 hw [] a1 a2 kc d1 d2 z c1 h0 n0 Z0 E_a1 g_a1 F_value F_coder F_count B_d1 g_d1 nD SC hkc ES FC FV BS hz16 hc0 hc1 n21 n22) hZ (own_w hw 141 rfl) (own_w hw 124 rfl) (by decide) (by decide)) e0 (Ins.self E_a1) (g := (mkF m 2 #[.val (.ref a1), .val (.ref a2)] [(.ref a2), (.ref a1)])) rfl (by rw [hml]; rfl) (own_w hw 141 rfl) (argsL := [(.ref a2)]) (rest := []) (lenOf pd_28Ljava2flang2fString3b29Ljava2flang2fAbstractStringBuilder3b rfl) rfl (by show 2 * 0 + _ ≤ _; exact Nat.le_of_eq rfl) (hb hby d21_2) (fun _ _ => ⟨rfl, e0, (by decide : 0 + 1 ≤ _), (by decide : 0 + 70 ≤ _)⟩)
  dsimp only [Pt.U, Pt.locs, Pt.cells, Pt.slots] at X351 l351 y351 z351 st351 hQ351
  subst l351 y351 z351
  obtain ⟨rfl, N351q, Kq351, c351, dj351, gd351, nd351, E351x, F351_value, F351_coder, F351_count, BA351⟩ := hQ351
  have ne352 : a1 ≠ c351 := own_rne dj351 nD E_a1.lt
  have N351 := Fr.app N0 N351q
  have Z351 : n0 ≤ T351.heap.size := Nat.le_trans Z0 Kq351.1
  have K351 : Keep h0 T351.heap [a1, d1] := (Keep.refl h0 [a1, d1]).trans Kq351 (allS (Or.inl (List.mem_of_getElem? (i := 0) rfl)) (allS (Or.inl (List.mem_of_getElem? (i := 1) rfl)) all0))
  obtain ⟨fs, hr, hrun, hended, hW, hsame⟩ := X351.leave (v := some (.ref a1)) (fun h => by rw [Bd.returns] at h; cases h)
  refine ⟨_, _, pre0 _ ?_, hrun, hended, _, _, rfl, ?_, ⟨_, rfl⟩, hW, hsame.mono (by decide) (by decide)⟩
  · refine own_aloadN X0.here hx (hb hby d21_0) rfl rfl ?_
    refine own_aloadN X0.here hx (hb hby d21_1) rfl rfl ?_
    refine st351.trans ?_
    show Steps p.tables e below (T351.setTop (mkF m 5 #[.val (.ref a1), .val (.ref a2)] [(.ref a1)])) _
    refine own_pop X351.here hx (hb hby d21_5) rfl ?_
    refine own_aloadN X351.here hx (hb hby d21_6) rfl rfl ?_
    show Steps p.tables e below (T351.setTop (mkF m 7 #[.val (.ref a1), .val (.ref a2)] [(.ref a1)])) _
    jvm_step X351.here [X351.here.top, hx, (hb hby d21_7), X351.method', Bd.returns, Value.isRef, FieldType.isReference]
    first | (intro acts; rw [hr _ acts rfl rfl rfl]) | rw [hr _ _ rfl rfl rfl]
    exact Steps.refl _
  · show QSA Z a1 a2 kc d1 d2 z c1 h0 n0 _ T351.heap _
    exact ⟨rfl, N351, K351, c351, dj351, gd351, nd351, E351x, F351_value, F351_coder, F351_count, BA351⟩
theorem ef_rmSS (m : MethodId) (x0 : Int64) : entryFrame m #[(.long x0)] 6 = mkF m 0 #[.val (.long x0), .second, .unset, .unset, .unset, .unset] [] := by first | (simp [entryFrame, mkF, argsToLocals, Value.category]; done) | rfl
theorem pn_java_lang_Long : plainName "java/lang/Long" = true := by first | (simp [plainName, overriddenIn]; done) | decide +kernel
def QSS (Z : State) (p1 : Int64) (h0 : Heap) (n0 : Nat) (v : Option Value) (h : Heap) (L : List Loc) : Prop := ∃ k, v = some (.int k) ∧ Fr n0 L ∧ h = h0 ∧ own_SS p1 k
theorem d31_0 : decode jdk_35_method_15_code 0 = .ok (.iconst 1, 1) := by decide +kernel
theorem d31_1 : decode jdk_35_method_15_code 1 = .ok (.istore_n 2, 1) := by decide +kernel
theorem d31_2 : decode jdk_35_method_15_code 2 = .ok (.lload_n 0, 1) := by decide +kernel
theorem d31_3 : decode jdk_35_method_15_code 3 = .ok (.lconst 0, 1) := by decide +kernel
theorem d31_4 : decode jdk_35_method_15_code 4 = .ok (.lcmp, 1) := by decide +kernel
theorem d31_5 : decode jdk_35_method_15_code 5 = .ok (.ifCond .lt 8, 3) := by decide +kernel
theorem d31_13 : decode jdk_35_method_15_code 13 = .ok (.ldc2_w 140, 3) := by decide +kernel
theorem d31_16 : decode jdk_35_method_15_code 16 = .ok (.lstore_n 3, 1) := by decide +kernel
theorem d31_17 : decode jdk_35_method_15_code 17 = .ok (.iconst 1, 1) := by decide +kernel
theorem d31_18 : decode jdk_35_method_15_code 18 = .ok (.istore 5, 2) := by decide +kernel
theorem d31_20 : decode jdk_35_method_15_code 20 = .ok (.iload 5, 2) := by decide +kernel
theorem d31_22 : decode jdk_35_method_15_code 22 = .ok (.bipush 19, 2) := by decide +kernel
theorem d31_24 : decode jdk_35_method_15_code 24 = .ok (.if_icmp .ge 26, 3) := by decide +kernel
theorem d31_27 : decode jdk_35_method_15_code 27 = .ok (.lload_n 0, 1) := by decide +kernel
theorem d31_28 : decode jdk_35_method_15_code 28 = .ok (.lload_n 3, 1) := by decide +kernel
theorem d31_29 : decode jdk_35_method_15_code 29 = .ok (.lcmp, 1) := by decide +kernel
theorem d31_30 : decode jdk_35_method_15_code 30 = .ok (.ifCond .le 8, 3) := by decide +kernel
theorem d31_33 : decode jdk_35_method_15_code 33 = .ok (.iload 5, 2) := by decide +kernel
theorem d31_35 : decode jdk_35_method_15_code 35 = .ok (.iload_n 2, 1) := by decide +kernel
theorem d31_36 : decode jdk_35_method_15_code 36 = .ok (.iadd, 1) := by decide +kernel
theorem d31_37 : decode jdk_35_method_15_code 37 = .ok (.ireturn, 1) := by decide +kernel
theorem d31_38 : decode jdk_35_method_15_code 38 = .ok (.ldc2_w 53, 3) := by decide +kernel
theorem d31_41 : decode jdk_35_method_15_code 41 = .ok (.lload_n 3, 1) := by decide +kernel
theorem d31_42 : decode jdk_35_method_15_code 42 = .ok (.lmul, 1) := by decide +kernel
theorem d31_43 : decode jdk_35_method_15_code 43 = .ok (.lstore_n 3, 1) := by decide +kernel
theorem d31_44 : decode jdk_35_method_15_code 44 = .ok (.iinc 5 1, 3) := by decide +kernel
theorem d31_47 : decode jdk_35_method_15_code 47 = .ok (.goto (-27), 3) := by decide +kernel
theorem d31_50 : decode jdk_35_method_15_code 50 = .ok (.bipush 19, 2) := by decide +kernel
theorem d31_52 : decode jdk_35_method_15_code 52 = .ok (.iload_n 2, 1) := by decide +kernel
theorem d31_53 : decode jdk_35_method_15_code 53 = .ok (.iadd, 1) := by decide +kernel
theorem d31_54 : decode jdk_35_method_15_code 54 = .ok (.ireturn, 1) := by decide +kernel
theorem d31_8 : decode jdk_35_method_15_code 8 = .ok (.iconst 0, 1) := by decide +kernel
theorem d31_9 : decode jdk_35_method_15_code 9 = .ok (.istore_n 2, 1) := by decide +kernel
theorem d31_10 : decode jdk_35_method_15_code 10 = .ok (.lload_n 0, 1) := by decide +kernel
theorem d31_11 : decode jdk_35_method_15_code 11 = .ok (.lneg, 1) := by decide +kernel
theorem d31_12 : decode jdk_35_method_15_code 12 = .ok (.lstore_n 0, 1) := by decide +kernel
set_option maxRecDepth 65536 in
set_option maxHeartbeats 40000000 in
theorem rmSS (l : Launch) (Z : State) (a0 : Array Value) (hw : ∀ d ∈ tables_1, d.before a0 Z = true) (ws : List Jvm.Cond) (p1 : Int64) (h0 : Heap) (n0 : Nat) (Z0 : n0 ≤ h0.size) :
    MetFree l (⟨"java/lang/Long", "stringSize", "(J)I"⟩ : MethodName) (head1 (Jvm.Cond.code (⟨"java/lang/Long", "stringSize", "(J)I"⟩ : MethodName) jdk_35_method_15_code 6 (some .int) :: ws) ({ frames := 0, cells := 0, slots := 0, locals := 0 } : Room)) (fun a U => a = #[(.long p1)] ∧ Z.Warmed39 U.vm ∧ U.heap = h0) (fun _ _ _ _ _ => True) (fun _ U o U' => ∃ v L, o = .returned v ∧ QSS Z p1 h0 n0 v U'.heap L ∧ FrameEnd U o U' L ({ frames := 0, cells := 0, slots := 0, locals := 0 } : Room).cells ({ frames := 0, cells := 0, slots := 0, locals := 0 } : Room).slots) := by
  refine MetFree.of_bodySF (plainFor_of_name pn_java_lang_Long) hisR ?_
  intro p e s m args below meth c s₁ Bd hml0 hP hK
  obtain ⟨rfl, hZ, hh⟩ := hP
  have hx := Bd.exec
  have hby := Bd.bytes
  have hml : c.maxLocals = 6 := hml0
  have hown : s.vm.findClass "java/lang/Long" = some m.cls := findClass_of_methodNamed Bd.named
  have hnm := (name_of_methodNamed Bd.named Bd.method).1
  have X0 : Stand p l e ({ frames := 0, cells := 0, slots := 0, locals := 0 } : Room) s m #[(.long p1)] below meth c s₁ [] 0 0 := Stand.of_body Bd
  have e0 : s₁.heap = h0 := by rw [← hh, Bd.state]; rfl
  have N0 := Fr.nil n0
  have pre0 : ∀ tG, Steps p.tables e below (s₁.setTop (mkF m 0 #[.val (.long p1), .second, .unset, .unset, .unset, .unset] [])) tG → Steps p.tables e below (s₁.setTop (entryFrame m #[(.long p1)] 6)) tG := fun tG kG => castTop (ef_rmSS m p1) kG
  have G353 : ∀ tG, Steps p.tables e below (s₁.setTop (mkF m 5 #[.val (.long p1), .second, .val (.int 1), .unset, .unset, .unset] [(.int (lcmpW p1 (0 : Int64)))])) tG → Steps p.tables e below (s₁.setTop (mkF m 0 #[.val (.long p1), .second, .unset, .unset, .unset, .unset] [])) tG := by
    intro tG kG
    refine own_iconst X0.here hx (1 : Int32) (hb hby d31_0) rfl ?_
    refine own_istoreN X0.here hx (hb hby d31_1) (l' := #[.val (.long p1), .second, .val (.int 1), .unset, .unset, .unset]) rfl ?_
    refine own_lloadN X0.here hx (hb hby d31_2) rfl ?_
    refine own_lconst0 X0.here hx (hb hby d31_3) ?_
    refine own_lcmp X0.here hx (hb hby d31_4) ?_
    exact kG
  by_cases hc5 : (lcmpW p1 (0 : Int64)) < (0 : Int32)
  · have G354 : ∀ tG, Steps p.tables e below (s₁.setTop (mkF m 30 #[.val (.long p1), .second, .val (.int 1), .val (.long (-10)), .second, .val (.int 1)] [(.int (lcmpW p1 (-10 : Int64)))])) tG → Steps p.tables e below (s₁.setTop (mkF m 0 #[.val (.long p1), .second, .unset, .unset, .unset, .unset] [])) tG := by
      intro tG kG
      refine G353 _ ?_
      refine own_ifYes X0.here hx 5 13 rfl (hb hby d31_5) ((if0 _ _).trans (tlt hc5).1) (by decide) (by decide) ?_
      refine X0.ldc2Long hx hown (mvT hZ (own_w hw 195 rfl)) (g := (mkF m 13 #[.val (.long p1), .second, .val (.int 1), .unset, .unset, .unset] [])) rfl (hb hby d31_13) _ ?_
      show Steps p.tables e below (s₁.setTop (mkF m 16 #[.val (.long p1), .second, .val (.int 1), .unset, .unset, .unset] [(.long (-10))])) _
      refine own_lstoreN X0.here hx (hb hby d31_16) (l' := #[.val (.long p1), .second, .val (.int 1), .val (.long (-10)), .second, .unset]) rfl ?_
      refine own_iconst X0.here hx (1 : Int32) (hb hby d31_17) rfl ?_
      refine own_istore X0.here hx (hb hby d31_18) (l' := #[.val (.long p1), .second, .val (.int 1), .val (.long (-10)), .second, .val (.int 1)]) rfl ?_
      refine own_iload X0.here hx (hb hby d31_20) rfl ?_
      refine own_bipush X0.here hx (19 : Int32) (hb hby d31_22) rfl ?_
      refine own_icmpNo X0.here hx (hb hby d31_24) (tlt (by decide : (1 : Int32) < (19 : Int32))).2.1 ?_
      refine own_lloadN X0.here hx (hb hby d31_27) rfl ?_
      refine own_lloadN X0.here hx (hb hby d31_28) rfl ?_
      refine own_lcmp X0.here hx (hb hby d31_29) ?_
      exact kG
    by_cases hc30 : (0 : Int32) < (lcmpW p1 (-10 : Int64))
    · obtain ⟨fs, hr, hrun, hended, hW, hsame⟩ := X0.leave (v := some (.int 2)) (fun h => by rw [Bd.returns] at h; cases h)
      refine ⟨_, _, pre0 _ ?_, hrun, hended, _, _, rfl, ?_, ⟨_, rfl⟩, hW, hsame.mono (by decide) (by decide)⟩
      · refine G354 _ ?_
        refine own_ifNo X0.here hx (hb hby d31_30) ((if0 _ _).trans (tlt hc30).2.2.2) ?_
        refine own_iload X0.here hx (hb hby d31_33) rfl ?_
        refine own_iloadN X0.here hx (hb hby d31_35) rfl ?_
        refine own_iadd X0.here hx (hb hby d31_36) ?_
        show Steps p.tables e below (s₁.setTop (mkF m 37 #[.val (.long p1), .second, .val (.int 1), .val (.long (-10)), .second, .val (.int 1)] [(.int 2)])) _
        exact retI X0 hx Bd.returns (hb hby d31_37) hr
      · show QSS Z p1 h0 n0 _ s₁.heap _
        rw [e0]
        exact ⟨_, rfl, N0, rfl, (own_ssN (p := (-10 : Int64)) hc5 hc30 (by decide) (by decide) (by decide +kernel))⟩
    · have G355 : ∀ tG, Steps p.tables e below (s₁.setTop (mkF m 30 #[.val (.long p1), .second, .val (.int 1), .val (.long (-100)), .second, .val (.int 2)] [(.int (lcmpW p1 (-100 : Int64)))])) tG → Steps p.tables e below (s₁.setTop (mkF m 0 #[.val (.long p1), .second, .unset, .unset, .unset, .unset] [])) tG := by
        intro tG kG
        refine G354 _ ?_
        refine own_ifYes X0.here hx 30 38 rfl (hb hby d31_30) ((if0 _ _).trans (flt hc30).2.2.2) (by decide) (by decide) ?_
        refine X0.ldc2Long hx hown (mvT hZ (own_w hw 196 rfl)) (g := (mkF m 38 #[.val (.long p1), .second, .val (.int 1), .val (.long (-10)), .second, .val (.int 1)] [])) rfl (hb hby d31_38) _ ?_
        show Steps p.tables e below (s₁.setTop (mkF m 41 #[.val (.long p1), .second, .val (.int 1), .val (.long (-10)), .second, .val (.int 1)] [(.long 10)])) _
        refine own_lloadN X0.here hx (hb hby d31_41) rfl ?_
        refine own_lmul X0.here hx (hb hby d31_42) ?_
        show Steps p.tables e below (s₁.setTop (mkF m 43 #[.val (.long p1), .second, .val (.int 1), .val (.long (-10)), .second, .val (.int 1)] [(.long (-100))])) _
        refine own_lstoreN X0.here hx (hb hby d31_43) (l' := #[.val (.long p1), .second, .val (.int 1), .val (.long (-100)), .second, .val (.int 1)]) rfl ?_
        refine own_iinc X0.here hx (1 : Int32) (hb hby d31_44) rfl rfl (l' := #[.val (.long p1), .second, .val (.int 1), .val (.long (-100)), .second, .val (.int 2)]) rfl ?_
        refine own_goto X0.here hx 47 20 rfl (hb hby d31_47) (by decide) (by decide) ?_
        refine own_iload X0.here hx (hb hby d31_20) rfl ?_
        refine own_bipush X0.here hx (19 : Int32) (hb hby d31_22) rfl ?_
        refine own_icmpNo X0.here hx (hb hby d31_24) (tlt (by decide : (2 : Int32) < (19 : Int32))).2.1 ?_
        refine own_lloadN X0.here hx (hb hby d31_27) rfl ?_
        refine own_lloadN X0.here hx (hb hby d31_28) rfl ?_
        refine own_lcmp X0.here hx (hb hby d31_29) ?_
        exact kG
      by_cases hc30 : (0 : Int32) < (lcmpW p1 (-100 : Int64))
      · obtain ⟨fs, hr, hrun, hended, hW, hsame⟩ := X0.leave (v := some (.int 3)) (fun h => by rw [Bd.returns] at h; cases h)
        refine ⟨_, _, pre0 _ ?_, hrun, hended, _, _, rfl, ?_, ⟨_, rfl⟩, hW, hsame.mono (by decide) (by decide)⟩
        · refine G355 _ ?_
          refine own_ifNo X0.here hx (hb hby d31_30) ((if0 _ _).trans (tlt hc30).2.2.2) ?_
          refine own_iload X0.here hx (hb hby d31_33) rfl ?_
          refine own_iloadN X0.here hx (hb hby d31_35) rfl ?_
          refine own_iadd X0.here hx (hb hby d31_36) ?_
          show Steps p.tables e below (s₁.setTop (mkF m 37 #[.val (.long p1), .second, .val (.int 1), .val (.long (-100)), .second, .val (.int 2)] [(.int 3)])) _
          exact retI X0 hx Bd.returns (hb hby d31_37) hr
        · show QSS Z p1 h0 n0 _ s₁.heap _
          rw [e0]
          exact ⟨_, rfl, N0, rfl, (own_ssN (p := (-100 : Int64)) hc5 hc30 (by decide) (by decide) (by decide +kernel))⟩
      · have G356 : ∀ tG, Steps p.tables e below (s₁.setTop (mkF m 30 #[.val (.long p1), .second, .val (.int 1), .val (.long (-1000)), .second, .val (.int 3)] [(.int (lcmpW p1 (-1000 : Int64)))])) tG → Steps p.tables e below (s₁.setTop (mkF m 0 #[.val (.long p1), .second, .unset, .unset, .unset, .unset] [])) tG := by
          intro tG kG
          refine G355 _ ?_
          refine own_ifYes X0.here hx 30 38 rfl (hb hby d31_30) ((if0 _ _).trans (flt hc30).2.2.2) (by decide) (by decide) ?_
          refine X0.ldc2Long hx hown (mvT hZ (own_w hw 196 rfl)) (g := (mkF m 38 #[.val (.long p1), .second, .val (.int 1), .val (.long (-100)), .second, .val (.int 2)] [])) rfl (hb hby d31_38) _ ?_
          show Steps p.tables e below (s₁.setTop (mkF m 41 #[.val (.long p1), .second, .val (.int 1), .val (.long (-100)), .second, .val (.int 2)] [(.long 10)])) _
          refine own_lloadN X0.here hx (hb hby d31_41) rfl ?_
          refine own_lmul X0.here hx (hb hby d31_42) ?_
          show Steps p.tables e below (s₁.setTop (mkF m 43 #[.val (.long p1), .second, .val (.int 1), .val (.long (-100)), .second, .val (.int 2)] [(.long (-1000))])) _
          refine own_lstoreN X0.here hx (hb hby d31_43) (l' := #[.val (.long p1), .second, .val (.int 1), .val (.long (-1000)), .second, .val (.int 2)]) rfl ?_
          refine own_iinc X0.here hx (1 : Int32) (hb hby d31_44) rfl rfl (l' := #[.val (.long p1), .second, .val (.int 1), .val (.long (-1000)), .second, .val (.int 3)]) rfl ?_
          refine own_goto X0.here hx 47 20 rfl (hb hby d31_47) (by decide) (by decide) ?_
          refine own_iload X0.here hx (hb hby d31_20) rfl ?_
          refine own_bipush X0.here hx (19 : Int32) (hb hby d31_22) rfl ?_
          refine own_icmpNo X0.here hx (hb hby d31_24) (tlt (by decide : (3 : Int32) < (19 : Int32))).2.1 ?_
          refine own_lloadN X0.here hx (hb hby d31_27) rfl ?_
          refine own_lloadN X0.here hx (hb hby d31_28) rfl ?_
          refine own_lcmp X0.here hx (hb hby d31_29) ?_
          exact kG
        by_cases hc30 : (0 : Int32) < (lcmpW p1 (-1000 : Int64))
        · obtain ⟨fs, hr, hrun, hended, hW, hsame⟩ := X0.leave (v := some (.int 4)) (fun h => by rw [Bd.returns] at h; cases h)
          refine ⟨_, _, pre0 _ ?_, hrun, hended, _, _, rfl, ?_, ⟨_, rfl⟩, hW, hsame.mono (by decide) (by decide)⟩
          · refine G356 _ ?_
            refine own_ifNo X0.here hx (hb hby d31_30) ((if0 _ _).trans (tlt hc30).2.2.2) ?_
            refine own_iload X0.here hx (hb hby d31_33) rfl ?_
            refine own_iloadN X0.here hx (hb hby d31_35) rfl ?_
            refine own_iadd X0.here hx (hb hby d31_36) ?_
            show Steps p.tables e below (s₁.setTop (mkF m 37 #[.val (.long p1), .second, .val (.int 1), .val (.long (-1000)), .second, .val (.int 3)] [(.int 4)])) _
            exact retI X0 hx Bd.returns (hb hby d31_37) hr
          · show QSS Z p1 h0 n0 _ s₁.heap _
            rw [e0]
            exact ⟨_, rfl, N0, rfl, (own_ssN (p := (-1000 : Int64)) hc5 hc30 (by decide) (by decide) (by decide +kernel))⟩
        · have G357 : ∀ tG, Steps p.tables e below (s₁.setTop (mkF m 30 #[.val (.long p1), .second, .val (.int 1), .val (.long (-10000)), .second, .val (.int 4)] [(.int (lcmpW p1 (-10000 : Int64)))])) tG → Steps p.tables e below (s₁.setTop (mkF m 0 #[.val (.long p1), .second, .unset, .unset, .unset, .unset] [])) tG := by
            intro tG kG
            refine G356 _ ?_
            refine own_ifYes X0.here hx 30 38 rfl (hb hby d31_30) ((if0 _ _).trans (flt hc30).2.2.2) (by decide) (by decide) ?_
            refine X0.ldc2Long hx hown (mvT hZ (own_w hw 196 rfl)) (g := (mkF m 38 #[.val (.long p1), .second, .val (.int 1), .val (.long (-1000)), .second, .val (.int 3)] [])) rfl (hb hby d31_38) _ ?_
            show Steps p.tables e below (s₁.setTop (mkF m 41 #[.val (.long p1), .second, .val (.int 1), .val (.long (-1000)), .second, .val (.int 3)] [(.long 10)])) _
            refine own_lloadN X0.here hx (hb hby d31_41) rfl ?_
            refine own_lmul X0.here hx (hb hby d31_42) ?_
            show Steps p.tables e below (s₁.setTop (mkF m 43 #[.val (.long p1), .second, .val (.int 1), .val (.long (-1000)), .second, .val (.int 3)] [(.long (-10000))])) _
            refine own_lstoreN X0.here hx (hb hby d31_43) (l' := #[.val (.long p1), .second, .val (.int 1), .val (.long (-10000)), .second, .val (.int 3)]) rfl ?_
            refine own_iinc X0.here hx (1 : Int32) (hb hby d31_44) rfl rfl (l' := #[.val (.long p1), .second, .val (.int 1), .val (.long (-10000)), .second, .val (.int 4)]) rfl ?_
            refine own_goto X0.here hx 47 20 rfl (hb hby d31_47) (by decide) (by decide) ?_
            refine own_iload X0.here hx (hb hby d31_20) rfl ?_
            refine own_bipush X0.here hx (19 : Int32) (hb hby d31_22) rfl ?_
            refine own_icmpNo X0.here hx (hb hby d31_24) (tlt (by decide : (4 : Int32) < (19 : Int32))).2.1 ?_
            refine own_lloadN X0.here hx (hb hby d31_27) rfl ?_
            refine own_lloadN X0.here hx (hb hby d31_28) rfl ?_
            refine own_lcmp X0.here hx (hb hby d31_29) ?_
            exact kG
          by_cases hc30 : (0 : Int32) < (lcmpW p1 (-10000 : Int64))
          · obtain ⟨fs, hr, hrun, hended, hW, hsame⟩ := X0.leave (v := some (.int 5)) (fun h => by rw [Bd.returns] at h; cases h)
            refine ⟨_, _, pre0 _ ?_, hrun, hended, _, _, rfl, ?_, ⟨_, rfl⟩, hW, hsame.mono (by decide) (by decide)⟩
            · refine G357 _ ?_
              refine own_ifNo X0.here hx (hb hby d31_30) ((if0 _ _).trans (tlt hc30).2.2.2) ?_
              refine own_iload X0.here hx (hb hby d31_33) rfl ?_
              refine own_iloadN X0.here hx (hb hby d31_35) rfl ?_
              refine own_iadd X0.here hx (hb hby d31_36) ?_
              show Steps p.tables e below (s₁.setTop (mkF m 37 #[.val (.long p1), .second, .val (.int 1), .val (.long (-10000)), .second, .val (.int 4)] [(.int 5)])) _
              exact retI X0 hx Bd.returns (hb hby d31_37) hr
            · show QSS Z p1 h0 n0 _ s₁.heap _
              rw [e0]
              exact ⟨_, rfl, N0, rfl, (own_ssN (p := (-10000 : Int64)) hc5 hc30 (by decide) (by decide) (by decide +kernel))⟩
          · have G358 : ∀ tG, Steps p.tables e below (s₁.setTop (mkF m 30 #[.val (.long p1), .second, .val (.int 1), .val (.long (-100000)), .second, .val (.int 5)] [(.int (lcmpW p1 (-100000 : Int64)))])) tG → Steps p.tables e below (s₁.setTop (mkF m 0 #[.val (.long p1), .second, .unset, .unset, .unset, .unset] [])) tG := by
              intro tG kG
              refine G357 _ ?_
              refine own_ifYes X0.here hx 30 38 rfl (hb hby d31_30) ((if0 _ _).trans (flt hc30).2.2.2) (by decide) (by decide) ?_
              refine X0.ldc2Long hx hown (mvT hZ (own_w hw 196 rfl)) (g := (mkF m 38 #[.val (.long p1), .second, .val (.int 1), .val (.long (-10000)), .second, .val (.int 4)] [])) rfl (hb hby d31_38) _ ?_
              show Steps p.tables e below (s₁.setTop (mkF m 41 #[.val (.long p1), .second, .val (.int 1), .val (.long (-10000)), .second, .val (.int 4)] [(.long 10)])) _
              refine own_lloadN X0.here hx (hb hby d31_41) rfl ?_
              refine own_lmul X0.here hx (hb hby d31_42) ?_
              show Steps p.tables e below (s₁.setTop (mkF m 43 #[.val (.long p1), .second, .val (.int 1), .val (.long (-10000)), .second, .val (.int 4)] [(.long (-100000))])) _
              refine own_lstoreN X0.here hx (hb hby d31_43) (l' := #[.val (.long p1), .second, .val (.int 1), .val (.long (-100000)), .second, .val (.int 4)]) rfl ?_
              refine own_iinc X0.here hx (1 : Int32) (hb hby d31_44) rfl rfl (l' := #[.val (.long p1), .second, .val (.int 1), .val (.long (-100000)), .second, .val (.int 5)]) rfl ?_
              refine own_goto X0.here hx 47 20 rfl (hb hby d31_47) (by decide) (by decide) ?_
              refine own_iload X0.here hx (hb hby d31_20) rfl ?_
              refine own_bipush X0.here hx (19 : Int32) (hb hby d31_22) rfl ?_
              refine own_icmpNo X0.here hx (hb hby d31_24) (tlt (by decide : (5 : Int32) < (19 : Int32))).2.1 ?_
              refine own_lloadN X0.here hx (hb hby d31_27) rfl ?_
              refine own_lloadN X0.here hx (hb hby d31_28) rfl ?_
              refine own_lcmp X0.here hx (hb hby d31_29) ?_
              exact kG
            by_cases hc30 : (0 : Int32) < (lcmpW p1 (-100000 : Int64))
            · obtain ⟨fs, hr, hrun, hended, hW, hsame⟩ := X0.leave (v := some (.int 6)) (fun h => by rw [Bd.returns] at h; cases h)
              refine ⟨_, _, pre0 _ ?_, hrun, hended, _, _, rfl, ?_, ⟨_, rfl⟩, hW, hsame.mono (by decide) (by decide)⟩
              · refine G358 _ ?_
                refine own_ifNo X0.here hx (hb hby d31_30) ((if0 _ _).trans (tlt hc30).2.2.2) ?_
                refine own_iload X0.here hx (hb hby d31_33) rfl ?_
                refine own_iloadN X0.here hx (hb hby d31_35) rfl ?_
                refine own_iadd X0.here hx (hb hby d31_36) ?_
                show Steps p.tables e below (s₁.setTop (mkF m 37 #[.val (.long p1), .second, .val (.int 1), .val (.long (-100000)), .second, .val (.int 5)] [(.int 6)])) _
                exact retI X0 hx Bd.returns (hb hby d31_37) hr
              · show QSS Z p1 h0 n0 _ s₁.heap _
                rw [e0]
                exact ⟨_, rfl, N0, rfl, (own_ssN (p := (-100000 : Int64)) hc5 hc30 (by decide) (by decide) (by decide +kernel))⟩
            · have G359 : ∀ tG, Steps p.tables e below (s₁.setTop (mkF m 30 #[.val (.long p1), .second, .val (.int 1), .val (.long (-1000000)), .second, .val (.int 6)] [(.int (lcmpW p1 (-1000000 : Int64)))])) tG → Steps p.tables e below (s₁.setTop (mkF m 0 #[.val (.long p1), .second, .unset, .unset, .unset, .unset] [])) tG := by
                intro tG kG
                refine G358 _ ?_
                refine own_ifYes X0.here hx 30 38 rfl (hb hby d31_30) ((if0 _ _).trans (flt hc30).2.2.2) (by decide) (by decide) ?_
                refine X0.ldc2Long hx hown (mvT hZ (own_w hw 196 rfl)) (g := (mkF m 38 #[.val (.long p1), .second, .val (.int 1), .val (.long (-100000)), .second, .val (.int 5)] [])) rfl (hb hby d31_38) _ ?_
                show Steps p.tables e below (s₁.setTop (mkF m 41 #[.val (.long p1), .second, .val (.int 1), .val (.long (-100000)), .second, .val (.int 5)] [(.long 10)])) _
                refine own_lloadN X0.here hx (hb hby d31_41) rfl ?_
                refine own_lmul X0.here hx (hb hby d31_42) ?_
                show Steps p.tables e below (s₁.setTop (mkF m 43 #[.val (.long p1), .second, .val (.int 1), .val (.long (-100000)), .second, .val (.int 5)] [(.long (-1000000))])) _
                refine own_lstoreN X0.here hx (hb hby d31_43) (l' := #[.val (.long p1), .second, .val (.int 1), .val (.long (-1000000)), .second, .val (.int 5)]) rfl ?_
                refine own_iinc X0.here hx (1 : Int32) (hb hby d31_44) rfl rfl (l' := #[.val (.long p1), .second, .val (.int 1), .val (.long (-1000000)), .second, .val (.int 6)]) rfl ?_
                refine own_goto X0.here hx 47 20 rfl (hb hby d31_47) (by decide) (by decide) ?_
                refine own_iload X0.here hx (hb hby d31_20) rfl ?_
                refine own_bipush X0.here hx (19 : Int32) (hb hby d31_22) rfl ?_
                refine own_icmpNo X0.here hx (hb hby d31_24) (tlt (by decide : (6 : Int32) < (19 : Int32))).2.1 ?_
                refine own_lloadN X0.here hx (hb hby d31_27) rfl ?_
                refine own_lloadN X0.here hx (hb hby d31_28) rfl ?_
                refine own_lcmp X0.here hx (hb hby d31_29) ?_
                exact kG
              by_cases hc30 : (0 : Int32) < (lcmpW p1 (-1000000 : Int64))
              · obtain ⟨fs, hr, hrun, hended, hW, hsame⟩ := X0.leave (v := some (.int 7)) (fun h => by rw [Bd.returns] at h; cases h)
                refine ⟨_, _, pre0 _ ?_, hrun, hended, _, _, rfl, ?_, ⟨_, rfl⟩, hW, hsame.mono (by decide) (by decide)⟩
                · refine G359 _ ?_
                  refine own_ifNo X0.here hx (hb hby d31_30) ((if0 _ _).trans (tlt hc30).2.2.2) ?_
                  refine own_iload X0.here hx (hb hby d31_33) rfl ?_
                  refine own_iloadN X0.here hx (hb hby d31_35) rfl ?_
                  refine own_iadd X0.here hx (hb hby d31_36) ?_
                  show Steps p.tables e below (s₁.setTop (mkF m 37 #[.val (.long p1), .second, .val (.int 1), .val (.long (-1000000)), .second, .val (.int 6)] [(.int 7)])) _
                  exact retI X0 hx Bd.returns (hb hby d31_37) hr
                · show QSS Z p1 h0 n0 _ s₁.heap _
                  rw [e0]
                  exact ⟨_, rfl, N0, rfl, (own_ssN (p := (-1000000 : Int64)) hc5 hc30 (by decide) (by decide) (by decide +kernel))⟩
              · have G360 : ∀ tG, Steps p.tables e below (s₁.setTop (mkF m 30 #[.val (.long p1), .second, .val (.int 1), .val (.long (-10000000)), .second, .val (.int 7)] [(.int (lcmpW p1 (-10000000 : Int64)))])) tG → Steps p.tables e below (s₁.setTop (mkF m 0 #[.val (.long p1), .second, .unset, .unset, .unset, .unset] [])) tG := by
                  intro tG kG
                  refine G359 _ ?_
                  refine own_ifYes X0.here hx 30 38 rfl (hb hby d31_30) ((if0 _ _).trans (flt hc30).2.2.2) (by decide) (by decide) ?_
                  refine X0.ldc2Long hx hown (mvT hZ (own_w hw 196 rfl)) (g := (mkF m 38 #[.val (.long p1), .second, .val (.int 1), .val (.long (-1000000)), .second, .val (.int 6)] [])) rfl (hb hby d31_38) _ ?_
                  show Steps p.tables e below (s₁.setTop (mkF m 41 #[.val (.long p1), .second, .val (.int 1), .val (.long (-1000000)), .second, .val (.int 6)] [(.long 10)])) _
                  refine own_lloadN X0.here hx (hb hby d31_41) rfl ?_
                  refine own_lmul X0.here hx (hb hby d31_42) ?_
                  show Steps p.tables e below (s₁.setTop (mkF m 43 #[.val (.long p1), .second, .val (.int 1), .val (.long (-1000000)), .second, .val (.int 6)] [(.long (-10000000))])) _
                  refine own_lstoreN X0.here hx (hb hby d31_43) (l' := #[.val (.long p1), .second, .val (.int 1), .val (.long (-10000000)), .second, .val (.int 6)]) rfl ?_
                  refine own_iinc X0.here hx (1 : Int32) (hb hby d31_44) rfl rfl (l' := #[.val (.long p1), .second, .val (.int 1), .val (.long (-10000000)), .second, .val (.int 7)]) rfl ?_
                  refine own_goto X0.here hx 47 20 rfl (hb hby d31_47) (by decide) (by decide) ?_
                  refine own_iload X0.here hx (hb hby d31_20) rfl ?_
                  refine own_bipush X0.here hx (19 : Int32) (hb hby d31_22) rfl ?_
                  refine own_icmpNo X0.here hx (hb hby d31_24) (tlt (by decide : (7 : Int32) < (19 : Int32))).2.1 ?_
                  refine own_lloadN X0.here hx (hb hby d31_27) rfl ?_
                  refine own_lloadN X0.here hx (hb hby d31_28) rfl ?_
                  refine own_lcmp X0.here hx (hb hby d31_29) ?_
                  exact kG
                by_cases hc30 : (0 : Int32) < (lcmpW p1 (-10000000 : Int64))
                · obtain ⟨fs, hr, hrun, hended, hW, hsame⟩ := X0.leave (v := some (.int 8)) (fun h => by rw [Bd.returns] at h; cases h)
                  refine ⟨_, _, pre0 _ ?_, hrun, hended, _, _, rfl, ?_, ⟨_, rfl⟩, hW, hsame.mono (by decide) (by decide)⟩
                  · refine G360 _ ?_
                    refine own_ifNo X0.here hx (hb hby d31_30) ((if0 _ _).trans (tlt hc30).2.2.2) ?_
                    refine own_iload X0.here hx (hb hby d31_33) rfl ?_
                    refine own_iloadN X0.here hx (hb hby d31_35) rfl ?_
                    refine own_iadd X0.here hx (hb hby d31_36) ?_
                    show Steps p.tables e below (s₁.setTop (mkF m 37 #[.val (.long p1), .second, .val (.int 1), .val (.long (-10000000)), .second, .val (.int 7)] [(.int 8)])) _
                    exact retI X0 hx Bd.returns (hb hby d31_37) hr
                  · show QSS Z p1 h0 n0 _ s₁.heap _
                    rw [e0]
                    exact ⟨_, rfl, N0, rfl, (own_ssN (p := (-10000000 : Int64)) hc5 hc30 (by decide) (by decide) (by decide +kernel))⟩
                · have G361 : ∀ tG, Steps p.tables e below (s₁.setTop (mkF m 30 #[.val (.long p1), .second, .val (.int 1), .val (.long (-100000000)), .second, .val (.int 8)] [(.int (lcmpW p1 (-100000000 : Int64)))])) tG → Steps p.tables e below (s₁.setTop (mkF m 0 #[.val (.long p1), .second, .unset, .unset, .unset, .unset] [])) tG := by
                    intro tG kG
                    refine G360 _ ?_
                    refine own_ifYes X0.here hx 30 38 rfl (hb hby d31_30) ((if0 _ _).trans (flt hc30).2.2.2) (by decide) (by decide) ?_
                    refine X0.ldc2Long hx hown (mvT hZ (own_w hw 196 rfl)) (g := (mkF m 38 #[.val (.long p1), .second, .val (.int 1), .val (.long (-10000000)), .second, .val (.int 7)] [])) rfl (hb hby d31_38) _ ?_
                    show Steps p.tables e below (s₁.setTop (mkF m 41 #[.val (.long p1), .second, .val (.int 1), .val (.long (-10000000)), .second, .val (.int 7)] [(.long 10)])) _
                    refine own_lloadN X0.here hx (hb hby d31_41) rfl ?_
                    refine own_lmul X0.here hx (hb hby d31_42) ?_
                    show Steps p.tables e below (s₁.setTop (mkF m 43 #[.val (.long p1), .second, .val (.int 1), .val (.long (-10000000)), .second, .val (.int 7)] [(.long (-100000000))])) _
                    refine own_lstoreN X0.here hx (hb hby d31_43) (l' := #[.val (.long p1), .second, .val (.int 1), .val (.long (-100000000)), .second, .val (.int 7)]) rfl ?_
                    refine own_iinc X0.here hx (1 : Int32) (hb hby d31_44) rfl rfl (l' := #[.val (.long p1), .second, .val (.int 1), .val (.long (-100000000)), .second, .val (.int 8)]) rfl ?_
                    refine own_goto X0.here hx 47 20 rfl (hb hby d31_47) (by decide) (by decide) ?_
                    refine own_iload X0.here hx (hb hby d31_20) rfl ?_
                    refine own_bipush X0.here hx (19 : Int32) (hb hby d31_22) rfl ?_
                    refine own_icmpNo X0.here hx (hb hby d31_24) (tlt (by decide : (8 : Int32) < (19 : Int32))).2.1 ?_
                    refine own_lloadN X0.here hx (hb hby d31_27) rfl ?_
                    refine own_lloadN X0.here hx (hb hby d31_28) rfl ?_
                    refine own_lcmp X0.here hx (hb hby d31_29) ?_
                    exact kG
                  by_cases hc30 : (0 : Int32) < (lcmpW p1 (-100000000 : Int64))
                  · obtain ⟨fs, hr, hrun, hended, hW, hsame⟩ := X0.leave (v := some (.int 9)) (fun h => by rw [Bd.returns] at h; cases h)
                    refine ⟨_, _, pre0 _ ?_, hrun, hended, _, _, rfl, ?_, ⟨_, rfl⟩, hW, hsame.mono (by decide) (by decide)⟩
                    · refine G361 _ ?_
                      refine own_ifNo X0.here hx (hb hby d31_30) ((if0 _ _).trans (tlt hc30).2.2.2) ?_
                      refine own_iload X0.here hx (hb hby d31_33) rfl ?_
                      refine own_iloadN X0.here hx (hb hby d31_35) rfl ?_
                      refine own_iadd X0.here hx (hb hby d31_36) ?_
                      show Steps p.tables e below (s₁.setTop (mkF m 37 #[.val (.long p1), .second, .val (.int 1), .val (.long (-100000000)), .second, .val (.int 8)] [(.int 9)])) _
                      exact retI X0 hx Bd.returns (hb hby d31_37) hr
                    · show QSS Z p1 h0 n0 _ s₁.heap _
                      rw [e0]
                      exact ⟨_, rfl, N0, rfl, (own_ssN (p := (-100000000 : Int64)) hc5 hc30 (by decide) (by decide) (by decide +kernel))⟩
                  · have G362 : ∀ tG, Steps p.tables e below (s₁.setTop (mkF m 30 #[.val (.long p1), .second, .val (.int 1), .val (.long (-1000000000)), .second, .val (.int 9)] [(.int (lcmpW p1 (-1000000000 : Int64)))])) tG → Steps p.tables e below (s₁.setTop (mkF m 0 #[.val (.long p1), .second, .unset, .unset, .unset, .unset] [])) tG := by
                      intro tG kG
                      refine G361 _ ?_
                      refine own_ifYes X0.here hx 30 38 rfl (hb hby d31_30) ((if0 _ _).trans (flt hc30).2.2.2) (by decide) (by decide) ?_
                      refine X0.ldc2Long hx hown (mvT hZ (own_w hw 196 rfl)) (g := (mkF m 38 #[.val (.long p1), .second, .val (.int 1), .val (.long (-100000000)), .second, .val (.int 8)] [])) rfl (hb hby d31_38) _ ?_
                      show Steps p.tables e below (s₁.setTop (mkF m 41 #[.val (.long p1), .second, .val (.int 1), .val (.long (-100000000)), .second, .val (.int 8)] [(.long 10)])) _
                      refine own_lloadN X0.here hx (hb hby d31_41) rfl ?_
                      refine own_lmul X0.here hx (hb hby d31_42) ?_
                      show Steps p.tables e below (s₁.setTop (mkF m 43 #[.val (.long p1), .second, .val (.int 1), .val (.long (-100000000)), .second, .val (.int 8)] [(.long (-1000000000))])) _
                      refine own_lstoreN X0.here hx (hb hby d31_43) (l' := #[.val (.long p1), .second, .val (.int 1), .val (.long (-1000000000)), .second, .val (.int 8)]) rfl ?_
                      refine own_iinc X0.here hx (1 : Int32) (hb hby d31_44) rfl rfl (l' := #[.val (.long p1), .second, .val (.int 1), .val (.long (-1000000000)), .second, .val (.int 9)]) rfl ?_
                      refine own_goto X0.here hx 47 20 rfl (hb hby d31_47) (by decide) (by decide) ?_
                      refine own_iload X0.here hx (hb hby d31_20) rfl ?_
                      refine own_bipush X0.here hx (19 : Int32) (hb hby d31_22) rfl ?_
                      refine own_icmpNo X0.here hx (hb hby d31_24) (tlt (by decide : (9 : Int32) < (19 : Int32))).2.1 ?_
                      refine own_lloadN X0.here hx (hb hby d31_27) rfl ?_
                      refine own_lloadN X0.here hx (hb hby d31_28) rfl ?_
                      refine own_lcmp X0.here hx (hb hby d31_29) ?_
                      exact kG
                    by_cases hc30 : (0 : Int32) < (lcmpW p1 (-1000000000 : Int64))
                    · obtain ⟨fs, hr, hrun, hended, hW, hsame⟩ := X0.leave (v := some (.int 10)) (fun h => by rw [Bd.returns] at h; cases h)
                      refine ⟨_, _, pre0 _ ?_, hrun, hended, _, _, rfl, ?_, ⟨_, rfl⟩, hW, hsame.mono (by decide) (by decide)⟩
                      · refine G362 _ ?_
                        refine own_ifNo X0.here hx (hb hby d31_30) ((if0 _ _).trans (tlt hc30).2.2.2) ?_
                        refine own_iload X0.here hx (hb hby d31_33) rfl ?_
                        refine own_iloadN X0.here hx (hb hby d31_35) rfl ?_
                        refine own_iadd X0.here hx (hb hby d31_36) ?_
                        show Steps p.tables e below (s₁.setTop (mkF m 37 #[.val (.long p1), .second, .val (.int 1), .val (.long (-1000000000)), .second, .val (.int 9)] [(.int 10)])) _
                        exact retI X0 hx Bd.returns (hb hby d31_37) hr
                      · show QSS Z p1 h0 n0 _ s₁.heap _
                        rw [e0]
                        exact ⟨_, rfl, N0, rfl, (own_ssN (p := (-1000000000 : Int64)) hc5 hc30 (by decide) (by decide) (by decide +kernel))⟩
                    · have G363 : ∀ tG, Steps p.tables e below (s₁.setTop (mkF m 30 #[.val (.long p1), .second, .val (.int 1), .val (.long (-10000000000)), .second, .val (.int 10)] [(.int (lcmpW p1 (-10000000000 : Int64)))])) tG → Steps p.tables e below (s₁.setTop (mkF m 0 #[.val (.long p1), .second, .unset, .unset, .unset, .unset] [])) tG := by
                        intro tG kG
                        refine G362 _ ?_
                        refine own_ifYes X0.here hx 30 38 rfl (hb hby d31_30) ((if0 _ _).trans (flt hc30).2.2.2) (by decide) (by decide) ?_
                        refine X0.ldc2Long hx hown (mvT hZ (own_w hw 196 rfl)) (g := (mkF m 38 #[.val (.long p1), .second, .val (.int 1), .val (.long (-1000000000)), .second, .val (.int 9)] [])) rfl (hb hby d31_38) _ ?_
                        show Steps p.tables e below (s₁.setTop (mkF m 41 #[.val (.long p1), .second, .val (.int 1), .val (.long (-1000000000)), .second, .val (.int 9)] [(.long 10)])) _
                        refine own_lloadN X0.here hx (hb hby d31_41) rfl ?_
                        refine own_lmul X0.here hx (hb hby d31_42) ?_
                        show Steps p.tables e below (s₁.setTop (mkF m 43 #[.val (.long p1), .second, .val (.int 1), .val (.long (-1000000000)), .second, .val (.int 9)] [(.long (-10000000000))])) _
                        refine own_lstoreN X0.here hx (hb hby d31_43) (l' := #[.val (.long p1), .second, .val (.int 1), .val (.long (-10000000000)), .second, .val (.int 9)]) rfl ?_
                        refine own_iinc X0.here hx (1 : Int32) (hb hby d31_44) rfl rfl (l' := #[.val (.long p1), .second, .val (.int 1), .val (.long (-10000000000)), .second, .val (.int 10)]) rfl ?_
                        refine own_goto X0.here hx 47 20 rfl (hb hby d31_47) (by decide) (by decide) ?_
                        refine own_iload X0.here hx (hb hby d31_20) rfl ?_
                        refine own_bipush X0.here hx (19 : Int32) (hb hby d31_22) rfl ?_
                        refine own_icmpNo X0.here hx (hb hby d31_24) (tlt (by decide : (10 : Int32) < (19 : Int32))).2.1 ?_
                        refine own_lloadN X0.here hx (hb hby d31_27) rfl ?_
                        refine own_lloadN X0.here hx (hb hby d31_28) rfl ?_
                        refine own_lcmp X0.here hx (hb hby d31_29) ?_
                        exact kG
                      by_cases hc30 : (0 : Int32) < (lcmpW p1 (-10000000000 : Int64))
                      · obtain ⟨fs, hr, hrun, hended, hW, hsame⟩ := X0.leave (v := some (.int 11)) (fun h => by rw [Bd.returns] at h; cases h)
                        refine ⟨_, _, pre0 _ ?_, hrun, hended, _, _, rfl, ?_, ⟨_, rfl⟩, hW, hsame.mono (by decide) (by decide)⟩
                        · refine G363 _ ?_
                          refine own_ifNo X0.here hx (hb hby d31_30) ((if0 _ _).trans (tlt hc30).2.2.2) ?_
                          refine own_iload X0.here hx (hb hby d31_33) rfl ?_
                          refine own_iloadN X0.here hx (hb hby d31_35) rfl ?_
                          refine own_iadd X0.here hx (hb hby d31_36) ?_
                          show Steps p.tables e below (s₁.setTop (mkF m 37 #[.val (.long p1), .second, .val (.int 1), .val (.long (-10000000000)), .second, .val (.int 10)] [(.int 11)])) _
                          exact retI X0 hx Bd.returns (hb hby d31_37) hr
                        · show QSS Z p1 h0 n0 _ s₁.heap _
                          rw [e0]
                          exact ⟨_, rfl, N0, rfl, (own_ssN (p := (-10000000000 : Int64)) hc5 hc30 (by decide) (by decide) (by decide +kernel))⟩
                      · have G364 : ∀ tG, Steps p.tables e below (s₁.setTop (mkF m 30 #[.val (.long p1), .second, .val (.int 1), .val (.long (-100000000000)), .second, .val (.int 11)] [(.int (lcmpW p1 (-100000000000 : Int64)))])) tG → Steps p.tables e below (s₁.setTop (mkF m 0 #[.val (.long p1), .second, .unset, .unset, .unset, .unset] [])) tG := by
                          intro tG kG
                          refine G363 _ ?_
                          refine own_ifYes X0.here hx 30 38 rfl (hb hby d31_30) ((if0 _ _).trans (flt hc30).2.2.2) (by decide) (by decide) ?_
                          refine X0.ldc2Long hx hown (mvT hZ (own_w hw 196 rfl)) (g := (mkF m 38 #[.val (.long p1), .second, .val (.int 1), .val (.long (-10000000000)), .second, .val (.int 10)] [])) rfl (hb hby d31_38) _ ?_
                          show Steps p.tables e below (s₁.setTop (mkF m 41 #[.val (.long p1), .second, .val (.int 1), .val (.long (-10000000000)), .second, .val (.int 10)] [(.long 10)])) _
                          refine own_lloadN X0.here hx (hb hby d31_41) rfl ?_
                          refine own_lmul X0.here hx (hb hby d31_42) ?_
                          show Steps p.tables e below (s₁.setTop (mkF m 43 #[.val (.long p1), .second, .val (.int 1), .val (.long (-10000000000)), .second, .val (.int 10)] [(.long (-100000000000))])) _
                          refine own_lstoreN X0.here hx (hb hby d31_43) (l' := #[.val (.long p1), .second, .val (.int 1), .val (.long (-100000000000)), .second, .val (.int 10)]) rfl ?_
                          refine own_iinc X0.here hx (1 : Int32) (hb hby d31_44) rfl rfl (l' := #[.val (.long p1), .second, .val (.int 1), .val (.long (-100000000000)), .second, .val (.int 11)]) rfl ?_
                          refine own_goto X0.here hx 47 20 rfl (hb hby d31_47) (by decide) (by decide) ?_
                          refine own_iload X0.here hx (hb hby d31_20) rfl ?_
                          refine own_bipush X0.here hx (19 : Int32) (hb hby d31_22) rfl ?_
                          refine own_icmpNo X0.here hx (hb hby d31_24) (tlt (by decide : (11 : Int32) < (19 : Int32))).2.1 ?_
                          refine own_lloadN X0.here hx (hb hby d31_27) rfl ?_
                          refine own_lloadN X0.here hx (hb hby d31_28) rfl ?_
                          refine own_lcmp X0.here hx (hb hby d31_29) ?_
                          exact kG
                        by_cases hc30 : (0 : Int32) < (lcmpW p1 (-100000000000 : Int64))
                        · obtain ⟨fs, hr, hrun, hended, hW, hsame⟩ := X0.leave (v := some (.int 12)) (fun h => by rw [Bd.returns] at h; cases h)
                          refine ⟨_, _, pre0 _ ?_, hrun, hended, _, _, rfl, ?_, ⟨_, rfl⟩, hW, hsame.mono (by decide) (by decide)⟩
                          · refine G364 _ ?_
                            refine own_ifNo X0.here hx (hb hby d31_30) ((if0 _ _).trans (tlt hc30).2.2.2) ?_
                            refine own_iload X0.here hx (hb hby d31_33) rfl ?_
                            refine own_iloadN X0.here hx (hb hby d31_35) rfl ?_
                            refine own_iadd X0.here hx (hb hby d31_36) ?_
                            show Steps p.tables e below (s₁.setTop (mkF m 37 #[.val (.long p1), .second, .val (.int 1), .val (.long (-100000000000)), .second, .val (.int 11)] [(.int 12)])) _
                            exact retI X0 hx Bd.returns (hb hby d31_37) hr
                          · show QSS Z p1 h0 n0 _ s₁.heap _
                            rw [e0]
                            exact ⟨_, rfl, N0, rfl, (own_ssN (p := (-100000000000 : Int64)) hc5 hc30 (by decide) (by decide) (by decide +kernel))⟩
                        · have G365 : ∀ tG, Steps p.tables e below (s₁.setTop (mkF m 30 #[.val (.long p1), .second, .val (.int 1), .val (.long (-1000000000000)), .second, .val (.int 12)] [(.int (lcmpW p1 (-1000000000000 : Int64)))])) tG → Steps p.tables e below (s₁.setTop (mkF m 0 #[.val (.long p1), .second, .unset, .unset, .unset, .unset] [])) tG := by
                            intro tG kG
                            refine G364 _ ?_
                            refine own_ifYes X0.here hx 30 38 rfl (hb hby d31_30) ((if0 _ _).trans (flt hc30).2.2.2) (by decide) (by decide) ?_
                            refine X0.ldc2Long hx hown (mvT hZ (own_w hw 196 rfl)) (g := (mkF m 38 #[.val (.long p1), .second, .val (.int 1), .val (.long (-100000000000)), .second, .val (.int 11)] [])) rfl (hb hby d31_38) _ ?_
                            show Steps p.tables e below (s₁.setTop (mkF m 41 #[.val (.long p1), .second, .val (.int 1), .val (.long (-100000000000)), .second, .val (.int 11)] [(.long 10)])) _
                            refine own_lloadN X0.here hx (hb hby d31_41) rfl ?_
                            refine own_lmul X0.here hx (hb hby d31_42) ?_
                            show Steps p.tables e below (s₁.setTop (mkF m 43 #[.val (.long p1), .second, .val (.int 1), .val (.long (-100000000000)), .second, .val (.int 11)] [(.long (-1000000000000))])) _
                            refine own_lstoreN X0.here hx (hb hby d31_43) (l' := #[.val (.long p1), .second, .val (.int 1), .val (.long (-1000000000000)), .second, .val (.int 11)]) rfl ?_
                            refine own_iinc X0.here hx (1 : Int32) (hb hby d31_44) rfl rfl (l' := #[.val (.long p1), .second, .val (.int 1), .val (.long (-1000000000000)), .second, .val (.int 12)]) rfl ?_
                            refine own_goto X0.here hx 47 20 rfl (hb hby d31_47) (by decide) (by decide) ?_
                            refine own_iload X0.here hx (hb hby d31_20) rfl ?_
                            refine own_bipush X0.here hx (19 : Int32) (hb hby d31_22) rfl ?_
                            refine own_icmpNo X0.here hx (hb hby d31_24) (tlt (by decide : (12 : Int32) < (19 : Int32))).2.1 ?_
                            refine own_lloadN X0.here hx (hb hby d31_27) rfl ?_
                            refine own_lloadN X0.here hx (hb hby d31_28) rfl ?_
                            refine own_lcmp X0.here hx (hb hby d31_29) ?_
                            exact kG
                          by_cases hc30 : (0 : Int32) < (lcmpW p1 (-1000000000000 : Int64))
                          · obtain ⟨fs, hr, hrun, hended, hW, hsame⟩ := X0.leave (v := some (.int 13)) (fun h => by rw [Bd.returns] at h; cases h)
                            refine ⟨_, _, pre0 _ ?_, hrun, hended, _, _, rfl, ?_, ⟨_, rfl⟩, hW, hsame.mono (by decide) (by decide)⟩
                            · refine G365 _ ?_
                              refine own_ifNo X0.here hx (hb hby d31_30) ((if0 _ _).trans (tlt hc30).2.2.2) ?_
                              refine own_iload X0.here hx (hb hby d31_33) rfl ?_
                              refine own_iloadN X0.here hx (hb hby d31_35) rfl ?_
                              refine own_iadd X0.here hx (hb hby d31_36) ?_
                              show Steps p.tables e below (s₁.setTop (mkF m 37 #[.val (.long p1), .second, .val (.int 1), .val (.long (-1000000000000)), .second, .val (.int 12)] [(.int 13)])) _
                              exact retI X0 hx Bd.returns (hb hby d31_37) hr
                            · show QSS Z p1 h0 n0 _ s₁.heap _
                              rw [e0]
                              exact ⟨_, rfl, N0, rfl, (own_ssN (p := (-1000000000000 : Int64)) hc5 hc30 (by decide) (by decide) (by decide +kernel))⟩
                          · have G366 : ∀ tG, Steps p.tables e below (s₁.setTop (mkF m 30 #[.val (.long p1), .second, .val (.int 1), .val (.long (-10000000000000)), .second, .val (.int 13)] [(.int (lcmpW p1 (-10000000000000 : Int64)))])) tG → Steps p.tables e below (s₁.setTop (mkF m 0 #[.val (.long p1), .second, .unset, .unset, .unset, .unset] [])) tG := by
                              intro tG kG
                              refine G365 _ ?_
                              refine own_ifYes X0.here hx 30 38 rfl (hb hby d31_30) ((if0 _ _).trans (flt hc30).2.2.2) (by decide) (by decide) ?_
                              refine X0.ldc2Long hx hown (mvT hZ (own_w hw 196 rfl)) (g := (mkF m 38 #[.val (.long p1), .second, .val (.int 1), .val (.long (-1000000000000)), .second, .val (.int 12)] [])) rfl (hb hby d31_38) _ ?_
                              show Steps p.tables e below (s₁.setTop (mkF m 41 #[.val (.long p1), .second, .val (.int 1), .val (.long (-1000000000000)), .second, .val (.int 12)] [(.long 10)])) _
                              refine own_lloadN X0.here hx (hb hby d31_41) rfl ?_
                              refine own_lmul X0.here hx (hb hby d31_42) ?_
                              show Steps p.tables e below (s₁.setTop (mkF m 43 #[.val (.long p1), .second, .val (.int 1), .val (.long (-1000000000000)), .second, .val (.int 12)] [(.long (-10000000000000))])) _
                              refine own_lstoreN X0.here hx (hb hby d31_43) (l' := #[.val (.long p1), .second, .val (.int 1), .val (.long (-10000000000000)), .second, .val (.int 12)]) rfl ?_
                              refine own_iinc X0.here hx (1 : Int32) (hb hby d31_44) rfl rfl (l' := #[.val (.long p1), .second, .val (.int 1), .val (.long (-10000000000000)), .second, .val (.int 13)]) rfl ?_
                              refine own_goto X0.here hx 47 20 rfl (hb hby d31_47) (by decide) (by decide) ?_
                              refine own_iload X0.here hx (hb hby d31_20) rfl ?_
                              refine own_bipush X0.here hx (19 : Int32) (hb hby d31_22) rfl ?_
                              refine own_icmpNo X0.here hx (hb hby d31_24) (tlt (by decide : (13 : Int32) < (19 : Int32))).2.1 ?_
                              refine own_lloadN X0.here hx (hb hby d31_27) rfl ?_
                              refine own_lloadN X0.here hx (hb hby d31_28) rfl ?_
                              refine own_lcmp X0.here hx (hb hby d31_29) ?_
                              exact kG
                            by_cases hc30 : (0 : Int32) < (lcmpW p1 (-10000000000000 : Int64))
                            · obtain ⟨fs, hr, hrun, hended, hW, hsame⟩ := X0.leave (v := some (.int 14)) (fun h => by rw [Bd.returns] at h; cases h)
                              refine ⟨_, _, pre0 _ ?_, hrun, hended, _, _, rfl, ?_, ⟨_, rfl⟩, hW, hsame.mono (by decide) (by decide)⟩
                              · refine G366 _ ?_
                                refine own_ifNo X0.here hx (hb hby d31_30) ((if0 _ _).trans (tlt hc30).2.2.2) ?_
                                refine own_iload X0.here hx (hb hby d31_33) rfl ?_
                                refine own_iloadN X0.here hx (hb hby d31_35) rfl ?_
                                refine own_iadd X0.here hx (hb hby d31_36) ?_
                                show Steps p.tables e below (s₁.setTop (mkF m 37 #[.val (.long p1), .second, .val (.int 1), .val (.long (-10000000000000)), .second, .val (.int 13)] [(.int 14)])) _
                                exact retI X0 hx Bd.returns (hb hby d31_37) hr
                              · show QSS Z p1 h0 n0 _ s₁.heap _
                                rw [e0]
                                exact ⟨_, rfl, N0, rfl, (own_ssN (p := (-10000000000000 : Int64)) hc5 hc30 (by decide) (by decide) (by decide +kernel))⟩
                            · have G367 : ∀ tG, Steps p.tables e below (s₁.setTop (mkF m 30 #[.val (.long p1), .second, .val (.int 1), .val (.long (-100000000000000)), .second, .val (.int 14)] [(.int (lcmpW p1 (-100000000000000 : Int64)))])) tG → Steps p.tables e below (s₁.setTop (mkF m 0 #[.val (.long p1), .second, .unset, .unset, .unset, .unset] [])) tG := by
                                intro tG kG
                                refine G366 _ ?_
                                refine own_ifYes X0.here hx 30 38 rfl (hb hby d31_30) ((if0 _ _).trans (flt hc30).2.2.2) (by decide) (by decide) ?_
                                refine X0.ldc2Long hx hown (mvT hZ (own_w hw 196 rfl)) (g := (mkF m 38 #[.val (.long p1), .second, .val (.int 1), .val (.long (-10000000000000)), .second, .val (.int 13)] [])) rfl (hb hby d31_38) _ ?_
                                show Steps p.tables e below (s₁.setTop (mkF m 41 #[.val (.long p1), .second, .val (.int 1), .val (.long (-10000000000000)), .second, .val (.int 13)] [(.long 10)])) _
                                refine own_lloadN X0.here hx (hb hby d31_41) rfl ?_
                                refine own_lmul X0.here hx (hb hby d31_42) ?_
                                show Steps p.tables e below (s₁.setTop (mkF m 43 #[.val (.long p1), .second, .val (.int 1), .val (.long (-10000000000000)), .second, .val (.int 13)] [(.long (-100000000000000))])) _
                                refine own_lstoreN X0.here hx (hb hby d31_43) (l' := #[.val (.long p1), .second, .val (.int 1), .val (.long (-100000000000000)), .second, .val (.int 13)]) rfl ?_
                                refine own_iinc X0.here hx (1 : Int32) (hb hby d31_44) rfl rfl (l' := #[.val (.long p1), .second, .val (.int 1), .val (.long (-100000000000000)), .second, .val (.int 14)]) rfl ?_
                                refine own_goto X0.here hx 47 20 rfl (hb hby d31_47) (by decide) (by decide) ?_
                                refine own_iload X0.here hx (hb hby d31_20) rfl ?_
                                refine own_bipush X0.here hx (19 : Int32) (hb hby d31_22) rfl ?_
                                refine own_icmpNo X0.here hx (hb hby d31_24) (tlt (by decide : (14 : Int32) < (19 : Int32))).2.1 ?_
                                refine own_lloadN X0.here hx (hb hby d31_27) rfl ?_
                                refine own_lloadN X0.here hx (hb hby d31_28) rfl ?_
                                refine own_lcmp X0.here hx (hb hby d31_29) ?_
                                exact kG
                              by_cases hc30 : (0 : Int32) < (lcmpW p1 (-100000000000000 : Int64))
                              · obtain ⟨fs, hr, hrun, hended, hW, hsame⟩ := X0.leave (v := some (.int 15)) (fun h => by rw [Bd.returns] at h; cases h)
                                refine ⟨_, _, pre0 _ ?_, hrun, hended, _, _, rfl, ?_, ⟨_, rfl⟩, hW, hsame.mono (by decide) (by decide)⟩
                                · refine G367 _ ?_
                                  refine own_ifNo X0.here hx (hb hby d31_30) ((if0 _ _).trans (tlt hc30).2.2.2) ?_
                                  refine own_iload X0.here hx (hb hby d31_33) rfl ?_
                                  refine own_iloadN X0.here hx (hb hby d31_35) rfl ?_
                                  refine own_iadd X0.here hx (hb hby d31_36) ?_
                                  show Steps p.tables e below (s₁.setTop (mkF m 37 #[.val (.long p1), .second, .val (.int 1), .val (.long (-100000000000000)), .second, .val (.int 14)] [(.int 15)])) _
                                  exact retI X0 hx Bd.returns (hb hby d31_37) hr
                                · show QSS Z p1 h0 n0 _ s₁.heap _
                                  rw [e0]
                                  exact ⟨_, rfl, N0, rfl, (own_ssN (p := (-100000000000000 : Int64)) hc5 hc30 (by decide) (by decide) (by decide +kernel))⟩
                              · have G368 : ∀ tG, Steps p.tables e below (s₁.setTop (mkF m 30 #[.val (.long p1), .second, .val (.int 1), .val (.long (-1000000000000000)), .second, .val (.int 15)] [(.int (lcmpW p1 (-1000000000000000 : Int64)))])) tG → Steps p.tables e below (s₁.setTop (mkF m 0 #[.val (.long p1), .second, .unset, .unset, .unset, .unset] [])) tG := by
                                  intro tG kG
                                  refine G367 _ ?_
                                  refine own_ifYes X0.here hx 30 38 rfl (hb hby d31_30) ((if0 _ _).trans (flt hc30).2.2.2) (by decide) (by decide) ?_
                                  refine X0.ldc2Long hx hown (mvT hZ (own_w hw 196 rfl)) (g := (mkF m 38 #[.val (.long p1), .second, .val (.int 1), .val (.long (-100000000000000)), .second, .val (.int 14)] [])) rfl (hb hby d31_38) _ ?_
                                  show Steps p.tables e below (s₁.setTop (mkF m 41 #[.val (.long p1), .second, .val (.int 1), .val (.long (-100000000000000)), .second, .val (.int 14)] [(.long 10)])) _
                                  refine own_lloadN X0.here hx (hb hby d31_41) rfl ?_
                                  refine own_lmul X0.here hx (hb hby d31_42) ?_
                                  show Steps p.tables e below (s₁.setTop (mkF m 43 #[.val (.long p1), .second, .val (.int 1), .val (.long (-100000000000000)), .second, .val (.int 14)] [(.long (-1000000000000000))])) _
                                  refine own_lstoreN X0.here hx (hb hby d31_43) (l' := #[.val (.long p1), .second, .val (.int 1), .val (.long (-1000000000000000)), .second, .val (.int 14)]) rfl ?_
                                  refine own_iinc X0.here hx (1 : Int32) (hb hby d31_44) rfl rfl (l' := #[.val (.long p1), .second, .val (.int 1), .val (.long (-1000000000000000)), .second, .val (.int 15)]) rfl ?_
                                  refine own_goto X0.here hx 47 20 rfl (hb hby d31_47) (by decide) (by decide) ?_
                                  refine own_iload X0.here hx (hb hby d31_20) rfl ?_
                                  refine own_bipush X0.here hx (19 : Int32) (hb hby d31_22) rfl ?_
                                  refine own_icmpNo X0.here hx (hb hby d31_24) (tlt (by decide : (15 : Int32) < (19 : Int32))).2.1 ?_
                                  refine own_lloadN X0.here hx (hb hby d31_27) rfl ?_
                                  refine own_lloadN X0.here hx (hb hby d31_28) rfl ?_
                                  refine own_lcmp X0.here hx (hb hby d31_29) ?_
                                  exact kG
                                by_cases hc30 : (0 : Int32) < (lcmpW p1 (-1000000000000000 : Int64))
                                · obtain ⟨fs, hr, hrun, hended, hW, hsame⟩ := X0.leave (v := some (.int 16)) (fun h => by rw [Bd.returns] at h; cases h)
                                  refine ⟨_, _, pre0 _ ?_, hrun, hended, _, _, rfl, ?_, ⟨_, rfl⟩, hW, hsame.mono (by decide) (by decide)⟩
                                  · refine G368 _ ?_
                                    refine own_ifNo X0.here hx (hb hby d31_30) ((if0 _ _).trans (tlt hc30).2.2.2) ?_
                                    refine own_iload X0.here hx (hb hby d31_33) rfl ?_
                                    refine own_iloadN X0.here hx (hb hby d31_35) rfl ?_
                                    refine own_iadd X0.here hx (hb hby d31_36) ?_
                                    show Steps p.tables e below (s₁.setTop (mkF m 37 #[.val (.long p1), .second, .val (.int 1), .val (.long (-1000000000000000)), .second, .val (.int 15)] [(.int 16)])) _
                                    exact retI X0 hx Bd.returns (hb hby d31_37) hr
                                  · show QSS Z p1 h0 n0 _ s₁.heap _
                                    rw [e0]
                                    exact ⟨_, rfl, N0, rfl, (own_ssN (p := (-1000000000000000 : Int64)) hc5 hc30 (by decide) (by decide) (by decide +kernel))⟩
                                · have G369 : ∀ tG, Steps p.tables e below (s₁.setTop (mkF m 30 #[.val (.long p1), .second, .val (.int 1), .val (.long (-10000000000000000)), .second, .val (.int 16)] [(.int (lcmpW p1 (-10000000000000000 : Int64)))])) tG → Steps p.tables e below (s₁.setTop (mkF m 0 #[.val (.long p1), .second, .unset, .unset, .unset, .unset] [])) tG := by
                                    intro tG kG
                                    refine G368 _ ?_
                                    refine own_ifYes X0.here hx 30 38 rfl (hb hby d31_30) ((if0 _ _).trans (flt hc30).2.2.2) (by decide) (by decide) ?_
                                    refine X0.ldc2Long hx hown (mvT hZ (own_w hw 196 rfl)) (g := (mkF m 38 #[.val (.long p1), .second, .val (.int 1), .val (.long (-1000000000000000)), .second, .val (.int 15)] [])) rfl (hb hby d31_38) _ ?_
                                    show Steps p.tables e below (s₁.setTop (mkF m 41 #[.val (.long p1), .second, .val (.int 1), .val (.long (-1000000000000000)), .second, .val (.int 15)] [(.long 10)])) _
                                    refine own_lloadN X0.here hx (hb hby d31_41) rfl ?_
                                    refine own_lmul X0.here hx (hb hby d31_42) ?_
                                    show Steps p.tables e below (s₁.setTop (mkF m 43 #[.val (.long p1), .second, .val (.int 1), .val (.long (-1000000000000000)), .second, .val (.int 15)] [(.long (-10000000000000000))])) _
                                    refine own_lstoreN X0.here hx (hb hby d31_43) (l' := #[.val (.long p1), .second, .val (.int 1), .val (.long (-10000000000000000)), .second, .val (.int 15)]) rfl ?_
                                    refine own_iinc X0.here hx (1 : Int32) (hb hby d31_44) rfl rfl (l' := #[.val (.long p1), .second, .val (.int 1), .val (.long (-10000000000000000)), .second, .val (.int 16)]) rfl ?_
                                    refine own_goto X0.here hx 47 20 rfl (hb hby d31_47) (by decide) (by decide) ?_
                                    refine own_iload X0.here hx (hb hby d31_20) rfl ?_
                                    refine own_bipush X0.here hx (19 : Int32) (hb hby d31_22) rfl ?_
                                    refine own_icmpNo X0.here hx (hb hby d31_24) (tlt (by decide : (16 : Int32) < (19 : Int32))).2.1 ?_
                                    refine own_lloadN X0.here hx (hb hby d31_27) rfl ?_
                                    refine own_lloadN X0.here hx (hb hby d31_28) rfl ?_
                                    refine own_lcmp X0.here hx (hb hby d31_29) ?_
                                    exact kG
                                  by_cases hc30 : (0 : Int32) < (lcmpW p1 (-10000000000000000 : Int64))
                                  · obtain ⟨fs, hr, hrun, hended, hW, hsame⟩ := X0.leave (v := some (.int 17)) (fun h => by rw [Bd.returns] at h; cases h)
                                    refine ⟨_, _, pre0 _ ?_, hrun, hended, _, _, rfl, ?_, ⟨_, rfl⟩, hW, hsame.mono (by decide) (by decide)⟩
                                    · refine G369 _ ?_
                                      refine own_ifNo X0.here hx (hb hby d31_30) ((if0 _ _).trans (tlt hc30).2.2.2) ?_
                                      refine own_iload X0.here hx (hb hby d31_33) rfl ?_
                                      refine own_iloadN X0.here hx (hb hby d31_35) rfl ?_
                                      refine own_iadd X0.here hx (hb hby d31_36) ?_
                                      show Steps p.tables e below (s₁.setTop (mkF m 37 #[.val (.long p1), .second, .val (.int 1), .val (.long (-10000000000000000)), .second, .val (.int 16)] [(.int 17)])) _
                                      exact retI X0 hx Bd.returns (hb hby d31_37) hr
                                    · show QSS Z p1 h0 n0 _ s₁.heap _
                                      rw [e0]
                                      exact ⟨_, rfl, N0, rfl, (own_ssN (p := (-10000000000000000 : Int64)) hc5 hc30 (by decide) (by decide) (by decide +kernel))⟩
                                  · have G370 : ∀ tG, Steps p.tables e below (s₁.setTop (mkF m 30 #[.val (.long p1), .second, .val (.int 1), .val (.long (-100000000000000000)), .second, .val (.int 17)] [(.int (lcmpW p1 (-100000000000000000 : Int64)))])) tG → Steps p.tables e below (s₁.setTop (mkF m 0 #[.val (.long p1), .second, .unset, .unset, .unset, .unset] [])) tG := by
                                      intro tG kG
                                      refine G369 _ ?_
                                      refine own_ifYes X0.here hx 30 38 rfl (hb hby d31_30) ((if0 _ _).trans (flt hc30).2.2.2) (by decide) (by decide) ?_
                                      refine X0.ldc2Long hx hown (mvT hZ (own_w hw 196 rfl)) (g := (mkF m 38 #[.val (.long p1), .second, .val (.int 1), .val (.long (-10000000000000000)), .second, .val (.int 16)] [])) rfl (hb hby d31_38) _ ?_
                                      show Steps p.tables e below (s₁.setTop (mkF m 41 #[.val (.long p1), .second, .val (.int 1), .val (.long (-10000000000000000)), .second, .val (.int 16)] [(.long 10)])) _
                                      refine own_lloadN X0.here hx (hb hby d31_41) rfl ?_
                                      refine own_lmul X0.here hx (hb hby d31_42) ?_
                                      show Steps p.tables e below (s₁.setTop (mkF m 43 #[.val (.long p1), .second, .val (.int 1), .val (.long (-10000000000000000)), .second, .val (.int 16)] [(.long (-100000000000000000))])) _
                                      refine own_lstoreN X0.here hx (hb hby d31_43) (l' := #[.val (.long p1), .second, .val (.int 1), .val (.long (-100000000000000000)), .second, .val (.int 16)]) rfl ?_
                                      refine own_iinc X0.here hx (1 : Int32) (hb hby d31_44) rfl rfl (l' := #[.val (.long p1), .second, .val (.int 1), .val (.long (-100000000000000000)), .second, .val (.int 17)]) rfl ?_
                                      refine own_goto X0.here hx 47 20 rfl (hb hby d31_47) (by decide) (by decide) ?_
                                      refine own_iload X0.here hx (hb hby d31_20) rfl ?_
                                      refine own_bipush X0.here hx (19 : Int32) (hb hby d31_22) rfl ?_
                                      refine own_icmpNo X0.here hx (hb hby d31_24) (tlt (by decide : (17 : Int32) < (19 : Int32))).2.1 ?_
                                      refine own_lloadN X0.here hx (hb hby d31_27) rfl ?_
                                      refine own_lloadN X0.here hx (hb hby d31_28) rfl ?_
                                      refine own_lcmp X0.here hx (hb hby d31_29) ?_
                                      exact kG
                                    by_cases hc30 : (0 : Int32) < (lcmpW p1 (-100000000000000000 : Int64))
                                    · obtain ⟨fs, hr, hrun, hended, hW, hsame⟩ := X0.leave (v := some (.int 18)) (fun h => by rw [Bd.returns] at h; cases h)
                                      refine ⟨_, _, pre0 _ ?_, hrun, hended, _, _, rfl, ?_, ⟨_, rfl⟩, hW, hsame.mono (by decide) (by decide)⟩
                                      · refine G370 _ ?_
                                        refine own_ifNo X0.here hx (hb hby d31_30) ((if0 _ _).trans (tlt hc30).2.2.2) ?_
                                        refine own_iload X0.here hx (hb hby d31_33) rfl ?_
                                        refine own_iloadN X0.here hx (hb hby d31_35) rfl ?_
                                        refine own_iadd X0.here hx (hb hby d31_36) ?_
                                        show Steps p.tables e below (s₁.setTop (mkF m 37 #[.val (.long p1), .second, .val (.int 1), .val (.long (-100000000000000000)), .second, .val (.int 17)] [(.int 18)])) _
                                        exact retI X0 hx Bd.returns (hb hby d31_37) hr
                                      · show QSS Z p1 h0 n0 _ s₁.heap _
                                        rw [e0]
                                        exact ⟨_, rfl, N0, rfl, (own_ssN (p := (-100000000000000000 : Int64)) hc5 hc30 (by decide) (by decide) (by decide +kernel))⟩
                                    · have G371 : ∀ tG, Steps p.tables e below (s₁.setTop (mkF m 30 #[.val (.long p1), .second, .val (.int 1), .val (.long (-1000000000000000000)), .second, .val (.int 18)] [(.int (lcmpW p1 (-1000000000000000000 : Int64)))])) tG → Steps p.tables e below (s₁.setTop (mkF m 0 #[.val (.long p1), .second, .unset, .unset, .unset, .unset] [])) tG := by
                                        intro tG kG
                                        refine G370 _ ?_
                                        refine own_ifYes X0.here hx 30 38 rfl (hb hby d31_30) ((if0 _ _).trans (flt hc30).2.2.2) (by decide) (by decide) ?_
                                        refine X0.ldc2Long hx hown (mvT hZ (own_w hw 196 rfl)) (g := (mkF m 38 #[.val (.long p1), .second, .val (.int 1), .val (.long (-100000000000000000)), .second, .val (.int 17)] [])) rfl (hb hby d31_38) _ ?_
                                        show Steps p.tables e below (s₁.setTop (mkF m 41 #[.val (.long p1), .second, .val (.int 1), .val (.long (-100000000000000000)), .second, .val (.int 17)] [(.long 10)])) _
                                        refine own_lloadN X0.here hx (hb hby d31_41) rfl ?_
                                        refine own_lmul X0.here hx (hb hby d31_42) ?_
                                        show Steps p.tables e below (s₁.setTop (mkF m 43 #[.val (.long p1), .second, .val (.int 1), .val (.long (-100000000000000000)), .second, .val (.int 17)] [(.long (-1000000000000000000))])) _
                                        refine own_lstoreN X0.here hx (hb hby d31_43) (l' := #[.val (.long p1), .second, .val (.int 1), .val (.long (-1000000000000000000)), .second, .val (.int 17)]) rfl ?_
                                        refine own_iinc X0.here hx (1 : Int32) (hb hby d31_44) rfl rfl (l' := #[.val (.long p1), .second, .val (.int 1), .val (.long (-1000000000000000000)), .second, .val (.int 18)]) rfl ?_
                                        refine own_goto X0.here hx 47 20 rfl (hb hby d31_47) (by decide) (by decide) ?_
                                        refine own_iload X0.here hx (hb hby d31_20) rfl ?_
                                        refine own_bipush X0.here hx (19 : Int32) (hb hby d31_22) rfl ?_
                                        refine own_icmpNo X0.here hx (hb hby d31_24) (tlt (by decide : (18 : Int32) < (19 : Int32))).2.1 ?_
                                        refine own_lloadN X0.here hx (hb hby d31_27) rfl ?_
                                        refine own_lloadN X0.here hx (hb hby d31_28) rfl ?_
                                        refine own_lcmp X0.here hx (hb hby d31_29) ?_
                                        exact kG
                                      by_cases hc30 : (0 : Int32) < (lcmpW p1 (-1000000000000000000 : Int64))
                                      · obtain ⟨fs, hr, hrun, hended, hW, hsame⟩ := X0.leave (v := some (.int 19)) (fun h => by rw [Bd.returns] at h; cases h)
                                        refine ⟨_, _, pre0 _ ?_, hrun, hended, _, _, rfl, ?_, ⟨_, rfl⟩, hW, hsame.mono (by decide) (by decide)⟩
                                        · refine G371 _ ?_
                                          refine own_ifNo X0.here hx (hb hby d31_30) ((if0 _ _).trans (tlt hc30).2.2.2) ?_
                                          refine own_iload X0.here hx (hb hby d31_33) rfl ?_
                                          refine own_iloadN X0.here hx (hb hby d31_35) rfl ?_
                                          refine own_iadd X0.here hx (hb hby d31_36) ?_
                                          show Steps p.tables e below (s₁.setTop (mkF m 37 #[.val (.long p1), .second, .val (.int 1), .val (.long (-1000000000000000000)), .second, .val (.int 18)] [(.int 19)])) _
                                          exact retI X0 hx Bd.returns (hb hby d31_37) hr
                                        · show QSS Z p1 h0 n0 _ s₁.heap _
                                          rw [e0]
                                          exact ⟨_, rfl, N0, rfl, (own_ssN (p := (-1000000000000000000 : Int64)) hc5 hc30 (by decide) (by decide) (by decide +kernel))⟩
                                      · obtain ⟨fs, hr, hrun, hended, hW, hsame⟩ := X0.leave (v := some (.int 20)) (fun h => by rw [Bd.returns] at h; cases h)
                                        refine ⟨_, _, pre0 _ ?_, hrun, hended, _, _, rfl, ?_, ⟨_, rfl⟩, hW, hsame.mono (by decide) (by decide)⟩
                                        · refine G371 _ ?_
                                          refine own_ifYes X0.here hx 30 38 rfl (hb hby d31_30) ((if0 _ _).trans (flt hc30).2.2.2) (by decide) (by decide) ?_
                                          refine X0.ldc2Long hx hown (mvT hZ (own_w hw 196 rfl)) (g := (mkF m 38 #[.val (.long p1), .second, .val (.int 1), .val (.long (-1000000000000000000)), .second, .val (.int 18)] [])) rfl (hb hby d31_38) _ ?_
                                          show Steps p.tables e below (s₁.setTop (mkF m 41 #[.val (.long p1), .second, .val (.int 1), .val (.long (-1000000000000000000)), .second, .val (.int 18)] [(.long 10)])) _
                                          refine own_lloadN X0.here hx (hb hby d31_41) rfl ?_
                                          refine own_lmul X0.here hx (hb hby d31_42) ?_
                                          show Steps p.tables e below (s₁.setTop (mkF m 43 #[.val (.long p1), .second, .val (.int 1), .val (.long (-1000000000000000000)), .second, .val (.int 18)] [(.long 8446744073709551616)])) _
                                          refine own_lstoreN X0.here hx (hb hby d31_43) (l' := #[.val (.long p1), .second, .val (.int 1), .val (.long 8446744073709551616), .second, .val (.int 18)]) rfl ?_
                                          refine own_iinc X0.here hx (1 : Int32) (hb hby d31_44) rfl rfl (l' := #[.val (.long p1), .second, .val (.int 1), .val (.long 8446744073709551616), .second, .val (.int 19)]) rfl ?_
                                          refine own_goto X0.here hx 47 20 rfl (hb hby d31_47) (by decide) (by decide) ?_
                                          refine own_iload X0.here hx (hb hby d31_20) rfl ?_
                                          refine own_bipush X0.here hx (19 : Int32) (hb hby d31_22) rfl ?_
                                          refine own_icmpYes X0.here hx 24 50 rfl (hb hby d31_24) (flt (by decide : ¬ ((19 : Int32) < (19 : Int32)))).2.1 (by decide) (by decide) ?_
                                          refine own_bipush X0.here hx (19 : Int32) (hb hby d31_50) rfl ?_
                                          refine own_iloadN X0.here hx (hb hby d31_52) rfl ?_
                                          refine own_iadd X0.here hx (hb hby d31_53) ?_
                                          show Steps p.tables e below (s₁.setTop (mkF m 54 #[.val (.long p1), .second, .val (.int 1), .val (.long 8446744073709551616), .second, .val (.int 19)] [(.int 20)])) _
                                          exact retI X0 hx Bd.returns (hb hby d31_54) hr
                                        · show QSS Z p1 h0 n0 _ s₁.heap _
                                          rw [e0]
                                          exact ⟨_, rfl, N0, rfl, (own_ssNE hc5)⟩
  · have G372 : ∀ tG, Steps p.tables e below (s₁.setTop (mkF m 30 #[.val (.long (-p1)), .second, .val (.int 0), .val (.long (-10)), .second, .val (.int 1)] [(.int (lcmpW (-p1) (-10 : Int64)))])) tG → Steps p.tables e below (s₁.setTop (mkF m 0 #[.val (.long p1), .second, .unset, .unset, .unset, .unset] [])) tG := by
      intro tG kG
      refine G353 _ ?_
      refine own_ifNo X0.here hx (hb hby d31_5) ((if0 _ _).trans (flt hc5).1) ?_
      refine own_iconst X0.here hx (0 : Int32) (hb hby d31_8) rfl ?_
      refine own_istoreN X0.here hx (hb hby d31_9) (l' := #[.val (.long p1), .second, .val (.int 0), .unset, .unset, .unset]) rfl ?_
      refine own_lloadN X0.here hx (hb hby d31_10) rfl ?_
      refine own_lneg X0.here hx (hb hby d31_11) ?_
      refine own_lstoreN X0.here hx (hb hby d31_12) (l' := #[.val (.long (-p1)), .second, .val (.int 0), .unset, .unset, .unset]) rfl ?_
      refine X0.ldc2Long hx hown (mvT hZ (own_w hw 195 rfl)) (g := (mkF m 13 #[.val (.long (-p1)), .second, .val (.int 0), .unset, .unset, .unset] [])) rfl (hb hby d31_13) _ ?_
      show Steps p.tables e below (s₁.setTop (mkF m 16 #[.val (.long (-p1)), .second, .val (.int 0), .unset, .unset, .unset] [(.long (-10))])) _
      refine own_lstoreN X0.here hx (hb hby d31_16) (l' := #[.val (.long (-p1)), .second, .val (.int 0), .val (.long (-10)), .second, .unset]) rfl ?_
      refine own_iconst X0.here hx (1 : Int32) (hb hby d31_17) rfl ?_
      refine own_istore X0.here hx (hb hby d31_18) (l' := #[.val (.long (-p1)), .second, .val (.int 0), .val (.long (-10)), .second, .val (.int 1)]) rfl ?_
      refine own_iload X0.here hx (hb hby d31_20) rfl ?_
      refine own_bipush X0.here hx (19 : Int32) (hb hby d31_22) rfl ?_
      refine own_icmpNo X0.here hx (hb hby d31_24) (tlt (by decide : (1 : Int32) < (19 : Int32))).2.1 ?_
      refine own_lloadN X0.here hx (hb hby d31_27) rfl ?_
      refine own_lloadN X0.here hx (hb hby d31_28) rfl ?_
      refine own_lcmp X0.here hx (hb hby d31_29) ?_
      exact kG
    by_cases hc30 : (0 : Int32) < (lcmpW (-p1) (-10 : Int64))
    · obtain ⟨fs, hr, hrun, hended, hW, hsame⟩ := X0.leave (v := some (.int 1)) (fun h => by rw [Bd.returns] at h; cases h)
      refine ⟨_, _, pre0 _ ?_, hrun, hended, _, _, rfl, ?_, ⟨_, rfl⟩, hW, hsame.mono (by decide) (by decide)⟩
      · refine G372 _ ?_
        refine own_ifNo X0.here hx (hb hby d31_30) ((if0 _ _).trans (tlt hc30).2.2.2) ?_
        refine own_iload X0.here hx (hb hby d31_33) rfl ?_
        refine own_iloadN X0.here hx (hb hby d31_35) rfl ?_
        refine own_iadd X0.here hx (hb hby d31_36) ?_
        show Steps p.tables e below (s₁.setTop (mkF m 37 #[.val (.long (-p1)), .second, .val (.int 0), .val (.long (-10)), .second, .val (.int 1)] [(.int 1)])) _
        exact retI X0 hx Bd.returns (hb hby d31_37) hr
      · show QSS Z p1 h0 n0 _ s₁.heap _
        rw [e0]
        exact ⟨_, rfl, N0, rfl, (own_ssP (p := (-10 : Int64)) hc5 hc30 (by decide) (by decide) (by decide +kernel))⟩
    · have G373 : ∀ tG, Steps p.tables e below (s₁.setTop (mkF m 30 #[.val (.long (-p1)), .second, .val (.int 0), .val (.long (-100)), .second, .val (.int 2)] [(.int (lcmpW (-p1) (-100 : Int64)))])) tG → Steps p.tables e below (s₁.setTop (mkF m 0 #[.val (.long p1), .second, .unset, .unset, .unset, .unset] [])) tG := by
        intro tG kG
        refine G372 _ ?_
        refine own_ifYes X0.here hx 30 38 rfl (hb hby d31_30) ((if0 _ _).trans (flt hc30).2.2.2) (by decide) (by decide) ?_
        refine X0.ldc2Long hx hown (mvT hZ (own_w hw 196 rfl)) (g := (mkF m 38 #[.val (.long (-p1)), .second, .val (.int 0), .val (.long (-10)), .second, .val (.int 1)] [])) rfl (hb hby d31_38) _ ?_
        show Steps p.tables e below (s₁.setTop (mkF m 41 #[.val (.long (-p1)), .second, .val (.int 0), .val (.long (-10)), .second, .val (.int 1)] [(.long 10)])) _
        refine own_lloadN X0.here hx (hb hby d31_41) rfl ?_
        refine own_lmul X0.here hx (hb hby d31_42) ?_
        show Steps p.tables e below (s₁.setTop (mkF m 43 #[.val (.long (-p1)), .second, .val (.int 0), .val (.long (-10)), .second, .val (.int 1)] [(.long (-100))])) _
        refine own_lstoreN X0.here hx (hb hby d31_43) (l' := #[.val (.long (-p1)), .second, .val (.int 0), .val (.long (-100)), .second, .val (.int 1)]) rfl ?_
        refine own_iinc X0.here hx (1 : Int32) (hb hby d31_44) rfl rfl (l' := #[.val (.long (-p1)), .second, .val (.int 0), .val (.long (-100)), .second, .val (.int 2)]) rfl ?_
        refine own_goto X0.here hx 47 20 rfl (hb hby d31_47) (by decide) (by decide) ?_
        refine own_iload X0.here hx (hb hby d31_20) rfl ?_
        refine own_bipush X0.here hx (19 : Int32) (hb hby d31_22) rfl ?_
        refine own_icmpNo X0.here hx (hb hby d31_24) (tlt (by decide : (2 : Int32) < (19 : Int32))).2.1 ?_
        refine own_lloadN X0.here hx (hb hby d31_27) rfl ?_
        refine own_lloadN X0.here hx (hb hby d31_28) rfl ?_
        refine own_lcmp X0.here hx (hb hby d31_29) ?_
        exact kG
      by_cases hc30 : (0 : Int32) < (lcmpW (-p1) (-100 : Int64))
      · obtain ⟨fs, hr, hrun, hended, hW, hsame⟩ := X0.leave (v := some (.int 2)) (fun h => by rw [Bd.returns] at h; cases h)
        refine ⟨_, _, pre0 _ ?_, hrun, hended, _, _, rfl, ?_, ⟨_, rfl⟩, hW, hsame.mono (by decide) (by decide)⟩
        · refine G373 _ ?_
          refine own_ifNo X0.here hx (hb hby d31_30) ((if0 _ _).trans (tlt hc30).2.2.2) ?_
          refine own_iload X0.here hx (hb hby d31_33) rfl ?_
          refine own_iloadN X0.here hx (hb hby d31_35) rfl ?_
          refine own_iadd X0.here hx (hb hby d31_36) ?_
          show Steps p.tables e below (s₁.setTop (mkF m 37 #[.val (.long (-p1)), .second, .val (.int 0), .val (.long (-100)), .second, .val (.int 2)] [(.int 2)])) _
          exact retI X0 hx Bd.returns (hb hby d31_37) hr
        · show QSS Z p1 h0 n0 _ s₁.heap _
          rw [e0]
          exact ⟨_, rfl, N0, rfl, (own_ssP (p := (-100 : Int64)) hc5 hc30 (by decide) (by decide) (by decide +kernel))⟩
      · have G374 : ∀ tG, Steps p.tables e below (s₁.setTop (mkF m 30 #[.val (.long (-p1)), .second, .val (.int 0), .val (.long (-1000)), .second, .val (.int 3)] [(.int (lcmpW (-p1) (-1000 : Int64)))])) tG → Steps p.tables e below (s₁.setTop (mkF m 0 #[.val (.long p1), .second, .unset, .unset, .unset, .unset] [])) tG := by
          intro tG kG
          refine G373 _ ?_
          refine own_ifYes X0.here hx 30 38 rfl (hb hby d31_30) ((if0 _ _).trans (flt hc30).2.2.2) (by decide) (by decide) ?_
          refine X0.ldc2Long hx hown (mvT hZ (own_w hw 196 rfl)) (g := (mkF m 38 #[.val (.long (-p1)), .second, .val (.int 0), .val (.long (-100)), .second, .val (.int 2)] [])) rfl (hb hby d31_38) _ ?_
          show Steps p.tables e below (s₁.setTop (mkF m 41 #[.val (.long (-p1)), .second, .val (.int 0), .val (.long (-100)), .second, .val (.int 2)] [(.long 10)])) _
          refine own_lloadN X0.here hx (hb hby d31_41) rfl ?_
          refine own_lmul X0.here hx (hb hby d31_42) ?_
          show Steps p.tables e below (s₁.setTop (mkF m 43 #[.val (.long (-p1)), .second, .val (.int 0), .val (.long (-100)), .second, .val (.int 2)] [(.long (-1000))])) _
          refine own_lstoreN X0.here hx (hb hby d31_43) (l' := #[.val (.long (-p1)), .second, .val (.int 0), .val (.long (-1000)), .second, .val (.int 2)]) rfl ?_
          refine own_iinc X0.here hx (1 : Int32) (hb hby d31_44) rfl rfl (l' := #[.val (.long (-p1)), .second, .val (.int 0), .val (.long (-1000)), .second, .val (.int 3)]) rfl ?_
          refine own_goto X0.here hx 47 20 rfl (hb hby d31_47) (by decide) (by decide) ?_
          refine own_iload X0.here hx (hb hby d31_20) rfl ?_
          refine own_bipush X0.here hx (19 : Int32) (hb hby d31_22) rfl ?_
          refine own_icmpNo X0.here hx (hb hby d31_24) (tlt (by decide : (3 : Int32) < (19 : Int32))).2.1 ?_
          refine own_lloadN X0.here hx (hb hby d31_27) rfl ?_
          refine own_lloadN X0.here hx (hb hby d31_28) rfl ?_
          refine own_lcmp X0.here hx (hb hby d31_29) ?_
          exact kG
        by_cases hc30 : (0 : Int32) < (lcmpW (-p1) (-1000 : Int64))
        · obtain ⟨fs, hr, hrun, hended, hW, hsame⟩ := X0.leave (v := some (.int 3)) (fun h => by rw [Bd.returns] at h; cases h)
          refine ⟨_, _, pre0 _ ?_, hrun, hended, _, _, rfl, ?_, ⟨_, rfl⟩, hW, hsame.mono (by decide) (by decide)⟩
          · refine G374 _ ?_
            refine own_ifNo X0.here hx (hb hby d31_30) ((if0 _ _).trans (tlt hc30).2.2.2) ?_
            refine own_iload X0.here hx (hb hby d31_33) rfl ?_
            refine own_iloadN X0.here hx (hb hby d31_35) rfl ?_
            refine own_iadd X0.here hx (hb hby d31_36) ?_
            show Steps p.tables e below (s₁.setTop (mkF m 37 #[.val (.long (-p1)), .second, .val (.int 0), .val (.long (-1000)), .second, .val (.int 3)] [(.int 3)])) _
            exact retI X0 hx Bd.returns (hb hby d31_37) hr
          · show QSS Z p1 h0 n0 _ s₁.heap _
            rw [e0]
            exact ⟨_, rfl, N0, rfl, (own_ssP (p := (-1000 : Int64)) hc5 hc30 (by decide) (by decide) (by decide +kernel))⟩
        · have G375 : ∀ tG, Steps p.tables e below (s₁.setTop (mkF m 30 #[.val (.long (-p1)), .second, .val (.int 0), .val (.long (-10000)), .second, .val (.int 4)] [(.int (lcmpW (-p1) (-10000 : Int64)))])) tG → Steps p.tables e below (s₁.setTop (mkF m 0 #[.val (.long p1), .second, .unset, .unset, .unset, .unset] [])) tG := by
            intro tG kG
            refine G374 _ ?_
            refine own_ifYes X0.here hx 30 38 rfl (hb hby d31_30) ((if0 _ _).trans (flt hc30).2.2.2) (by decide) (by decide) ?_
            refine X0.ldc2Long hx hown (mvT hZ (own_w hw 196 rfl)) (g := (mkF m 38 #[.val (.long (-p1)), .second, .val (.int 0), .val (.long (-1000)), .second, .val (.int 3)] [])) rfl (hb hby d31_38) _ ?_
            show Steps p.tables e below (s₁.setTop (mkF m 41 #[.val (.long (-p1)), .second, .val (.int 0), .val (.long (-1000)), .second, .val (.int 3)] [(.long 10)])) _
            refine own_lloadN X0.here hx (hb hby d31_41) rfl ?_
            refine own_lmul X0.here hx (hb hby d31_42) ?_
            show Steps p.tables e below (s₁.setTop (mkF m 43 #[.val (.long (-p1)), .second, .val (.int 0), .val (.long (-1000)), .second, .val (.int 3)] [(.long (-10000))])) _
            refine own_lstoreN X0.here hx (hb hby d31_43) (l' := #[.val (.long (-p1)), .second, .val (.int 0), .val (.long (-10000)), .second, .val (.int 3)]) rfl ?_
            refine own_iinc X0.here hx (1 : Int32) (hb hby d31_44) rfl rfl (l' := #[.val (.long (-p1)), .second, .val (.int 0), .val (.long (-10000)), .second, .val (.int 4)]) rfl ?_
            refine own_goto X0.here hx 47 20 rfl (hb hby d31_47) (by decide) (by decide) ?_
            refine own_iload X0.here hx (hb hby d31_20) rfl ?_
            refine own_bipush X0.here hx (19 : Int32) (hb hby d31_22) rfl ?_
            refine own_icmpNo X0.here hx (hb hby d31_24) (tlt (by decide : (4 : Int32) < (19 : Int32))).2.1 ?_
            refine own_lloadN X0.here hx (hb hby d31_27) rfl ?_
            refine own_lloadN X0.here hx (hb hby d31_28) rfl ?_
            refine own_lcmp X0.here hx (hb hby d31_29) ?_
            exact kG
          by_cases hc30 : (0 : Int32) < (lcmpW (-p1) (-10000 : Int64))
          · obtain ⟨fs, hr, hrun, hended, hW, hsame⟩ := X0.leave (v := some (.int 4)) (fun h => by rw [Bd.returns] at h; cases h)
            refine ⟨_, _, pre0 _ ?_, hrun, hended, _, _, rfl, ?_, ⟨_, rfl⟩, hW, hsame.mono (by decide) (by decide)⟩
            · refine G375 _ ?_
              refine own_ifNo X0.here hx (hb hby d31_30) ((if0 _ _).trans (tlt hc30).2.2.2) ?_
              refine own_iload X0.here hx (hb hby d31_33) rfl ?_
              refine own_iloadN X0.here hx (hb hby d31_35) rfl ?_
              refine own_iadd X0.here hx (hb hby d31_36) ?_
              show Steps p.tables e below (s₁.setTop (mkF m 37 #[.val (.long (-p1)), .second, .val (.int 0), .val (.long (-10000)), .second, .val (.int 4)] [(.int 4)])) _
              exact retI X0 hx Bd.returns (hb hby d31_37) hr
            · show QSS Z p1 h0 n0 _ s₁.heap _
              rw [e0]
              exact ⟨_, rfl, N0, rfl, (own_ssP (p := (-10000 : Int64)) hc5 hc30 (by decide) (by decide) (by decide +kernel))⟩
          · have G376 : ∀ tG, Steps p.tables e below (s₁.setTop (mkF m 30 #[.val (.long (-p1)), .second, .val (.int 0), .val (.long (-100000)), .second, .val (.int 5)] [(.int (lcmpW (-p1) (-100000 : Int64)))])) tG → Steps p.tables e below (s₁.setTop (mkF m 0 #[.val (.long p1), .second, .unset, .unset, .unset, .unset] [])) tG := by
              intro tG kG
              refine G375 _ ?_
              refine own_ifYes X0.here hx 30 38 rfl (hb hby d31_30) ((if0 _ _).trans (flt hc30).2.2.2) (by decide) (by decide) ?_
              refine X0.ldc2Long hx hown (mvT hZ (own_w hw 196 rfl)) (g := (mkF m 38 #[.val (.long (-p1)), .second, .val (.int 0), .val (.long (-10000)), .second, .val (.int 4)] [])) rfl (hb hby d31_38) _ ?_
              show Steps p.tables e below (s₁.setTop (mkF m 41 #[.val (.long (-p1)), .second, .val (.int 0), .val (.long (-10000)), .second, .val (.int 4)] [(.long 10)])) _
              refine own_lloadN X0.here hx (hb hby d31_41) rfl ?_
              refine own_lmul X0.here hx (hb hby d31_42) ?_
              show Steps p.tables e below (s₁.setTop (mkF m 43 #[.val (.long (-p1)), .second, .val (.int 0), .val (.long (-10000)), .second, .val (.int 4)] [(.long (-100000))])) _
              refine own_lstoreN X0.here hx (hb hby d31_43) (l' := #[.val (.long (-p1)), .second, .val (.int 0), .val (.long (-100000)), .second, .val (.int 4)]) rfl ?_
              refine own_iinc X0.here hx (1 : Int32) (hb hby d31_44) rfl rfl (l' := #[.val (.long (-p1)), .second, .val (.int 0), .val (.long (-100000)), .second, .val (.int 5)]) rfl ?_
              refine own_goto X0.here hx 47 20 rfl (hb hby d31_47) (by decide) (by decide) ?_
              refine own_iload X0.here hx (hb hby d31_20) rfl ?_
              refine own_bipush X0.here hx (19 : Int32) (hb hby d31_22) rfl ?_
              refine own_icmpNo X0.here hx (hb hby d31_24) (tlt (by decide : (5 : Int32) < (19 : Int32))).2.1 ?_
              refine own_lloadN X0.here hx (hb hby d31_27) rfl ?_
              refine own_lloadN X0.here hx (hb hby d31_28) rfl ?_
              refine own_lcmp X0.here hx (hb hby d31_29) ?_
              exact kG
            by_cases hc30 : (0 : Int32) < (lcmpW (-p1) (-100000 : Int64))
            · obtain ⟨fs, hr, hrun, hended, hW, hsame⟩ := X0.leave (v := some (.int 5)) (fun h => by rw [Bd.returns] at h; cases h)
              refine ⟨_, _, pre0 _ ?_, hrun, hended, _, _, rfl, ?_, ⟨_, rfl⟩, hW, hsame.mono (by decide) (by decide)⟩
              · refine G376 _ ?_
                refine own_ifNo X0.here hx (hb hby d31_30) ((if0 _ _).trans (tlt hc30).2.2.2) ?_
                refine own_iload X0.here hx (hb hby d31_33) rfl ?_
                refine own_iloadN X0.here hx (hb hby d31_35) rfl ?_
                refine own_iadd X0.here hx (hb hby d31_36) ?_
                show Steps p.tables e below (s₁.setTop (mkF m 37 #[.val (.long (-p1)), .second, .val (.int 0), .val (.long (-100000)), .second, .val (.int 5)] [(.int 5)])) _
                exact retI X0 hx Bd.returns (hb hby d31_37) hr
              · show QSS Z p1 h0 n0 _ s₁.heap _
                rw [e0]
                exact ⟨_, rfl, N0, rfl, (own_ssP (p := (-100000 : Int64)) hc5 hc30 (by decide) (by decide) (by decide +kernel))⟩
            · have G377 : ∀ tG, Steps p.tables e below (s₁.setTop (mkF m 30 #[.val (.long (-p1)), .second, .val (.int 0), .val (.long (-1000000)), .second, .val (.int 6)] [(.int (lcmpW (-p1) (-1000000 : Int64)))])) tG → Steps p.tables e below (s₁.setTop (mkF m 0 #[.val (.long p1), .second, .unset, .unset, .unset, .unset] [])) tG := by
                intro tG kG
                refine G376 _ ?_
                refine own_ifYes X0.here hx 30 38 rfl (hb hby d31_30) ((if0 _ _).trans (flt hc30).2.2.2) (by decide) (by decide) ?_
                refine X0.ldc2Long hx hown (mvT hZ (own_w hw 196 rfl)) (g := (mkF m 38 #[.val (.long (-p1)), .second, .val (.int 0), .val (.long (-100000)), .second, .val (.int 5)] [])) rfl (hb hby d31_38) _ ?_
                show Steps p.tables e below (s₁.setTop (mkF m 41 #[.val (.long (-p1)), .second, .val (.int 0), .val (.long (-100000)), .second, .val (.int 5)] [(.long 10)])) _
                refine own_lloadN X0.here hx (hb hby d31_41) rfl ?_
                refine own_lmul X0.here hx (hb hby d31_42) ?_
                show Steps p.tables e below (s₁.setTop (mkF m 43 #[.val (.long (-p1)), .second, .val (.int 0), .val (.long (-100000)), .second, .val (.int 5)] [(.long (-1000000))])) _
                refine own_lstoreN X0.here hx (hb hby d31_43) (l' := #[.val (.long (-p1)), .second, .val (.int 0), .val (.long (-1000000)), .second, .val (.int 5)]) rfl ?_
                refine own_iinc X0.here hx (1 : Int32) (hb hby d31_44) rfl rfl (l' := #[.val (.long (-p1)), .second, .val (.int 0), .val (.long (-1000000)), .second, .val (.int 6)]) rfl ?_
                refine own_goto X0.here hx 47 20 rfl (hb hby d31_47) (by decide) (by decide) ?_
                refine own_iload X0.here hx (hb hby d31_20) rfl ?_
                refine own_bipush X0.here hx (19 : Int32) (hb hby d31_22) rfl ?_
                refine own_icmpNo X0.here hx (hb hby d31_24) (tlt (by decide : (6 : Int32) < (19 : Int32))).2.1 ?_
                refine own_lloadN X0.here hx (hb hby d31_27) rfl ?_
                refine own_lloadN X0.here hx (hb hby d31_28) rfl ?_
                refine own_lcmp X0.here hx (hb hby d31_29) ?_
                exact kG
              by_cases hc30 : (0 : Int32) < (lcmpW (-p1) (-1000000 : Int64))
              · obtain ⟨fs, hr, hrun, hended, hW, hsame⟩ := X0.leave (v := some (.int 6)) (fun h => by rw [Bd.returns] at h; cases h)
                refine ⟨_, _, pre0 _ ?_, hrun, hended, _, _, rfl, ?_, ⟨_, rfl⟩, hW, hsame.mono (by decide) (by decide)⟩
                · refine G377 _ ?_
                  refine own_ifNo X0.here hx (hb hby d31_30) ((if0 _ _).trans (tlt hc30).2.2.2) ?_
                  refine own_iload X0.here hx (hb hby d31_33) rfl ?_
                  refine own_iloadN X0.here hx (hb hby d31_35) rfl ?_
                  refine own_iadd X0.here hx (hb hby d31_36) ?_
                  show Steps p.tables e below (s₁.setTop (mkF m 37 #[.val (.long (-p1)), .second, .val (.int 0), .val (.long (-1000000)), .second, .val (.int 6)] [(.int 6)])) _
                  exact retI X0 hx Bd.returns (hb hby d31_37) hr
                · show QSS Z p1 h0 n0 _ s₁.heap _
                  rw [e0]
                  exact ⟨_, rfl, N0, rfl, (own_ssP (p := (-1000000 : Int64)) hc5 hc30 (by decide) (by decide) (by decide +kernel))⟩
              · have G378 : ∀ tG, Steps p.tables e below (s₁.setTop (mkF m 30 #[.val (.long (-p1)), .second, .val (.int 0), .val (.long (-10000000)), .second, .val (.int 7)] [(.int (lcmpW (-p1) (-10000000 : Int64)))])) tG → Steps p.tables e below (s₁.setTop (mkF m 0 #[.val (.long p1), .second, .unset, .unset, .unset, .unset] [])) tG := by
                  intro tG kG
                  refine G377 _ ?_
                  refine own_ifYes X0.here hx 30 38 rfl (hb hby d31_30) ((if0 _ _).trans (flt hc30).2.2.2) (by decide) (by decide) ?_
                  refine X0.ldc2Long hx hown (mvT hZ (own_w hw 196 rfl)) (g := (mkF m 38 #[.val (.long (-p1)), .second, .val (.int 0), .val (.long (-1000000)), .second, .val (.int 6)] [])) rfl (hb hby d31_38) _ ?_
                  show Steps p.tables e below (s₁.setTop (mkF m 41 #[.val (.long (-p1)), .second, .val (.int 0), .val (.long (-1000000)), .second, .val (.int 6)] [(.long 10)])) _
                  refine own_lloadN X0.here hx (hb hby d31_41) rfl ?_
                  refine own_lmul X0.here hx (hb hby d31_42) ?_
                  show Steps p.tables e below (s₁.setTop (mkF m 43 #[.val (.long (-p1)), .second, .val (.int 0), .val (.long (-1000000)), .second, .val (.int 6)] [(.long (-10000000))])) _
                  refine own_lstoreN X0.here hx (hb hby d31_43) (l' := #[.val (.long (-p1)), .second, .val (.int 0), .val (.long (-10000000)), .second, .val (.int 6)]) rfl ?_
                  refine own_iinc X0.here hx (1 : Int32) (hb hby d31_44) rfl rfl (l' := #[.val (.long (-p1)), .second, .val (.int 0), .val (.long (-10000000)), .second, .val (.int 7)]) rfl ?_
                  refine own_goto X0.here hx 47 20 rfl (hb hby d31_47) (by decide) (by decide) ?_
                  refine own_iload X0.here hx (hb hby d31_20) rfl ?_
                  refine own_bipush X0.here hx (19 : Int32) (hb hby d31_22) rfl ?_
                  refine own_icmpNo X0.here hx (hb hby d31_24) (tlt (by decide : (7 : Int32) < (19 : Int32))).2.1 ?_
                  refine own_lloadN X0.here hx (hb hby d31_27) rfl ?_
                  refine own_lloadN X0.here hx (hb hby d31_28) rfl ?_
                  refine own_lcmp X0.here hx (hb hby d31_29) ?_
                  exact kG
                by_cases hc30 : (0 : Int32) < (lcmpW (-p1) (-10000000 : Int64))
                · obtain ⟨fs, hr, hrun, hended, hW, hsame⟩ := X0.leave (v := some (.int 7)) (fun h => by rw [Bd.returns] at h; cases h)
                  refine ⟨_, _, pre0 _ ?_, hrun, hended, _, _, rfl, ?_, ⟨_, rfl⟩, hW, hsame.mono (by decide) (by decide)⟩
                  · refine G378 _ ?_
                    refine own_ifNo X0.here hx (hb hby d31_30) ((if0 _ _).trans (tlt hc30).2.2.2) ?_
                    refine own_iload X0.here hx (hb hby d31_33) rfl ?_
                    refine own_iloadN X0.here hx (hb hby d31_35) rfl ?_
                    refine own_iadd X0.here hx (hb hby d31_36) ?_
                    show Steps p.tables e below (s₁.setTop (mkF m 37 #[.val (.long (-p1)), .second, .val (.int 0), .val (.long (-10000000)), .second, .val (.int 7)] [(.int 7)])) _
                    exact retI X0 hx Bd.returns (hb hby d31_37) hr
                  · show QSS Z p1 h0 n0 _ s₁.heap _
                    rw [e0]
                    exact ⟨_, rfl, N0, rfl, (own_ssP (p := (-10000000 : Int64)) hc5 hc30 (by decide) (by decide) (by decide +kernel))⟩
                · have G379 : ∀ tG, Steps p.tables e below (s₁.setTop (mkF m 30 #[.val (.long (-p1)), .second, .val (.int 0), .val (.long (-100000000)), .second, .val (.int 8)] [(.int (lcmpW (-p1) (-100000000 : Int64)))])) tG → Steps p.tables e below (s₁.setTop (mkF m 0 #[.val (.long p1), .second, .unset, .unset, .unset, .unset] [])) tG := by
                    intro tG kG
                    refine G378 _ ?_
                    refine own_ifYes X0.here hx 30 38 rfl (hb hby d31_30) ((if0 _ _).trans (flt hc30).2.2.2) (by decide) (by decide) ?_
                    refine X0.ldc2Long hx hown (mvT hZ (own_w hw 196 rfl)) (g := (mkF m 38 #[.val (.long (-p1)), .second, .val (.int 0), .val (.long (-10000000)), .second, .val (.int 7)] [])) rfl (hb hby d31_38) _ ?_
                    show Steps p.tables e below (s₁.setTop (mkF m 41 #[.val (.long (-p1)), .second, .val (.int 0), .val (.long (-10000000)), .second, .val (.int 7)] [(.long 10)])) _
                    refine own_lloadN X0.here hx (hb hby d31_41) rfl ?_
                    refine own_lmul X0.here hx (hb hby d31_42) ?_
                    show Steps p.tables e below (s₁.setTop (mkF m 43 #[.val (.long (-p1)), .second, .val (.int 0), .val (.long (-10000000)), .second, .val (.int 7)] [(.long (-100000000))])) _
                    refine own_lstoreN X0.here hx (hb hby d31_43) (l' := #[.val (.long (-p1)), .second, .val (.int 0), .val (.long (-100000000)), .second, .val (.int 7)]) rfl ?_
                    refine own_iinc X0.here hx (1 : Int32) (hb hby d31_44) rfl rfl (l' := #[.val (.long (-p1)), .second, .val (.int 0), .val (.long (-100000000)), .second, .val (.int 8)]) rfl ?_
                    refine own_goto X0.here hx 47 20 rfl (hb hby d31_47) (by decide) (by decide) ?_
                    refine own_iload X0.here hx (hb hby d31_20) rfl ?_
                    refine own_bipush X0.here hx (19 : Int32) (hb hby d31_22) rfl ?_
                    refine own_icmpNo X0.here hx (hb hby d31_24) (tlt (by decide : (8 : Int32) < (19 : Int32))).2.1 ?_
                    refine own_lloadN X0.here hx (hb hby d31_27) rfl ?_
                    refine own_lloadN X0.here hx (hb hby d31_28) rfl ?_
                    refine own_lcmp X0.here hx (hb hby d31_29) ?_
                    exact kG
                  by_cases hc30 : (0 : Int32) < (lcmpW (-p1) (-100000000 : Int64))
                  · obtain ⟨fs, hr, hrun, hended, hW, hsame⟩ := X0.leave (v := some (.int 8)) (fun h => by rw [Bd.returns] at h; cases h)
                    refine ⟨_, _, pre0 _ ?_, hrun, hended, _, _, rfl, ?_, ⟨_, rfl⟩, hW, hsame.mono (by decide) (by decide)⟩
                    · refine G379 _ ?_
                      refine own_ifNo X0.here hx (hb hby d31_30) ((if0 _ _).trans (tlt hc30).2.2.2) ?_
                      refine own_iload X0.here hx (hb hby d31_33) rfl ?_
                      refine own_iloadN X0.here hx (hb hby d31_35) rfl ?_
                      refine own_iadd X0.here hx (hb hby d31_36) ?_
                      show Steps p.tables e below (s₁.setTop (mkF m 37 #[.val (.long (-p1)), .second, .val (.int 0), .val (.long (-100000000)), .second, .val (.int 8)] [(.int 8)])) _
                      exact retI X0 hx Bd.returns (hb hby d31_37) hr
                    · show QSS Z p1 h0 n0 _ s₁.heap _
                      rw [e0]
                      exact ⟨_, rfl, N0, rfl, (own_ssP (p := (-100000000 : Int64)) hc5 hc30 (by decide) (by decide) (by decide +kernel))⟩
                  · have G380 : ∀ tG, Steps p.tables e below (s₁.setTop (mkF m 30 #[.val (.long (-p1)), .second, .val (.int 0), .val (.long (-1000000000)), .second, .val (.int 9)] [(.int (lcmpW (-p1) (-1000000000 : Int64)))])) tG → Steps p.tables e below (s₁.setTop (mkF m 0 #[.val (.long p1), .second, .unset, .unset, .unset, .unset] [])) tG := by
                      intro tG kG
                      refine G379 _ ?_
                      refine own_ifYes X0.here hx 30 38 rfl (hb hby d31_30) ((if0 _ _).trans (flt hc30).2.2.2) (by decide) (by decide) ?_
                      refine X0.ldc2Long hx hown (mvT hZ (own_w hw 196 rfl)) (g := (mkF m 38 #[.val (.long (-p1)), .second, .val (.int 0), .val (.long (-100000000)), .second, .val (.int 8)] [])) rfl (hb hby d31_38) _ ?_
                      show Steps p.tables e below (s₁.setTop (mkF m 41 #[.val (.long (-p1)), .second, .val (.int 0), .val (.long (-100000000)), .second, .val (.int 8)] [(.long 10)])) _
                      refine own_lloadN X0.here hx (hb hby d31_41) rfl ?_
                      refine own_lmul X0.here hx (hb hby d31_42) ?_
                      show Steps p.tables e below (s₁.setTop (mkF m 43 #[.val (.long (-p1)), .second, .val (.int 0), .val (.long (-100000000)), .second, .val (.int 8)] [(.long (-1000000000))])) _
                      refine own_lstoreN X0.here hx (hb hby d31_43) (l' := #[.val (.long (-p1)), .second, .val (.int 0), .val (.long (-1000000000)), .second, .val (.int 8)]) rfl ?_
                      refine own_iinc X0.here hx (1 : Int32) (hb hby d31_44) rfl rfl (l' := #[.val (.long (-p1)), .second, .val (.int 0), .val (.long (-1000000000)), .second, .val (.int 9)]) rfl ?_
                      refine own_goto X0.here hx 47 20 rfl (hb hby d31_47) (by decide) (by decide) ?_
                      refine own_iload X0.here hx (hb hby d31_20) rfl ?_
                      refine own_bipush X0.here hx (19 : Int32) (hb hby d31_22) rfl ?_
                      refine own_icmpNo X0.here hx (hb hby d31_24) (tlt (by decide : (9 : Int32) < (19 : Int32))).2.1 ?_
                      refine own_lloadN X0.here hx (hb hby d31_27) rfl ?_
                      refine own_lloadN X0.here hx (hb hby d31_28) rfl ?_
                      refine own_lcmp X0.here hx (hb hby d31_29) ?_
                      exact kG
                    by_cases hc30 : (0 : Int32) < (lcmpW (-p1) (-1000000000 : Int64))
                    · obtain ⟨fs, hr, hrun, hended, hW, hsame⟩ := X0.leave (v := some (.int 9)) (fun h => by rw [Bd.returns] at h; cases h)
                      refine ⟨_, _, pre0 _ ?_, hrun, hended, _, _, rfl, ?_, ⟨_, rfl⟩, hW, hsame.mono (by decide) (by decide)⟩
                      · refine G380 _ ?_
                        refine own_ifNo X0.here hx (hb hby d31_30) ((if0 _ _).trans (tlt hc30).2.2.2) ?_
                        refine own_iload X0.here hx (hb hby d31_33) rfl ?_
                        refine own_iloadN X0.here hx (hb hby d31_35) rfl ?_
                        refine own_iadd X0.here hx (hb hby d31_36) ?_
                        show Steps p.tables e below (s₁.setTop (mkF m 37 #[.val (.long (-p1)), .second, .val (.int 0), .val (.long (-1000000000)), .second, .val (.int 9)] [(.int 9)])) _
                        exact retI X0 hx Bd.returns (hb hby d31_37) hr
                      · show QSS Z p1 h0 n0 _ s₁.heap _
                        rw [e0]
                        exact ⟨_, rfl, N0, rfl, (own_ssP (p := (-1000000000 : Int64)) hc5 hc30 (by decide) (by decide) (by decide +kernel))⟩
                    · have G381 : ∀ tG, Steps p.tables e below (s₁.setTop (mkF m 30 #[.val (.long (-p1)), .second, .val (.int 0), .val (.long (-10000000000)), .second, .val (.int 10)] [(.int (lcmpW (-p1) (-10000000000 : Int64)))])) tG → Steps p.tables e below (s₁.setTop (mkF m 0 #[.val (.long p1), .second, .unset, .unset, .unset, .unset] [])) tG := by
                        intro tG kG
                        refine G380 _ ?_
                        refine own_ifYes X0.here hx 30 38 rfl (hb hby d31_30) ((if0 _ _).trans (flt hc30).2.2.2) (by decide) (by decide) ?_
                        refine X0.ldc2Long hx hown (mvT hZ (own_w hw 196 rfl)) (g := (mkF m 38 #[.val (.long (-p1)), .second, .val (.int 0), .val (.long (-1000000000)), .second, .val (.int 9)] [])) rfl (hb hby d31_38) _ ?_
                        show Steps p.tables e below (s₁.setTop (mkF m 41 #[.val (.long (-p1)), .second, .val (.int 0), .val (.long (-1000000000)), .second, .val (.int 9)] [(.long 10)])) _
                        refine own_lloadN X0.here hx (hb hby d31_41) rfl ?_
                        refine own_lmul X0.here hx (hb hby d31_42) ?_
                        show Steps p.tables e below (s₁.setTop (mkF m 43 #[.val (.long (-p1)), .second, .val (.int 0), .val (.long (-1000000000)), .second, .val (.int 9)] [(.long (-10000000000))])) _
                        refine own_lstoreN X0.here hx (hb hby d31_43) (l' := #[.val (.long (-p1)), .second, .val (.int 0), .val (.long (-10000000000)), .second, .val (.int 9)]) rfl ?_
                        refine own_iinc X0.here hx (1 : Int32) (hb hby d31_44) rfl rfl (l' := #[.val (.long (-p1)), .second, .val (.int 0), .val (.long (-10000000000)), .second, .val (.int 10)]) rfl ?_
                        refine own_goto X0.here hx 47 20 rfl (hb hby d31_47) (by decide) (by decide) ?_
                        refine own_iload X0.here hx (hb hby d31_20) rfl ?_
                        refine own_bipush X0.here hx (19 : Int32) (hb hby d31_22) rfl ?_
                        refine own_icmpNo X0.here hx (hb hby d31_24) (tlt (by decide : (10 : Int32) < (19 : Int32))).2.1 ?_
                        refine own_lloadN X0.here hx (hb hby d31_27) rfl ?_
                        refine own_lloadN X0.here hx (hb hby d31_28) rfl ?_
                        refine own_lcmp X0.here hx (hb hby d31_29) ?_
                        exact kG
                      by_cases hc30 : (0 : Int32) < (lcmpW (-p1) (-10000000000 : Int64))
                      · obtain ⟨fs, hr, hrun, hended, hW, hsame⟩ := X0.leave (v := some (.int 10)) (fun h => by rw [Bd.returns] at h; cases h)
                        refine ⟨_, _, pre0 _ ?_, hrun, hended, _, _, rfl, ?_, ⟨_, rfl⟩, hW, hsame.mono (by decide) (by decide)⟩
                        · refine G381 _ ?_
                          refine own_ifNo X0.here hx (hb hby d31_30) ((if0 _ _).trans (tlt hc30).2.2.2) ?_
                          refine own_iload X0.here hx (hb hby d31_33) rfl ?_
                          refine own_iloadN X0.here hx (hb hby d31_35) rfl ?_
                          refine own_iadd X0.here hx (hb hby d31_36) ?_
                          show Steps p.tables e below (s₁.setTop (mkF m 37 #[.val (.long (-p1)), .second, .val (.int 0), .val (.long (-10000000000)), .second, .val (.int 10)] [(.int 10)])) _
                          exact retI X0 hx Bd.returns (hb hby d31_37) hr
                        · show QSS Z p1 h0 n0 _ s₁.heap _
                          rw [e0]
                          exact ⟨_, rfl, N0, rfl, (own_ssP (p := (-10000000000 : Int64)) hc5 hc30 (by decide) (by decide) (by decide +kernel))⟩
                      · have G382 : ∀ tG, Steps p.tables e below (s₁.setTop (mkF m 30 #[.val (.long (-p1)), .second, .val (.int 0), .val (.long (-100000000000)), .second, .val (.int 11)] [(.int (lcmpW (-p1) (-100000000000 : Int64)))])) tG → Steps p.tables e below (s₁.setTop (mkF m 0 #[.val (.long p1), .second, .unset, .unset, .unset, .unset] [])) tG := by
                          intro tG kG
                          refine G381 _ ?_
                          refine own_ifYes X0.here hx 30 38 rfl (hb hby d31_30) ((if0 _ _).trans (flt hc30).2.2.2) (by decide) (by decide) ?_
                          refine X0.ldc2Long hx hown (mvT hZ (own_w hw 196 rfl)) (g := (mkF m 38 #[.val (.long (-p1)), .second, .val (.int 0), .val (.long (-10000000000)), .second, .val (.int 10)] [])) rfl (hb hby d31_38) _ ?_
                          show Steps p.tables e below (s₁.setTop (mkF m 41 #[.val (.long (-p1)), .second, .val (.int 0), .val (.long (-10000000000)), .second, .val (.int 10)] [(.long 10)])) _
                          refine own_lloadN X0.here hx (hb hby d31_41) rfl ?_
                          refine own_lmul X0.here hx (hb hby d31_42) ?_
                          show Steps p.tables e below (s₁.setTop (mkF m 43 #[.val (.long (-p1)), .second, .val (.int 0), .val (.long (-10000000000)), .second, .val (.int 10)] [(.long (-100000000000))])) _
                          refine own_lstoreN X0.here hx (hb hby d31_43) (l' := #[.val (.long (-p1)), .second, .val (.int 0), .val (.long (-100000000000)), .second, .val (.int 10)]) rfl ?_
                          refine own_iinc X0.here hx (1 : Int32) (hb hby d31_44) rfl rfl (l' := #[.val (.long (-p1)), .second, .val (.int 0), .val (.long (-100000000000)), .second, .val (.int 11)]) rfl ?_
                          refine own_goto X0.here hx 47 20 rfl (hb hby d31_47) (by decide) (by decide) ?_
                          refine own_iload X0.here hx (hb hby d31_20) rfl ?_
                          refine own_bipush X0.here hx (19 : Int32) (hb hby d31_22) rfl ?_
                          refine own_icmpNo X0.here hx (hb hby d31_24) (tlt (by decide : (11 : Int32) < (19 : Int32))).2.1 ?_
                          refine own_lloadN X0.here hx (hb hby d31_27) rfl ?_
                          refine own_lloadN X0.here hx (hb hby d31_28) rfl ?_
                          refine own_lcmp X0.here hx (hb hby d31_29) ?_
                          exact kG
                        by_cases hc30 : (0 : Int32) < (lcmpW (-p1) (-100000000000 : Int64))
                        · obtain ⟨fs, hr, hrun, hended, hW, hsame⟩ := X0.leave (v := some (.int 11)) (fun h => by rw [Bd.returns] at h; cases h)
                          refine ⟨_, _, pre0 _ ?_, hrun, hended, _, _, rfl, ?_, ⟨_, rfl⟩, hW, hsame.mono (by decide) (by decide)⟩
                          · refine G382 _ ?_
                            refine own_ifNo X0.here hx (hb hby d31_30) ((if0 _ _).trans (tlt hc30).2.2.2) ?_
                            refine own_iload X0.here hx (hb hby d31_33) rfl ?_
                            refine own_iloadN X0.here hx (hb hby d31_35) rfl ?_
                            refine own_iadd X0.here hx (hb hby d31_36) ?_
                            show Steps p.tables e below (s₁.setTop (mkF m 37 #[.val (.long (-p1)), .second, .val (.int 0), .val (.long (-100000000000)), .second, .val (.int 11)] [(.int 11)])) _
                            exact retI X0 hx Bd.returns (hb hby d31_37) hr
                          · show QSS Z p1 h0 n0 _ s₁.heap _
                            rw [e0]
                            exact ⟨_, rfl, N0, rfl, (own_ssP (p := (-100000000000 : Int64)) hc5 hc30 (by decide) (by decide) (by decide +kernel))⟩
                        · have G383 : ∀ tG, Steps p.tables e below (s₁.setTop (mkF m 30 #[.val (.long (-p1)), .second, .val (.int 0), .val (.long (-1000000000000)), .second, .val (.int 12)] [(.int (lcmpW (-p1) (-1000000000000 : Int64)))])) tG → Steps p.tables e below (s₁.setTop (mkF m 0 #[.val (.long p1), .second, .unset, .unset, .unset, .unset] [])) tG := by
                            intro tG kG
                            refine G382 _ ?_
                            refine own_ifYes X0.here hx 30 38 rfl (hb hby d31_30) ((if0 _ _).trans (flt hc30).2.2.2) (by decide) (by decide) ?_
                            refine X0.ldc2Long hx hown (mvT hZ (own_w hw 196 rfl)) (g := (mkF m 38 #[.val (.long (-p1)), .second, .val (.int 0), .val (.long (-100000000000)), .second, .val (.int 11)] [])) rfl (hb hby d31_38) _ ?_
                            show Steps p.tables e below (s₁.setTop (mkF m 41 #[.val (.long (-p1)), .second, .val (.int 0), .val (.long (-100000000000)), .second, .val (.int 11)] [(.long 10)])) _
                            refine own_lloadN X0.here hx (hb hby d31_41) rfl ?_
                            refine own_lmul X0.here hx (hb hby d31_42) ?_
                            show Steps p.tables e below (s₁.setTop (mkF m 43 #[.val (.long (-p1)), .second, .val (.int 0), .val (.long (-100000000000)), .second, .val (.int 11)] [(.long (-1000000000000))])) _
                            refine own_lstoreN X0.here hx (hb hby d31_43) (l' := #[.val (.long (-p1)), .second, .val (.int 0), .val (.long (-1000000000000)), .second, .val (.int 11)]) rfl ?_
                            refine own_iinc X0.here hx (1 : Int32) (hb hby d31_44) rfl rfl (l' := #[.val (.long (-p1)), .second, .val (.int 0), .val (.long (-1000000000000)), .second, .val (.int 12)]) rfl ?_
                            refine own_goto X0.here hx 47 20 rfl (hb hby d31_47) (by decide) (by decide) ?_
                            refine own_iload X0.here hx (hb hby d31_20) rfl ?_
                            refine own_bipush X0.here hx (19 : Int32) (hb hby d31_22) rfl ?_
                            refine own_icmpNo X0.here hx (hb hby d31_24) (tlt (by decide : (12 : Int32) < (19 : Int32))).2.1 ?_
                            refine own_lloadN X0.here hx (hb hby d31_27) rfl ?_
                            refine own_lloadN X0.here hx (hb hby d31_28) rfl ?_
                            refine own_lcmp X0.here hx (hb hby d31_29) ?_
                            exact kG
                          by_cases hc30 : (0 : Int32) < (lcmpW (-p1) (-1000000000000 : Int64))
                          · obtain ⟨fs, hr, hrun, hended, hW, hsame⟩ := X0.leave (v := some (.int 12)) (fun h => by rw [Bd.returns] at h; cases h)
                            refine ⟨_, _, pre0 _ ?_, hrun, hended, _, _, rfl, ?_, ⟨_, rfl⟩, hW, hsame.mono (by decide) (by decide)⟩
                            · refine G383 _ ?_
                              refine own_ifNo X0.here hx (hb hby d31_30) ((if0 _ _).trans (tlt hc30).2.2.2) ?_
                              refine own_iload X0.here hx (hb hby d31_33) rfl ?_
                              refine own_iloadN X0.here hx (hb hby d31_35) rfl ?_
                              refine own_iadd X0.here hx (hb hby d31_36) ?_
                              show Steps p.tables e below (s₁.setTop (mkF m 37 #[.val (.long (-p1)), .second, .val (.int 0), .val (.long (-1000000000000)), .second, .val (.int 12)] [(.int 12)])) _
                              exact retI X0 hx Bd.returns (hb hby d31_37) hr
                            · show QSS Z p1 h0 n0 _ s₁.heap _
                              rw [e0]
                              exact ⟨_, rfl, N0, rfl, (own_ssP (p := (-1000000000000 : Int64)) hc5 hc30 (by decide) (by decide) (by decide +kernel))⟩
                          · have G384 : ∀ tG, Steps p.tables e below (s₁.setTop (mkF m 30 #[.val (.long (-p1)), .second, .val (.int 0), .val (.long (-10000000000000)), .second, .val (.int 13)] [(.int (lcmpW (-p1) (-10000000000000 : Int64)))])) tG → Steps p.tables e below (s₁.setTop (mkF m 0 #[.val (.long p1), .second, .unset, .unset, .unset, .unset] [])) tG := by
                              intro tG kG
                              refine G383 _ ?_
                              refine own_ifYes X0.here hx 30 38 rfl (hb hby d31_30) ((if0 _ _).trans (flt hc30).2.2.2) (by decide) (by decide) ?_
                              refine X0.ldc2Long hx hown (mvT hZ (own_w hw 196 rfl)) (g := (mkF m 38 #[.val (.long (-p1)), .second, .val (.int 0), .val (.long (-1000000000000)), .second, .val (.int 12)] [])) rfl (hb hby d31_38) _ ?_
                              show Steps p.tables e below (s₁.setTop (mkF m 41 #[.val (.long (-p1)), .second, .val (.int 0), .val (.long (-1000000000000)), .second, .val (.int 12)] [(.long 10)])) _
                              refine own_lloadN X0.here hx (hb hby d31_41) rfl ?_
                              refine own_lmul X0.here hx (hb hby d31_42) ?_
                              show Steps p.tables e below (s₁.setTop (mkF m 43 #[.val (.long (-p1)), .second, .val (.int 0), .val (.long (-1000000000000)), .second, .val (.int 12)] [(.long (-10000000000000))])) _
                              refine own_lstoreN X0.here hx (hb hby d31_43) (l' := #[.val (.long (-p1)), .second, .val (.int 0), .val (.long (-10000000000000)), .second, .val (.int 12)]) rfl ?_
                              refine own_iinc X0.here hx (1 : Int32) (hb hby d31_44) rfl rfl (l' := #[.val (.long (-p1)), .second, .val (.int 0), .val (.long (-10000000000000)), .second, .val (.int 13)]) rfl ?_
                              refine own_goto X0.here hx 47 20 rfl (hb hby d31_47) (by decide) (by decide) ?_
                              refine own_iload X0.here hx (hb hby d31_20) rfl ?_
                              refine own_bipush X0.here hx (19 : Int32) (hb hby d31_22) rfl ?_
                              refine own_icmpNo X0.here hx (hb hby d31_24) (tlt (by decide : (13 : Int32) < (19 : Int32))).2.1 ?_
                              refine own_lloadN X0.here hx (hb hby d31_27) rfl ?_
                              refine own_lloadN X0.here hx (hb hby d31_28) rfl ?_
                              refine own_lcmp X0.here hx (hb hby d31_29) ?_
                              exact kG
                            by_cases hc30 : (0 : Int32) < (lcmpW (-p1) (-10000000000000 : Int64))
                            · obtain ⟨fs, hr, hrun, hended, hW, hsame⟩ := X0.leave (v := some (.int 13)) (fun h => by rw [Bd.returns] at h; cases h)
                              refine ⟨_, _, pre0 _ ?_, hrun, hended, _, _, rfl, ?_, ⟨_, rfl⟩, hW, hsame.mono (by decide) (by decide)⟩
                              · refine G384 _ ?_
                                refine own_ifNo X0.here hx (hb hby d31_30) ((if0 _ _).trans (tlt hc30).2.2.2) ?_
                                refine own_iload X0.here hx (hb hby d31_33) rfl ?_
                                refine own_iloadN X0.here hx (hb hby d31_35) rfl ?_
                                refine own_iadd X0.here hx (hb hby d31_36) ?_
                                show Steps p.tables e below (s₁.setTop (mkF m 37 #[.val (.long (-p1)), .second, .val (.int 0), .val (.long (-10000000000000)), .second, .val (.int 13)] [(.int 13)])) _
                                exact retI X0 hx Bd.returns (hb hby d31_37) hr
                              · show QSS Z p1 h0 n0 _ s₁.heap _
                                rw [e0]
                                exact ⟨_, rfl, N0, rfl, (own_ssP (p := (-10000000000000 : Int64)) hc5 hc30 (by decide) (by decide) (by decide +kernel))⟩
                            · have G385 : ∀ tG, Steps p.tables e below (s₁.setTop (mkF m 30 #[.val (.long (-p1)), .second, .val (.int 0), .val (.long (-100000000000000)), .second, .val (.int 14)] [(.int (lcmpW (-p1) (-100000000000000 : Int64)))])) tG → Steps p.tables e below (s₁.setTop (mkF m 0 #[.val (.long p1), .second, .unset, .unset, .unset, .unset] [])) tG := by
                                intro tG kG
                                refine G384 _ ?_
                                refine own_ifYes X0.here hx 30 38 rfl (hb hby d31_30) ((if0 _ _).trans (flt hc30).2.2.2) (by decide) (by decide) ?_
                                refine X0.ldc2Long hx hown (mvT hZ (own_w hw 196 rfl)) (g := (mkF m 38 #[.val (.long (-p1)), .second, .val (.int 0), .val (.long (-10000000000000)), .second, .val (.int 13)] [])) rfl (hb hby d31_38) _ ?_
                                show Steps p.tables e below (s₁.setTop (mkF m 41 #[.val (.long (-p1)), .second, .val (.int 0), .val (.long (-10000000000000)), .second, .val (.int 13)] [(.long 10)])) _
                                refine own_lloadN X0.here hx (hb hby d31_41) rfl ?_
                                refine own_lmul X0.here hx (hb hby d31_42) ?_
                                show Steps p.tables e below (s₁.setTop (mkF m 43 #[.val (.long (-p1)), .second, .val (.int 0), .val (.long (-10000000000000)), .second, .val (.int 13)] [(.long (-100000000000000))])) _
                                refine own_lstoreN X0.here hx (hb hby d31_43) (l' := #[.val (.long (-p1)), .second, .val (.int 0), .val (.long (-100000000000000)), .second, .val (.int 13)]) rfl ?_
                                refine own_iinc X0.here hx (1 : Int32) (hb hby d31_44) rfl rfl (l' := #[.val (.long (-p1)), .second, .val (.int 0), .val (.long (-100000000000000)), .second, .val (.int 14)]) rfl ?_
                                refine own_goto X0.here hx 47 20 rfl (hb hby d31_47) (by decide) (by decide) ?_
                                refine own_iload X0.here hx (hb hby d31_20) rfl ?_
                                refine own_bipush X0.here hx (19 : Int32) (hb hby d31_22) rfl ?_
                                refine own_icmpNo X0.here hx (hb hby d31_24) (tlt (by decide : (14 : Int32) < (19 : Int32))).2.1 ?_
                                refine own_lloadN X0.here hx (hb hby d31_27) rfl ?_
                                refine own_lloadN X0.here hx (hb hby d31_28) rfl ?_
                                refine own_lcmp X0.here hx (hb hby d31_29) ?_
                                exact kG
                              by_cases hc30 : (0 : Int32) < (lcmpW (-p1) (-100000000000000 : Int64))
                              · obtain ⟨fs, hr, hrun, hended, hW, hsame⟩ := X0.leave (v := some (.int 14)) (fun h => by rw [Bd.returns] at h; cases h)
                                refine ⟨_, _, pre0 _ ?_, hrun, hended, _, _, rfl, ?_, ⟨_, rfl⟩, hW, hsame.mono (by decide) (by decide)⟩
                                · refine G385 _ ?_
                                  refine own_ifNo X0.here hx (hb hby d31_30) ((if0 _ _).trans (tlt hc30).2.2.2) ?_
                                  refine own_iload X0.here hx (hb hby d31_33) rfl ?_
                                  refine own_iloadN X0.here hx (hb hby d31_35) rfl ?_
                                  refine own_iadd X0.here hx (hb hby d31_36) ?_
                                  show Steps p.tables e below (s₁.setTop (mkF m 37 #[.val (.long (-p1)), .second, .val (.int 0), .val (.long (-100000000000000)), .second, .val (.int 14)] [(.int 14)])) _
                                  exact retI X0 hx Bd.returns (hb hby d31_37) hr
                                · show QSS Z p1 h0 n0 _ s₁.heap _
                                  rw [e0]
                                  exact ⟨_, rfl, N0, rfl, (own_ssP (p := (-100000000000000 : Int64)) hc5 hc30 (by decide) (by decide) (by decide +kernel))⟩
                              · have G386 : ∀ tG, Steps p.tables e below (s₁.setTop (mkF m 30 #[.val (.long (-p1)), .second, .val (.int 0), .val (.long (-1000000000000000)), .second, .val (.int 15)] [(.int (lcmpW (-p1) (-1000000000000000 : Int64)))])) tG → Steps p.tables e below (s₁.setTop (mkF m 0 #[.val (.long p1), .second, .unset, .unset, .unset, .unset] [])) tG := by
                                  intro tG kG
                                  refine G385 _ ?_
                                  refine own_ifYes X0.here hx 30 38 rfl (hb hby d31_30) ((if0 _ _).trans (flt hc30).2.2.2) (by decide) (by decide) ?_
                                  refine X0.ldc2Long hx hown (mvT hZ (own_w hw 196 rfl)) (g := (mkF m 38 #[.val (.long (-p1)), .second, .val (.int 0), .val (.long (-100000000000000)), .second, .val (.int 14)] [])) rfl (hb hby d31_38) _ ?_
                                  show Steps p.tables e below (s₁.setTop (mkF m 41 #[.val (.long (-p1)), .second, .val (.int 0), .val (.long (-100000000000000)), .second, .val (.int 14)] [(.long 10)])) _
                                  refine own_lloadN X0.here hx (hb hby d31_41) rfl ?_
                                  refine own_lmul X0.here hx (hb hby d31_42) ?_
                                  show Steps p.tables e below (s₁.setTop (mkF m 43 #[.val (.long (-p1)), .second, .val (.int 0), .val (.long (-100000000000000)), .second, .val (.int 14)] [(.long (-1000000000000000))])) _
                                  refine own_lstoreN X0.here hx (hb hby d31_43) (l' := #[.val (.long (-p1)), .second, .val (.int 0), .val (.long (-1000000000000000)), .second, .val (.int 14)]) rfl ?_
                                  refine own_iinc X0.here hx (1 : Int32) (hb hby d31_44) rfl rfl (l' := #[.val (.long (-p1)), .second, .val (.int 0), .val (.long (-1000000000000000)), .second, .val (.int 15)]) rfl ?_
                                  refine own_goto X0.here hx 47 20 rfl (hb hby d31_47) (by decide) (by decide) ?_
                                  refine own_iload X0.here hx (hb hby d31_20) rfl ?_
                                  refine own_bipush X0.here hx (19 : Int32) (hb hby d31_22) rfl ?_
                                  refine own_icmpNo X0.here hx (hb hby d31_24) (tlt (by decide : (15 : Int32) < (19 : Int32))).2.1 ?_
                                  refine own_lloadN X0.here hx (hb hby d31_27) rfl ?_
                                  refine own_lloadN X0.here hx (hb hby d31_28) rfl ?_
                                  refine own_lcmp X0.here hx (hb hby d31_29) ?_
                                  exact kG
                                by_cases hc30 : (0 : Int32) < (lcmpW (-p1) (-1000000000000000 : Int64))
                                · obtain ⟨fs, hr, hrun, hended, hW, hsame⟩ := X0.leave (v := some (.int 15)) (fun h => by rw [Bd.returns] at h; cases h)
                                  refine ⟨_, _, pre0 _ ?_, hrun, hended, _, _, rfl, ?_, ⟨_, rfl⟩, hW, hsame.mono (by decide) (by decide)⟩
                                  · refine G386 _ ?_
                                    refine own_ifNo X0.here hx (hb hby d31_30) ((if0 _ _).trans (tlt hc30).2.2.2) ?_
                                    refine own_iload X0.here hx (hb hby d31_33) rfl ?_
                                    refine own_iloadN X0.here hx (hb hby d31_35) rfl ?_
                                    refine own_iadd X0.here hx (hb hby d31_36) ?_
                                    show Steps p.tables e below (s₁.setTop (mkF m 37 #[.val (.long (-p1)), .second, .val (.int 0), .val (.long (-1000000000000000)), .second, .val (.int 15)] [(.int 15)])) _
                                    exact retI X0 hx Bd.returns (hb hby d31_37) hr
                                  · show QSS Z p1 h0 n0 _ s₁.heap _
                                    rw [e0]
                                    exact ⟨_, rfl, N0, rfl, (own_ssP (p := (-1000000000000000 : Int64)) hc5 hc30 (by decide) (by decide) (by decide +kernel))⟩
                                · have G387 : ∀ tG, Steps p.tables e below (s₁.setTop (mkF m 30 #[.val (.long (-p1)), .second, .val (.int 0), .val (.long (-10000000000000000)), .second, .val (.int 16)] [(.int (lcmpW (-p1) (-10000000000000000 : Int64)))])) tG → Steps p.tables e below (s₁.setTop (mkF m 0 #[.val (.long p1), .second, .unset, .unset, .unset, .unset] [])) tG := by
                                    intro tG kG
                                    refine G386 _ ?_
                                    refine own_ifYes X0.here hx 30 38 rfl (hb hby d31_30) ((if0 _ _).trans (flt hc30).2.2.2) (by decide) (by decide) ?_
                                    refine X0.ldc2Long hx hown (mvT hZ (own_w hw 196 rfl)) (g := (mkF m 38 #[.val (.long (-p1)), .second, .val (.int 0), .val (.long (-1000000000000000)), .second, .val (.int 15)] [])) rfl (hb hby d31_38) _ ?_
                                    show Steps p.tables e below (s₁.setTop (mkF m 41 #[.val (.long (-p1)), .second, .val (.int 0), .val (.long (-1000000000000000)), .second, .val (.int 15)] [(.long 10)])) _
                                    refine own_lloadN X0.here hx (hb hby d31_41) rfl ?_
                                    refine own_lmul X0.here hx (hb hby d31_42) ?_
                                    show Steps p.tables e below (s₁.setTop (mkF m 43 #[.val (.long (-p1)), .second, .val (.int 0), .val (.long (-1000000000000000)), .second, .val (.int 15)] [(.long (-10000000000000000))])) _
                                    refine own_lstoreN X0.here hx (hb hby d31_43) (l' := #[.val (.long (-p1)), .second, .val (.int 0), .val (.long (-10000000000000000)), .second, .val (.int 15)]) rfl ?_
                                    refine own_iinc X0.here hx (1 : Int32) (hb hby d31_44) rfl rfl (l' := #[.val (.long (-p1)), .second, .val (.int 0), .val (.long (-10000000000000000)), .second, .val (.int 16)]) rfl ?_
                                    refine own_goto X0.here hx 47 20 rfl (hb hby d31_47) (by decide) (by decide) ?_
                                    refine own_iload X0.here hx (hb hby d31_20) rfl ?_
                                    refine own_bipush X0.here hx (19 : Int32) (hb hby d31_22) rfl ?_
                                    refine own_icmpNo X0.here hx (hb hby d31_24) (tlt (by decide : (16 : Int32) < (19 : Int32))).2.1 ?_
                                    refine own_lloadN X0.here hx (hb hby d31_27) rfl ?_
                                    refine own_lloadN X0.here hx (hb hby d31_28) rfl ?_
                                    refine own_lcmp X0.here hx (hb hby d31_29) ?_
                                    exact kG
                                  by_cases hc30 : (0 : Int32) < (lcmpW (-p1) (-10000000000000000 : Int64))
                                  · obtain ⟨fs, hr, hrun, hended, hW, hsame⟩ := X0.leave (v := some (.int 16)) (fun h => by rw [Bd.returns] at h; cases h)
                                    refine ⟨_, _, pre0 _ ?_, hrun, hended, _, _, rfl, ?_, ⟨_, rfl⟩, hW, hsame.mono (by decide) (by decide)⟩
                                    · refine G387 _ ?_
                                      refine own_ifNo X0.here hx (hb hby d31_30) ((if0 _ _).trans (tlt hc30).2.2.2) ?_
                                      refine own_iload X0.here hx (hb hby d31_33) rfl ?_
                                      refine own_iloadN X0.here hx (hb hby d31_35) rfl ?_
                                      refine own_iadd X0.here hx (hb hby d31_36) ?_
                                      show Steps p.tables e below (s₁.setTop (mkF m 37 #[.val (.long (-p1)), .second, .val (.int 0), .val (.long (-10000000000000000)), .second, .val (.int 16)] [(.int 16)])) _
                                      exact retI X0 hx Bd.returns (hb hby d31_37) hr
                                    · show QSS Z p1 h0 n0 _ s₁.heap _
                                      rw [e0]
                                      exact ⟨_, rfl, N0, rfl, (own_ssP (p := (-10000000000000000 : Int64)) hc5 hc30 (by decide) (by decide) (by decide +kernel))⟩
                                  · have G388 : ∀ tG, Steps p.tables e below (s₁.setTop (mkF m 30 #[.val (.long (-p1)), .second, .val (.int 0), .val (.long (-100000000000000000)), .second, .val (.int 17)] [(.int (lcmpW (-p1) (-100000000000000000 : Int64)))])) tG → Steps p.tables e below (s₁.setTop (mkF m 0 #[.val (.long p1), .second, .unset, .unset, .unset, .unset] [])) tG := by
                                      intro tG kG
                                      refine G387 _ ?_
                                      refine own_ifYes X0.here hx 30 38 rfl (hb hby d31_30) ((if0 _ _).trans (flt hc30).2.2.2) (by decide) (by decide) ?_
                                      refine X0.ldc2Long hx hown (mvT hZ (own_w hw 196 rfl)) (g := (mkF m 38 #[.val (.long (-p1)), .second, .val (.int 0), .val (.long (-10000000000000000)), .second, .val (.int 16)] [])) rfl (hb hby d31_38) _ ?_
                                      show Steps p.tables e below (s₁.setTop (mkF m 41 #[.val (.long (-p1)), .second, .val (.int 0), .val (.long (-10000000000000000)), .second, .val (.int 16)] [(.long 10)])) _
                                      refine own_lloadN X0.here hx (hb hby d31_41) rfl ?_
                                      refine own_lmul X0.here hx (hb hby d31_42) ?_
                                      show Steps p.tables e below (s₁.setTop (mkF m 43 #[.val (.long (-p1)), .second, .val (.int 0), .val (.long (-10000000000000000)), .second, .val (.int 16)] [(.long (-100000000000000000))])) _
                                      refine own_lstoreN X0.here hx (hb hby d31_43) (l' := #[.val (.long (-p1)), .second, .val (.int 0), .val (.long (-100000000000000000)), .second, .val (.int 16)]) rfl ?_
                                      refine own_iinc X0.here hx (1 : Int32) (hb hby d31_44) rfl rfl (l' := #[.val (.long (-p1)), .second, .val (.int 0), .val (.long (-100000000000000000)), .second, .val (.int 17)]) rfl ?_
                                      refine own_goto X0.here hx 47 20 rfl (hb hby d31_47) (by decide) (by decide) ?_
                                      refine own_iload X0.here hx (hb hby d31_20) rfl ?_
                                      refine own_bipush X0.here hx (19 : Int32) (hb hby d31_22) rfl ?_
                                      refine own_icmpNo X0.here hx (hb hby d31_24) (tlt (by decide : (17 : Int32) < (19 : Int32))).2.1 ?_
                                      refine own_lloadN X0.here hx (hb hby d31_27) rfl ?_
                                      refine own_lloadN X0.here hx (hb hby d31_28) rfl ?_
                                      refine own_lcmp X0.here hx (hb hby d31_29) ?_
                                      exact kG
                                    by_cases hc30 : (0 : Int32) < (lcmpW (-p1) (-100000000000000000 : Int64))
                                    · obtain ⟨fs, hr, hrun, hended, hW, hsame⟩ := X0.leave (v := some (.int 17)) (fun h => by rw [Bd.returns] at h; cases h)
                                      refine ⟨_, _, pre0 _ ?_, hrun, hended, _, _, rfl, ?_, ⟨_, rfl⟩, hW, hsame.mono (by decide) (by decide)⟩
                                      · refine G388 _ ?_
                                        refine own_ifNo X0.here hx (hb hby d31_30) ((if0 _ _).trans (tlt hc30).2.2.2) ?_
                                        refine own_iload X0.here hx (hb hby d31_33) rfl ?_
                                        refine own_iloadN X0.here hx (hb hby d31_35) rfl ?_
                                        refine own_iadd X0.here hx (hb hby d31_36) ?_
                                        show Steps p.tables e below (s₁.setTop (mkF m 37 #[.val (.long (-p1)), .second, .val (.int 0), .val (.long (-100000000000000000)), .second, .val (.int 17)] [(.int 17)])) _
                                        exact retI X0 hx Bd.returns (hb hby d31_37) hr
                                      · show QSS Z p1 h0 n0 _ s₁.heap _
                                        rw [e0]
                                        exact ⟨_, rfl, N0, rfl, (own_ssP (p := (-100000000000000000 : Int64)) hc5 hc30 (by decide) (by decide) (by decide +kernel))⟩
                                    · have G389 : ∀ tG, Steps p.tables e below (s₁.setTop (mkF m 30 #[.val (.long (-p1)), .second, .val (.int 0), .val (.long (-1000000000000000000)), .second, .val (.int 18)] [(.int (lcmpW (-p1) (-1000000000000000000 : Int64)))])) tG → Steps p.tables e below (s₁.setTop (mkF m 0 #[.val (.long p1), .second, .unset, .unset, .unset, .unset] [])) tG := by
                                        intro tG kG
                                        refine G388 _ ?_
                                        refine own_ifYes X0.here hx 30 38 rfl (hb hby d31_30) ((if0 _ _).trans (flt hc30).2.2.2) (by decide) (by decide) ?_
                                        refine X0.ldc2Long hx hown (mvT hZ (own_w hw 196 rfl)) (g := (mkF m 38 #[.val (.long (-p1)), .second, .val (.int 0), .val (.long (-100000000000000000)), .second, .val (.int 17)] [])) rfl (hb hby d31_38) _ ?_
                                        show Steps p.tables e below (s₁.setTop (mkF m 41 #[.val (.long (-p1)), .second, .val (.int 0), .val (.long (-100000000000000000)), .second, .val (.int 17)] [(.long 10)])) _
                                        refine own_lloadN X0.here hx (hb hby d31_41) rfl ?_
                                        refine own_lmul X0.here hx (hb hby d31_42) ?_
                                        show Steps p.tables e below (s₁.setTop (mkF m 43 #[.val (.long (-p1)), .second, .val (.int 0), .val (.long (-100000000000000000)), .second, .val (.int 17)] [(.long (-1000000000000000000))])) _
                                        refine own_lstoreN X0.here hx (hb hby d31_43) (l' := #[.val (.long (-p1)), .second, .val (.int 0), .val (.long (-1000000000000000000)), .second, .val (.int 17)]) rfl ?_
                                        refine own_iinc X0.here hx (1 : Int32) (hb hby d31_44) rfl rfl (l' := #[.val (.long (-p1)), .second, .val (.int 0), .val (.long (-1000000000000000000)), .second, .val (.int 18)]) rfl ?_
                                        refine own_goto X0.here hx 47 20 rfl (hb hby d31_47) (by decide) (by decide) ?_
                                        refine own_iload X0.here hx (hb hby d31_20) rfl ?_
                                        refine own_bipush X0.here hx (19 : Int32) (hb hby d31_22) rfl ?_
                                        refine own_icmpNo X0.here hx (hb hby d31_24) (tlt (by decide : (18 : Int32) < (19 : Int32))).2.1 ?_
                                        refine own_lloadN X0.here hx (hb hby d31_27) rfl ?_
                                        refine own_lloadN X0.here hx (hb hby d31_28) rfl ?_
                                        refine own_lcmp X0.here hx (hb hby d31_29) ?_
                                        exact kG
                                      by_cases hc30 : (0 : Int32) < (lcmpW (-p1) (-1000000000000000000 : Int64))
                                      · obtain ⟨fs, hr, hrun, hended, hW, hsame⟩ := X0.leave (v := some (.int 18)) (fun h => by rw [Bd.returns] at h; cases h)
                                        refine ⟨_, _, pre0 _ ?_, hrun, hended, _, _, rfl, ?_, ⟨_, rfl⟩, hW, hsame.mono (by decide) (by decide)⟩
                                        · refine G389 _ ?_
                                          refine own_ifNo X0.here hx (hb hby d31_30) ((if0 _ _).trans (tlt hc30).2.2.2) ?_
                                          refine own_iload X0.here hx (hb hby d31_33) rfl ?_
                                          refine own_iloadN X0.here hx (hb hby d31_35) rfl ?_
                                          refine own_iadd X0.here hx (hb hby d31_36) ?_
                                          show Steps p.tables e below (s₁.setTop (mkF m 37 #[.val (.long (-p1)), .second, .val (.int 0), .val (.long (-1000000000000000000)), .second, .val (.int 18)] [(.int 18)])) _
                                          exact retI X0 hx Bd.returns (hb hby d31_37) hr
                                        · show QSS Z p1 h0 n0 _ s₁.heap _
                                          rw [e0]
                                          exact ⟨_, rfl, N0, rfl, (own_ssP (p := (-1000000000000000000 : Int64)) hc5 hc30 (by decide) (by decide) (by decide +kernel))⟩
                                      · obtain ⟨fs, hr, hrun, hended, hW, hsame⟩ := X0.leave (v := some (.int 19)) (fun h => by rw [Bd.returns] at h; cases h)
                                        refine ⟨_, _, pre0 _ ?_, hrun, hended, _, _, rfl, ?_, ⟨_, rfl⟩, hW, hsame.mono (by decide) (by decide)⟩
                                        · refine G389 _ ?_
                                          refine own_ifYes X0.here hx 30 38 rfl (hb hby d31_30) ((if0 _ _).trans (flt hc30).2.2.2) (by decide) (by decide) ?_
                                          refine X0.ldc2Long hx hown (mvT hZ (own_w hw 196 rfl)) (g := (mkF m 38 #[.val (.long (-p1)), .second, .val (.int 0), .val (.long (-1000000000000000000)), .second, .val (.int 18)] [])) rfl (hb hby d31_38) _ ?_
                                          show Steps p.tables e below (s₁.setTop (mkF m 41 #[.val (.long (-p1)), .second, .val (.int 0), .val (.long (-1000000000000000000)), .second, .val (.int 18)] [(.long 10)])) _
                                          refine own_lloadN X0.here hx (hb hby d31_41) rfl ?_
                                          refine own_lmul X0.here hx (hb hby d31_42) ?_
                                          show Steps p.tables e below (s₁.setTop (mkF m 43 #[.val (.long (-p1)), .second, .val (.int 0), .val (.long (-1000000000000000000)), .second, .val (.int 18)] [(.long 8446744073709551616)])) _
                                          refine own_lstoreN X0.here hx (hb hby d31_43) (l' := #[.val (.long (-p1)), .second, .val (.int 0), .val (.long 8446744073709551616), .second, .val (.int 18)]) rfl ?_
                                          refine own_iinc X0.here hx (1 : Int32) (hb hby d31_44) rfl rfl (l' := #[.val (.long (-p1)), .second, .val (.int 0), .val (.long 8446744073709551616), .second, .val (.int 19)]) rfl ?_
                                          refine own_goto X0.here hx 47 20 rfl (hb hby d31_47) (by decide) (by decide) ?_
                                          refine own_iload X0.here hx (hb hby d31_20) rfl ?_
                                          refine own_bipush X0.here hx (19 : Int32) (hb hby d31_22) rfl ?_
                                          refine own_icmpYes X0.here hx 24 50 rfl (hb hby d31_24) (flt (by decide : ¬ ((19 : Int32) < (19 : Int32)))).2.1 (by decide) (by decide) ?_
                                          refine own_bipush X0.here hx (19 : Int32) (hb hby d31_50) rfl ?_
                                          refine own_iloadN X0.here hx (hb hby d31_52) rfl ?_
                                          refine own_iadd X0.here hx (hb hby d31_53) ?_
                                          show Steps p.tables e below (s₁.setTop (mkF m 54 #[.val (.long (-p1)), .second, .val (.int 0), .val (.long 8446744073709551616), .second, .val (.int 19)] [(.int 19)])) _
                                          exact retI X0 hx Bd.returns (hb hby d31_54) hr
                                        · show QSS Z p1 h0 n0 _ s₁.heap _
                                          rw [e0]
                                          exact ⟨_, rfl, N0, rfl, (own_ssPE hc5)⟩
theorem own_ind8 {G : Prop} {A B C D E F H I : Type} (μ : D → Nat) (P : A → B → C → D → E → F → H → I → Prop) (step : ∀ a b c d e f h i, P a b c d e f h i → (∀ a' b' c' d' e' f' h' i', μ d' < μ d → P a' b' c' d' e' f' h' i' → G) → G) (a : A) (b : B) (c : C) (d : D) (e : E) (f : F) (h : H) (i : I) (h0 : P a b c d e f h i) : G := by
  have key : ∀ n, ∀ a b c d e f h i, μ d < n → P a b c d e f h i → G := by
    intro n
    induction n with
    | zero => intro a b c d e f h i hn _; exact absurd hn (Nat.not_lt_zero _)
    | succ n ih => intro a b c d e f h i hn hp; exact step a b c d e f h i hp fun a' b' c' d' e' f' h' i' hl hp' => ih a' b' c' d' e' f' h' i' (by omega) hp'
  exact key _ a b c d e f h i (Nat.lt_succ_self _) h0
def own_S2 (a b : Slot) : Prop := (a = .unset ∧ b = .unset) ∨ ∃ y, a = .val (.long y) ∧ b = .second
def own_S1 (a : Slot) : Prop := a = .unset ∨ ∃ y, a = .val (.int y)
/-- the digits left of n (not above 0) and the sign fit ahead of the place q -/
def own_inv (n : Int) (q z : Int32) (sg : Int) : Prop := ∃ d : Nat, -(10 ^ d : Int) < n ∧ n ≤ 0 ∧ 1 ≤ d ∧ d + sg ≤ q.toInt ∧ q.toInt ≤ z.toInt ∧ 0 ≤ sg
theorem own_i0N {x : Int64} {k q z : Int32} (h : own_SS x k) (h1 : k.toInt ≤ q.toInt) (h2 : q.toInt ≤ z.toInt) (h6 : lcmpW x 0 < 0) : own_inv x.toInt q z 1 := by
  rw [lw_lt, own_p64] at h6
  have k0 : (0 : Int64).toInt = 0 := rfl
  rcases h with ⟨a, b, c, d⟩ | ⟨a, -⟩
  · exact ⟨k.toInt.toNat - 1, d, by omega, by omega, by omega, h2, by decide⟩
  · omega
theorem own_i0P {x : Int64} {k q z : Int32} (h : own_SS x k) (h1 : k.toInt ≤ q.toInt) (h2 : q.toInt ≤ z.toInt) (h6 : ¬ lcmpW x 0 < 0) : own_inv (-x).toInt q z 0 := by
  rw [lw_lt, own_p64] at h6
  have k0 : (0 : Int64).toInt = 0 := rfl
  rcases h with ⟨a, -⟩ | ⟨a, b, c, d⟩
  · omega
  · rw [own_negI a]; exact ⟨k.toInt.toNat, by omega, by omega, by omega, by omega, h2, by decide⟩
theorem own_m1 {q : Int32} (h : 1 ≤ q.toInt) : (q + (-1 : Int32)).toInt = q.toInt - 1 := by
  have := rng32 q
  have e : (-1 : Int32).toInt = -1 := rfl
  rw [own_add_toInt (by omega) (by omega), e]; omega
theorem own_pow2 (d : Nat) (h : 2 ≤ d) : (10 ^ d : Int) = 100 * 10 ^ (d - 2) := by
  obtain ⟨e, rfl⟩ : ∃ e, d = e + 2 := ⟨d - 2, by omega⟩
  rw [Nat.add_sub_cancel, Int.pow_succ, Int.pow_succ]; omega
theorem own_two {n : Int} {d : Nat} (h : -(10 ^ d : Int) < n) (hn : n ≤ -10) : 2 ≤ d := by
  rcases d with _ | _ | d
  · simp at h; omega
  · simp at h; omega
  · omega
theorem own_three {n : Int} {d : Nat} (h : -(10 ^ d : Int) < n) (hn : n ≤ -100) : 3 ≤ d := by
  rcases d with _ | _ | _ | d
  · simp at h; omega
  · simp at h; omega
  · simp at h; omega
  · omega
theorem own_step {m : Int} {d : Nat} (h : -(10 ^ d : Int) < -m) (hm : 100 ≤ m) : -(10 ^ (d - 2) : Int) < -(m / 100) ∧ 1 ≤ d - 2 := by
  have h3 := own_three h (by omega)
  have e := own_pow2 d (by omega)
  refine ⟨?_, by omega⟩
  rw [e] at h
  generalize (10 ^ (d - 2) : Int) = P at h ⊢
  omega
theorem own_qs {q z : Int32} {d : Nat} {sg : Int} (hd : 2 ≤ d) (h1 : d + sg ≤ q.toInt) (h2 : q.toInt ≤ z.toInt) (h3 : 0 ≤ sg) : ¬ (q + (-1 : Int32)) < 0 ∧ (q + (-1 : Int32)) < z ∧ ¬ ((q + (-1 : Int32)) + (-1 : Int32)) < 0 ∧ ((q + (-1 : Int32)) + (-1 : Int32)) < z ∧ ((q + (-1 : Int32)) + (-1 : Int32)).toInt = q.toInt - 2 := by
  have k0 : (0 : Int32).toInt = 0 := rfl
  have e1 := own_m1 (q := q) (by omega)
  have e2 := own_m1 (q := q + (-1 : Int32)) (by omega)
  refine ⟨?_, ?_, ?_, ?_, by omega⟩
  · rw [own_ltI, k0]; omega
  · rw [own_ltI]; omega
  · rw [own_ltI, k0]; omega
  · rw [own_ltI]; omega
theorem own_small {a b : Int} {M : Int} (h : (a - b) % M = 0) (h1 : -M < a - b) (h2 : a - b < M) : a = b := by
  have := Int.eq_zero_of_dvd_of_natAbs_lt_natAbs (Int.dvd_of_emod_eq_zero h) (by omega)
  omega
theorem own_mul64 (a b : Int64) (h1 : -9223372036854775808 ≤ a.toInt * b.toInt) (h2 : a.toInt * b.toInt < 9223372036854775808) : (a * b).toInt = a.toInt * b.toInt := by
  have r := rng64 (a * b); have c := c_lmul a b; generalize a.toInt * b.toInt = P at *; exact own_small c (by omega) (by omega)
theorem own_mul32 (a b : Int32) (h1 : -2147483648 ≤ a.toInt * b.toInt) (h2 : a.toInt * b.toInt < 2147483648) : (a * b).toInt = a.toInt * b.toInt := by
  have r := rng32 (a * b); have c := c_imul a b; generalize a.toInt * b.toInt = P at *; exact own_small c (by omega) (by omega)
theorem own_sub64 (a b : Int64) (h1 : -9223372036854775808 ≤ a.toInt - b.toInt) (h2 : a.toInt - b.toInt < 9223372036854775808) : (a - b).toInt = a.toInt - b.toInt := by
  have r := rng64 (a - b); have c := c_lsub a b; exact own_small c (by omega) (by omega)
theorem own_l2i64 (a : Int64) (h1 : -2147483648 ≤ a.toInt) (h2 : a.toInt < 2147483648) : a.toInt32.toInt = a.toInt := by
  have r := rng32 a.toInt32; have c := c_l2i a; exact own_small c (by omega) (by omega)
theorem own_pA {N : Int} (h : ¬ -2147483648 < N) (hr : -9223372036854775808 ≤ N) : (-9223372036854775808 ≤ -((-N) / 100) * 100 ∧ -((-N) / 100) * 100 < 9223372036854775808) ∧ (0 ≤ -((-N) / 100) * 100 - N ∧ -((-N) / 100) * 100 - N < 100) ∧ 100 ≤ -N ∧ -((-N) / 100) ≤ 0 ∧ (-(-((-N) / 100))).toNat < (-N).toNat := by
  refine ⟨⟨?_, ?_⟩, ⟨?_, ?_⟩, ?_, ?_, ?_⟩ <;> omega
theorem own_pA2 {N : Int} (h : ¬ -100 < N) (hr : -2147483648 ≤ N) : (-2147483648 ≤ -((-N) / 100) * 100 ∧ -((-N) / 100) * 100 < 2147483648) ∧ (0 ≤ -((-N) / 100) * 100 - N ∧ -((-N) / 100) * 100 - N < 100) ∧ 100 ≤ -N ∧ -((-N) / 100) ≤ 0 ∧ (-(-((-N) / 100))).toNat < (-N).toNat := by
  refine ⟨⟨?_, ?_⟩, ⟨?_, ?_⟩, ?_, ?_, ?_⟩ <;> omega
theorem own_pE {x : Int} (h0 : 0 ≤ x) (h1 : x < 100) : (-9223372036854775808 ≤ x ∧ x < 9223372036854775808) ∧ (-2147483648 ≤ x ∧ x < 2147483648) := by
  refine ⟨⟨?_, ?_⟩, ?_, ?_⟩ <;> omega
theorem own_pZ {N : Int} (h : 100 ≤ -N) : N < 0 := by omega
theorem own_pF {d : Nat} {q sg : Int} (h2 : 2 ≤ d) (h : d + sg ≤ q) : ((d - 2 : Nat) : Int) + sg ≤ q - 2 := by omega
theorem own_pG {q z : Int} (h : q ≤ z) : q - 2 ≤ z := by omega
theorem own_pH {d : Nat} (h : 1 ≤ d - 2) : 2 ≤ d := by omega
theorem own_pN {P N : Int} (h : -P < N) : -P < -(-N) := by omega
theorem own_pS {a b : Int} (r1 : -2147483648 ≤ a) (r2 : a < 2147483648) (s1 : 0 ≤ b) (s2 : b < 100) : -4294967296 < a - b ∧ a - b < 4294967296 := by omega
theorem own_pK {k : Int} (h : -100 < k) (h0 : k ≤ 0) : 0 ≤ -k ∧ -k < 100 := by omega
theorem own_pM {d : Nat} {q sg : Int} (a3 : 1 ≤ d) (a4 : d + sg ≤ q) (a6 : 0 ≤ sg) : 1 ≤ q := by omega
theorem own_pO {q z : Int} (h : 1 ≤ q) (h2 : q ≤ z) : 0 ≤ q - 1 ∧ q - 1 < z := by omega
theorem own_pQ {d : Nat} {q : Int} (hd : 2 ≤ d) (h : d + 1 ≤ q) : 1 ≤ q - 2 := by omega
theorem own_pR {q z : Int} (h : 1 ≤ q - 2) (h2 : q ≤ z) : 0 ≤ q - 2 - 1 ∧ q - 2 - 1 < z := by omega
theorem own_l100 {x : Int32} (h : x.toInt < 100) : x < (100 : Int32) := by rw [own_ltI, show (100 : Int32).toInt = 100 by decide]; exact h
theorem own_ng32 (k : Int32) (h : -100 < k.toInt) (h0 : k.toInt ≤ 0) : (-k).toInt = -k.toInt := by
  have p := own_pK h h0
  have s := own_pS (rng32 (-k)).1 (rng32 (-k)).2 p.1 p.2
  exact own_small (c_ineg k) s.1 s.2
theorem own_turn1 {n : Int64} {q z : Int32} {sg : Int} (zp : ¬ z < 0) (hi : own_inv n.toInt q z sg) (h : ¬ (0 : Int32) < lcmpW n (-2147483648 : Int64)) :
    ¬ (((n / (100 : Int64)) * (100 : Int64)) - n).toInt32 < 0 ∧ (((n / (100 : Int64)) * (100 : Int64)) - n).toInt32 < 100 ∧ ¬ (q + (-1 : Int32)) < 0 ∧ (q + (-1 : Int32)) < z ∧ ¬ ((q + (-1 : Int32)) + (-1 : Int32)) < 0 ∧ ((q + (-1 : Int32)) + (-1 : Int32)) < z ∧ own_inv (n / (100 : Int64)).toInt ((q + (-1 : Int32)) + (-1 : Int32)) z sg ∧ (-(n / (100 : Int64)).toInt).toNat < (-n.toInt).toNat := by
  rw [lw_gt, own_p64, show (-2147483648 : Int64).toInt = -2147483648 by decide] at h
  obtain ⟨d, a1, a2, a3, a4, a5, a6⟩ := hi
  obtain ⟨b1, b2, b3, b4, b5⟩ := own_pA h (rng64 n).1
  have kh : (100 : Int64).toInt = 100 := by decide
  have e1 : (n / (100 : Int64)).toInt = -((-n.toInt) / 100) := (c_ldiv n 100 100 kh (by decide)).2 (own_pZ b3)
  have e2 : ((n / (100 : Int64)) * (100 : Int64)).toInt = -((-n.toInt) / 100) * 100 := by
    have t := own_mul64 (n / (100 : Int64)) 100
    rw [kh, e1] at t
    exact t b1.1 b1.2
  have pe := own_pE b2.1 b2.2
  have e3 : (((n / (100 : Int64)) * (100 : Int64)) - n).toInt = -((-n.toInt) / 100) * 100 - n.toInt := by
    have t := own_sub64 ((n / (100 : Int64)) * (100 : Int64)) n
    rw [e2] at t
    exact t pe.1.1 pe.1.2
  have e5 : (((n / (100 : Int64)) * (100 : Int64)) - n).toInt32.toInt = -((-n.toInt) / 100) * 100 - n.toInt := by
    have t := own_l2i64 (((n / (100 : Int64)) * (100 : Int64)) - n)
    rw [e3] at t
    exact t pe.2.1 pe.2.2
  have s := own_step (m := -n.toInt) (d := d) (own_pN a1) b3
  have h2 := own_pH s.2
  have qs := own_qs h2 a4 a5 a6
  refine ⟨own_nn (by rw [e5]; exact b2.1), own_l100 (by rw [e5]; exact b2.2), qs.1, qs.2.1, qs.2.2.1, qs.2.2.2.1, ⟨d - 2, by rw [e1]; exact s.1, by rw [e1]; exact b4, s.2, ?_, ?_, a6⟩, by rw [e1]; exact b5⟩
  · rw [qs.2.2.2.2]; exact own_pF h2 a4
  · rw [qs.2.2.2.2]; exact own_pG a5
theorem own_turn2 {n q z : Int32} {sg : Int} (zp : ¬ z < 0) (hi : own_inv n.toInt q z sg) (h : ¬ (-100 : Int32) < n) :
    ¬ (((n / (100 : Int32)) * (100 : Int32)) - n) < 0 ∧ (((n / (100 : Int32)) * (100 : Int32)) - n) < 100 ∧ ¬ (q + (-1 : Int32)) < 0 ∧ (q + (-1 : Int32)) < z ∧ ¬ ((q + (-1 : Int32)) + (-1 : Int32)) < 0 ∧ ((q + (-1 : Int32)) + (-1 : Int32)) < z ∧ own_inv (n / (100 : Int32)).toInt ((q + (-1 : Int32)) + (-1 : Int32)) z sg ∧ (-(n / (100 : Int32)).toInt).toNat < (-n.toInt).toNat := by
  rw [own_ltI, show (-100 : Int32).toInt = -100 by decide] at h
  obtain ⟨d, a1, a2, a3, a4, a5, a6⟩ := hi
  obtain ⟨b1, b2, b3, b4, b5⟩ := own_pA2 h (rng32 n).1
  have kh : (100 : Int32).toInt = 100 := by decide
  have e1 : (n / (100 : Int32)).toInt = -((-n.toInt) / 100) := (c_idiv n 100 100 kh (by decide)).2 (own_pZ b3)
  have e2 : ((n / (100 : Int32)) * (100 : Int32)).toInt = -((-n.toInt) / 100) * 100 := by
    have t := own_mul32 (n / (100 : Int32)) 100
    rw [kh, e1] at t
    exact t b1.1 b1.2
  have pe := own_pE b2.1 b2.2
  have e3 : (((n / (100 : Int32)) * (100 : Int32)) - n).toInt = -((-n.toInt) / 100) * 100 - n.toInt := by
    have t := own_sub_toInt (a := (n / (100 : Int32)) * (100 : Int32)) (b := n)
    rw [e2] at t
    exact t pe.2.1 pe.2.2
  have s := own_step (m := -n.toInt) (d := d) (own_pN a1) b3
  have h2 := own_pH s.2
  have qs := own_qs h2 a4 a5 a6
  refine ⟨own_nn (by rw [e3]; exact b2.1), own_l100 (by rw [e3]; exact b2.2), qs.1, qs.2.1, qs.2.2.1, qs.2.2.2.1, ⟨d - 2, by rw [e1]; exact s.1, by rw [e1]; exact b4, s.2, ?_, ?_, a6⟩, by rw [e1]; exact b5⟩
  · rw [qs.2.2.2.2]; exact own_pF h2 a4
  · rw [qs.2.2.2.2]; exact own_pG a5
theorem own_to2 {n : Int64} {q z : Int32} {sg : Int} (hi : own_inv n.toInt q z sg) (h : (0 : Int32) < lcmpW n (-2147483648 : Int64)) : own_inv n.toInt32.toInt q z sg := by
  rw [lw_gt, own_p64, show (-2147483648 : Int64).toInt = -2147483648 by decide] at h
  have hn : n.toInt ≤ 0 := by obtain ⟨_, _, a, _⟩ := hi; exact a
  have : n.toInt32.toInt = n.toInt := own_l2i64 n (Int.le_of_lt h) (Int.lt_of_le_of_lt hn (by decide))
  rw [this]; exact hi
theorem own_tail1 {k q z : Int32} {sg : Int} (zp : ¬ z < 0) (hi : own_inv k.toInt q z sg) (h : (-100 : Int32) < k) : ¬ (-k) < 0 ∧ (-k) < 100 ∧ ¬ (q + (-1 : Int32)) < 0 ∧ (q + (-1 : Int32)) < z := by
  rw [own_ltI, show (-100 : Int32).toInt = -100 by decide] at h
  obtain ⟨d, a1, a2, a3, a4, a5, a6⟩ := hi
  have e := own_ng32 k h a2
  have p := own_pK h a2
  have q1 := own_pM a3 a4 a6
  have e1 := own_m1 (q := q) q1
  have po := own_pO q1 a5
  exact ⟨own_nn (by rw [e]; exact p.1), own_l100 (by rw [e]; exact p.2), own_nn (by rw [e1]; exact po.1), by rw [own_ltI, e1]; exact po.2⟩
theorem own_tail2 {k q z : Int32} {sg : Int} (zp : ¬ z < 0) (hi : own_inv k.toInt q z sg) (h : (-100 : Int32) < k) (h2 : k < (-9 : Int32)) : ¬ ((q + (-1 : Int32)) + (-1 : Int32)) < 0 ∧ ((q + (-1 : Int32)) + (-1 : Int32)) < z := by
  rw [own_ltI, show (-9 : Int32).toInt = -9 by decide] at h2
  obtain ⟨d, a1, a2, a3, a4, a5, a6⟩ := hi
  have hd := own_two a1 (Int.le_sub_one_of_lt h2)
  have qs := own_qs hd a4 a5 a6
  exact ⟨qs.2.2.1, qs.2.2.2.1⟩
theorem own_tail3a {k q z : Int32} (zp : ¬ z < 0) (hi : own_inv k.toInt q z 1) (h : (-100 : Int32) < k) : ¬ ((q + (-1 : Int32)) + (-1 : Int32)) < 0 ∧ ((q + (-1 : Int32)) + (-1 : Int32)) < z := by
  obtain ⟨d, a1, a2, a3, a4, a5, a6⟩ := hi
  have qs := own_qs (d := 2) (sg := 0) (q := q) (z := z) (Nat.le_refl _) (by clear a1 a2 zp h a5; omega) a5 (Int.le_refl _)
  exact ⟨qs.2.2.1, qs.2.2.2.1⟩
theorem own_tail3b {k q z : Int32} (zp : ¬ z < 0) (hi : own_inv k.toInt q z 1) (h : (-100 : Int32) < k) (h2 : k < (-9 : Int32)) : ¬ (((q + (-1 : Int32)) + (-1 : Int32)) + (-1 : Int32)) < 0 ∧ (((q + (-1 : Int32)) + (-1 : Int32)) + (-1 : Int32)) < z := by
  rw [own_ltI, show (-9 : Int32).toInt = -9 by decide] at h2
  obtain ⟨d, a1, a2, a3, a4, a5, a6⟩ := hi
  have hd := own_two a1 (Int.le_sub_one_of_lt h2)
  have qs := own_qs hd a4 a5 a6
  have q2 := own_pQ hd a4
  have e := own_m1 (q := (q + (-1 : Int32)) + (-1 : Int32)) (by rw [qs.2.2.2.2]; exact q2)
  rw [qs.2.2.2.2] at e
  have po := own_pR q2 a5
  exact ⟨own_nn (by rw [e]; exact po.1), by rw [own_ltI, e]; exact po.2⟩
theorem ef_rmGC (m : MethodId) (x0 : Int64) (x1 : Int32) (x2 : Addr) : entryFrame m #[(.long x0), (.int x1), (.ref x2)] 11 = mkF m 0 #[.val (.long x0), .second, .val (.int x1), .val (.ref x2), .unset, .unset, .unset, .unset, .unset, .unset, .unset] [] := by first | (simp [entryFrame, mkF, argsToLocals, Value.category]; done) | rfl
def QGC (Z : State) (p1 : Int64) (p2 : Int32) (a3 : Addr) (aO : Addr) (aT : Addr) (z : Int32) (k : Int32) (h0 : Heap) (n0 : Nat) (v : Option Value) (h : Heap) (L : List Loc) : Prop := ∃ r, v = some (.int r) ∧ Fr n0 L ∧ Keep h0 h [a3] ∧ own_BA Z h a3 z
theorem d33_0 : decode jdk_35_method_14_code 0 = .ok (.iload_n 2, 1) := by decide +kernel
theorem d33_1 : decode jdk_35_method_14_code 1 = .ok (.istore 7, 2) := by decide +kernel
theorem d33_3 : decode jdk_35_method_14_code 3 = .ok (.lload_n 0, 1) := by decide +kernel
theorem d33_4 : decode jdk_35_method_14_code 4 = .ok (.lconst 0, 1) := by decide +kernel
theorem d33_5 : decode jdk_35_method_14_code 5 = .ok (.lcmp, 1) := by decide +kernel
theorem d33_6 : decode jdk_35_method_14_code 6 = .ok (.ifCond .ge 7, 3) := by decide +kernel
theorem d33_9 : decode jdk_35_method_14_code 9 = .ok (.iconst 1, 1) := by decide +kernel
theorem d33_10 : decode jdk_35_method_14_code 10 = .ok (.goto 4, 3) := by decide +kernel
theorem d33_14 : decode jdk_35_method_14_code 14 = .ok (.istore 8, 2) := by decide +kernel
theorem d33_16 : decode jdk_35_method_14_code 16 = .ok (.iload 8, 2) := by decide +kernel
theorem d33_18 : decode jdk_35_method_14_code 18 = .ok (.ifCond .ne 6, 3) := by decide +kernel
theorem d33_24 : decode jdk_35_method_14_code 24 = .ok (.lload_n 0, 1) := by decide +kernel
theorem d33_25 : decode jdk_35_method_14_code 25 = .ok (.ldc2_w 129, 3) := by decide +kernel
theorem d33_28 : decode jdk_35_method_14_code 28 = .ok (.lcmp, 1) := by decide +kernel
theorem d33_29 : decode jdk_35_method_14_code 29 = .ok (.ifCond .gt 53, 3) := by decide +kernel
theorem d33_82 : decode jdk_35_method_14_code 82 = .ok (.lload_n 0, 1) := by decide +kernel
theorem d33_83 : decode jdk_35_method_14_code 83 = .ok (.l2i, 1) := by decide +kernel
theorem d33_84 : decode jdk_35_method_14_code 84 = .ok (.istore 10, 2) := by decide +kernel
theorem d33_86 : decode jdk_35_method_14_code 86 = .ok (.iload 10, 2) := by decide +kernel
theorem d33_88 : decode jdk_35_method_14_code 88 = .ok (.bipush (-100), 2) := by decide +kernel
theorem d33_90 : decode jdk_35_method_14_code 90 = .ok (.if_icmp .gt 53, 3) := by decide +kernel
theorem d33_143 : decode jdk_35_method_14_code 143 = .ok (.aload_n 3, 1) := by decide +kernel
theorem d33_144 : decode jdk_35_method_14_code 144 = .ok (.iinc 7 (-1), 3) := by decide +kernel
theorem d33_147 : decode jdk_35_method_14_code 147 = .ok (.iload 7, 2) := by decide +kernel
theorem d33_149 : decode jdk_35_method_14_code 149 = .ok (.getstatic 133, 3) := by decide +kernel
theorem d33_152 : decode jdk_35_method_14_code 152 = .ok (.iload 10, 2) := by decide +kernel
theorem d33_154 : decode jdk_35_method_14_code 154 = .ok (.ineg, 1) := by decide +kernel
theorem d33_155 : decode jdk_35_method_14_code 155 = .ok (.baload, 1) := by decide +kernel
theorem d33_156 : decode jdk_35_method_14_code 156 = .ok (.bastore, 1) := by decide +kernel
theorem d33_157 : decode jdk_35_method_14_code 157 = .ok (.iload 10, 2) := by decide +kernel
theorem d33_159 : decode jdk_35_method_14_code 159 = .ok (.bipush (-9), 2) := by decide +kernel
theorem d33_161 : decode jdk_35_method_14_code 161 = .ok (.if_icmp .ge 17, 3) := by decide +kernel
theorem d33_164 : decode jdk_35_method_14_code 164 = .ok (.aload_n 3, 1) := by decide +kernel
theorem d33_165 : decode jdk_35_method_14_code 165 = .ok (.iinc 7 (-1), 3) := by decide +kernel
theorem d33_168 : decode jdk_35_method_14_code 168 = .ok (.iload 7, 2) := by decide +kernel
theorem d33_170 : decode jdk_35_method_14_code 170 = .ok (.getstatic 137, 3) := by decide +kernel
theorem d33_173 : decode jdk_35_method_14_code 173 = .ok (.iload 10, 2) := by decide +kernel
theorem d33_175 : decode jdk_35_method_14_code 175 = .ok (.ineg, 1) := by decide +kernel
theorem d33_176 : decode jdk_35_method_14_code 176 = .ok (.baload, 1) := by decide +kernel
theorem d33_177 : decode jdk_35_method_14_code 177 = .ok (.bastore, 1) := by decide +kernel
theorem d33_178 : decode jdk_35_method_14_code 178 = .ok (.iload 8, 2) := by decide +kernel
theorem d33_180 : decode jdk_35_method_14_code 180 = .ok (.ifCond .eq 12, 3) := by decide +kernel
theorem d33_183 : decode jdk_35_method_14_code 183 = .ok (.aload_n 3, 1) := by decide +kernel
theorem d33_184 : decode jdk_35_method_14_code 184 = .ok (.iinc 7 (-1), 3) := by decide +kernel
theorem d33_187 : decode jdk_35_method_14_code 187 = .ok (.iload 7, 2) := by decide +kernel
theorem d33_189 : decode jdk_35_method_14_code 189 = .ok (.bipush 45, 2) := by decide +kernel
theorem d33_191 : decode jdk_35_method_14_code 191 = .ok (.bastore, 1) := by decide +kernel
theorem d33_192 : decode jdk_35_method_14_code 192 = .ok (.iload 7, 2) := by decide +kernel
theorem d33_194 : decode jdk_35_method_14_code 194 = .ok (.ireturn, 1) := by decide +kernel
theorem d33_93 : decode jdk_35_method_14_code 93 = .ok (.iload 10, 2) := by decide +kernel
theorem d33_95 : decode jdk_35_method_14_code 95 = .ok (.bipush 100, 2) := by decide +kernel
theorem d33_97 : decode jdk_35_method_14_code 97 = .ok (.idiv, 1) := by decide +kernel
theorem d33_98 : decode jdk_35_method_14_code 98 = .ok (.istore 9, 2) := by decide +kernel
theorem d33_100 : decode jdk_35_method_14_code 100 = .ok (.iload 9, 2) := by decide +kernel
theorem d33_102 : decode jdk_35_method_14_code 102 = .ok (.bipush 100, 2) := by decide +kernel
theorem d33_104 : decode jdk_35_method_14_code 104 = .ok (.imul, 1) := by decide +kernel
theorem d33_105 : decode jdk_35_method_14_code 105 = .ok (.iload 10, 2) := by decide +kernel
theorem d33_107 : decode jdk_35_method_14_code 107 = .ok (.isub, 1) := by decide +kernel
theorem d33_108 : decode jdk_35_method_14_code 108 = .ok (.istore 6, 2) := by decide +kernel
theorem d33_110 : decode jdk_35_method_14_code 110 = .ok (.iload 9, 2) := by decide +kernel
theorem d33_112 : decode jdk_35_method_14_code 112 = .ok (.istore 10, 2) := by decide +kernel
theorem d33_114 : decode jdk_35_method_14_code 114 = .ok (.aload_n 3, 1) := by decide +kernel
theorem d33_115 : decode jdk_35_method_14_code 115 = .ok (.iinc 7 (-1), 3) := by decide +kernel
theorem d33_118 : decode jdk_35_method_14_code 118 = .ok (.iload 7, 2) := by decide +kernel
theorem d33_120 : decode jdk_35_method_14_code 120 = .ok (.getstatic 133, 3) := by decide +kernel
theorem d33_123 : decode jdk_35_method_14_code 123 = .ok (.iload 6, 2) := by decide +kernel
theorem d33_125 : decode jdk_35_method_14_code 125 = .ok (.baload, 1) := by decide +kernel
theorem d33_126 : decode jdk_35_method_14_code 126 = .ok (.bastore, 1) := by decide +kernel
theorem d33_127 : decode jdk_35_method_14_code 127 = .ok (.aload_n 3, 1) := by decide +kernel
theorem d33_128 : decode jdk_35_method_14_code 128 = .ok (.iinc 7 (-1), 3) := by decide +kernel
theorem d33_131 : decode jdk_35_method_14_code 131 = .ok (.iload 7, 2) := by decide +kernel
theorem d33_133 : decode jdk_35_method_14_code 133 = .ok (.getstatic 137, 3) := by decide +kernel
theorem d33_136 : decode jdk_35_method_14_code 136 = .ok (.iload 6, 2) := by decide +kernel
theorem d33_138 : decode jdk_35_method_14_code 138 = .ok (.baload, 1) := by decide +kernel
theorem d33_139 : decode jdk_35_method_14_code 139 = .ok (.bastore, 1) := by decide +kernel
theorem d33_140 : decode jdk_35_method_14_code 140 = .ok (.goto (-54), 3) := by decide +kernel
theorem d33_32 : decode jdk_35_method_14_code 32 = .ok (.lload_n 0, 1) := by decide +kernel
theorem d33_33 : decode jdk_35_method_14_code 33 = .ok (.ldc2_w 131, 3) := by decide +kernel
theorem d33_36 : decode jdk_35_method_14_code 36 = .ok (.ldiv, 1) := by decide +kernel
theorem d33_37 : decode jdk_35_method_14_code 37 = .ok (.lstore 4, 2) := by decide +kernel
theorem d33_39 : decode jdk_35_method_14_code 39 = .ok (.lload 4, 2) := by decide +kernel
theorem d33_41 : decode jdk_35_method_14_code 41 = .ok (.ldc2_w 131, 3) := by decide +kernel
theorem d33_44 : decode jdk_35_method_14_code 44 = .ok (.lmul, 1) := by decide +kernel
theorem d33_45 : decode jdk_35_method_14_code 45 = .ok (.lload_n 0, 1) := by decide +kernel
theorem d33_46 : decode jdk_35_method_14_code 46 = .ok (.lsub, 1) := by decide +kernel
theorem d33_47 : decode jdk_35_method_14_code 47 = .ok (.l2i, 1) := by decide +kernel
theorem d33_48 : decode jdk_35_method_14_code 48 = .ok (.istore 6, 2) := by decide +kernel
theorem d33_50 : decode jdk_35_method_14_code 50 = .ok (.lload 4, 2) := by decide +kernel
theorem d33_52 : decode jdk_35_method_14_code 52 = .ok (.lstore_n 0, 1) := by decide +kernel
theorem d33_53 : decode jdk_35_method_14_code 53 = .ok (.aload_n 3, 1) := by decide +kernel
theorem d33_54 : decode jdk_35_method_14_code 54 = .ok (.iinc 7 (-1), 3) := by decide +kernel
theorem d33_57 : decode jdk_35_method_14_code 57 = .ok (.iload 7, 2) := by decide +kernel
theorem d33_59 : decode jdk_35_method_14_code 59 = .ok (.getstatic 133, 3) := by decide +kernel
theorem d33_62 : decode jdk_35_method_14_code 62 = .ok (.iload 6, 2) := by decide +kernel
theorem d33_64 : decode jdk_35_method_14_code 64 = .ok (.baload, 1) := by decide +kernel
theorem d33_65 : decode jdk_35_method_14_code 65 = .ok (.bastore, 1) := by decide +kernel
theorem d33_66 : decode jdk_35_method_14_code 66 = .ok (.aload_n 3, 1) := by decide +kernel
theorem d33_67 : decode jdk_35_method_14_code 67 = .ok (.iinc 7 (-1), 3) := by decide +kernel
theorem d33_70 : decode jdk_35_method_14_code 70 = .ok (.iload 7, 2) := by decide +kernel
theorem d33_72 : decode jdk_35_method_14_code 72 = .ok (.getstatic 137, 3) := by decide +kernel
theorem d33_75 : decode jdk_35_method_14_code 75 = .ok (.iload 6, 2) := by decide +kernel
theorem d33_77 : decode jdk_35_method_14_code 77 = .ok (.baload, 1) := by decide +kernel
theorem d33_78 : decode jdk_35_method_14_code 78 = .ok (.bastore, 1) := by decide +kernel
theorem d33_79 : decode jdk_35_method_14_code 79 = .ok (.goto (-55), 3) := by decide +kernel
theorem d33_13 : decode jdk_35_method_14_code 13 = .ok (.iconst 0, 1) := by decide +kernel
theorem d33_21 : decode jdk_35_method_14_code 21 = .ok (.lload_n 0, 1) := by decide +kernel
theorem d33_22 : decode jdk_35_method_14_code 22 = .ok (.lneg, 1) := by decide +kernel
theorem d33_23 : decode jdk_35_method_14_code 23 = .ok (.lstore_n 0, 1) := by decide +kernel
set_option maxRecDepth 65536 in
set_option maxHeartbeats 40000000 in
theorem rmGC (l : Launch) (Z : State) (a0 : Array Value) (hw : ∀ d ∈ tables_1, d.before a0 Z = true) (ws : List Jvm.Cond) (p1 : Int64) (p2 : Int32) (a3 : Addr) (aO : Addr) (aT : Addr) (z : Int32) (k : Int32) (h0 : Heap) (n0 : Nat) (Z0 : n0 ≤ h0.size) (SO : Sta Z h0 "java/lang/Integer" "DigitOnes" "[B" (.ref aO)) (ST : Sta Z h0 "java/lang/Integer" "DigitTens" "[B" (.ref aT)) (BO : own_BV Z h0 aO 100) (BT : own_BV Z h0 aT 100) (BA : own_BA Z h0 a3 z) (g3 : n0 ≤ a3) (nO : aO ≠ a3) (nT : aT ≠ a3) (hss : own_SS p1 k) (hq1 : k.toInt ≤ p2.toInt) (hq2 : p2.toInt ≤ z.toInt) :
    MetFree l (⟨"java/lang/Long", "getChars", "(JI[B)I"⟩ : MethodName) (head1 (Jvm.Cond.code (⟨"java/lang/Long", "getChars", "(JI[B)I"⟩ : MethodName) jdk_35_method_14_code 11 (some .int) :: ws) ({ frames := 0, cells := 0, slots := 0, locals := 0 } : Room)) (fun a U => a = #[(.long p1), (.int p2), (.ref a3)] ∧ Z.Warmed39 U.vm ∧ U.heap = h0) (fun _ _ _ _ _ => True) (fun _ U o U' => ∃ v L, o = .returned v ∧ QGC Z p1 p2 a3 aO aT z k h0 n0 v U'.heap L ∧ FrameEnd U o U' L ({ frames := 0, cells := 0, slots := 0, locals := 0 } : Room).cells ({ frames := 0, cells := 0, slots := 0, locals := 0 } : Room).slots) := by
  refine MetFree.of_bodySF (plainFor_of_name pn_java_lang_Long) hisR ?_
  intro p e s m args below meth c s₁ Bd hml0 hP hK
  obtain ⟨rfl, hZ, hh⟩ := hP
  have hx := Bd.exec
  have hby := Bd.bytes
  have hml : c.maxLocals = 11 := hml0
  have hown : s.vm.findClass "java/lang/Long" = some m.cls := findClass_of_methodNamed Bd.named
  have hnm := (name_of_methodNamed Bd.named Bd.method).1
  have X0 : Stand p l e ({ frames := 0, cells := 0, slots := 0, locals := 0 } : Room) s m #[(.long p1), (.int p2), (.ref a3)] below meth c s₁ [] 0 0 := Stand.of_body Bd
  have e0 : s₁.heap = h0 := by rw [← hh, Bd.state]; rfl
  have N0 := Fr.nil n0
  have pre0 : ∀ tG, Steps p.tables e below (s₁.setTop (mkF m 0 #[.val (.long p1), .second, .val (.int p2), .val (.ref a3), .unset, .unset, .unset, .unset, .unset, .unset, .unset] [])) tG → Steps p.tables e below (s₁.setTop (entryFrame m #[(.long p1), (.int p2), (.ref a3)] 11)) tG := fun tG kG => castTop (ef_rmGC m p1 p2 a3) kG
  have G390 : ∀ tG, Steps p.tables e below (s₁.setTop (mkF m 6 #[.val (.long p1), .second, .val (.int p2), .val (.ref a3), .unset, .unset, .unset, .val (.int p2), .unset, .unset, .unset] [(.int (lcmpW p1 (0 : Int64)))])) tG → Steps p.tables e below (s₁.setTop (mkF m 0 #[.val (.long p1), .second, .val (.int p2), .val (.ref a3), .unset, .unset, .unset, .unset, .unset, .unset, .unset] [])) tG := by
    intro tG kG
    refine own_iloadN X0.here hx (hb hby d33_0) rfl ?_
    refine own_istore X0.here hx (hb hby d33_1) (l' := #[.val (.long p1), .second, .val (.int p2), .val (.ref a3), .unset, .unset, .unset, .val (.int p2), .unset, .unset, .unset]) rfl ?_
    refine own_lloadN X0.here hx (hb hby d33_3) rfl ?_
    refine own_lconst0 X0.here hx (hb hby d33_4) ?_
    refine own_lcmp X0.here hx (hb hby d33_5) ?_
    exact kG
  by_cases hc6 : (lcmpW p1 (0 : Int64)) < (0 : Int32)
  · have G391 : ∀ tG, Steps p.tables e below (s₁.setTop (mkF m 24 #[.val (.long p1), .second, .val (.int p2), .val (.ref a3), .unset, .unset, .unset, .val (.int p2), .val (.int 1), .unset, .unset] [])) tG → Steps p.tables e below (s₁.setTop (mkF m 0 #[.val (.long p1), .second, .val (.int p2), .val (.ref a3), .unset, .unset, .unset, .unset, .unset, .unset, .unset] [])) tG := by
      intro tG kG
      refine G390 _ ?_
      refine own_ifNo X0.here hx (hb hby d33_6) ((if0 _ _).trans (tlt hc6).2.1) ?_
      refine own_iconst X0.here hx (1 : Int32) (hb hby d33_9) rfl ?_
      refine own_goto X0.here hx 10 14 rfl (hb hby d33_10) (by decide) (by decide) ?_
      refine own_istore X0.here hx (hb hby d33_14) (l' := #[.val (.long p1), .second, .val (.int p2), .val (.ref a3), .unset, .unset, .unset, .val (.int p2), .val (.int 1), .unset, .unset]) rfl ?_
      refine own_iload X0.here hx (hb hby d33_16) rfl ?_
      refine own_ifYes X0.here hx 18 24 rfl (hb hby d33_18) ((if0 _ _).trans (feq (by decide : ¬ ((1 : Int32) = (0 : Int32)))).2) (by decide) (by decide) ?_
      exact kG
    refine own_ind8 (fun n4 : Int64 => (-n4.toInt).toNat) (fun (T4 : State) (L4 : List Loc) (h4 : Heap) (n4 : Int64) (q4 : Int32) (l4 l5 l6 : Slot) => Stand p l e ({ frames := 0, cells := 0, slots := 0, locals := 0 } : Room) s m #[(.long p1), (.int p2), (.ref a3)] below meth c T4 L4 0 0 ∧ T4.heap = h4 ∧ Fr n0 L4 ∧ n0 ≤ h4.size ∧ Keep h0 h4 [a3] ∧ own_BA Z h4 a3 z ∧ Sta Z h4 "java/lang/Integer" "DigitOnes" "[B" (.ref aO) ∧ Sta Z h4 "java/lang/Integer" "DigitTens" "[B" (.ref aT) ∧ own_BV Z h4 aO 100 ∧ own_BV Z h4 aT 100 ∧ own_inv n4.toInt q4 z 1 ∧ own_S2 l4 l5 ∧ own_S1 l6 ∧ (∀ tG, Steps p.tables e below (T4.setTop (mkF m 24 #[.val (.long n4), .second, .val (.int p2), .val (.ref a3), l4, l5, l6, .val (.int q4), .val (.int 1), .unset, .unset] [])) tG → Steps p.tables e below (s₁.setTop (mkF m 0 #[.val (.long p1), .second, .val (.int p2), .val (.ref a3), .unset, .unset, .unset, .unset, .unset, .unset, .unset] [])) tG)) ?_ _ _ _ p1 p2 _ _ _ ⟨X0, e0, N0, Z0, (Keep.refl h0 [a3]), BA, SO, ST, BO, BT, (own_i0N hss hq1 hq2 hc6), Or.inl ⟨rfl, rfl⟩, Or.inl rfl, G391⟩
    intro T4 L4 h4 n4 q4 l4 l5 l6 hI4 ih24
    obtain ⟨X4, e4, N4, Z4, K4, B4, SO4, ST4, BO4, BT4, hi4, hs4, hs6, G4⟩ := hI4
    have G392 : ∀ tG, Steps p.tables e below (T4.setTop (mkF m 29 #[.val (.long n4), .second, .val (.int p2), .val (.ref a3), l4, l5, l6, .val (.int q4), .val (.int 1), .unset, .unset] [(.int (lcmpW n4 (-2147483648 : Int64)))])) tG → Steps p.tables e below (s₁.setTop (mkF m 0 #[.val (.long p1), .second, .val (.int p2), .val (.ref a3), .unset, .unset, .unset, .unset, .unset, .unset, .unset] [])) tG := by
      intro tG kG
      refine G4 _ ?_
      refine own_lloadN X4.here hx (hb hby d33_24) rfl ?_
      refine X4.ldc2Long hx hown (mvT hZ (own_w hw 205 rfl)) (g := (mkF m 25 #[.val (.long n4), .second, .val (.int p2), .val (.ref a3), l4, l5, l6, .val (.int q4), .val (.int 1), .unset, .unset] [(.long n4)])) rfl (hb hby d33_25) _ ?_
      show Steps p.tables e below (T4.setTop (mkF m 28 #[.val (.long n4), .second, .val (.int p2), .val (.ref a3), l4, l5, l6, .val (.int q4), .val (.int 1), .unset, .unset] [(.long (-2147483648)), (.long n4)])) _
      refine own_lcmp X4.here hx (hb hby d33_28) ?_
      exact kG
    by_cases hc29 : (0 : Int32) < (lcmpW n4 (-2147483648 : Int64))
    · have G393 : ∀ tG, Steps p.tables e below (T4.setTop (mkF m 86 #[.val (.long n4), .second, .val (.int p2), .val (.ref a3), l4, l5, l6, .val (.int q4), .val (.int 1), .unset, .val (.int (n4.toInt32))] [])) tG → Steps p.tables e below (s₁.setTop (mkF m 0 #[.val (.long p1), .second, .val (.int p2), .val (.ref a3), .unset, .unset, .unset, .unset, .unset, .unset, .unset] [])) tG := by
        intro tG kG
        refine G392 _ ?_
        refine own_ifYes X4.here hx 29 82 rfl (hb hby d33_29) ((if0 _ _).trans (tlt hc29).2.2.1) (by decide) (by decide) ?_
        refine own_lloadN X4.here hx (hb hby d33_82) rfl ?_
        refine own_l2i X4.here hx (hb hby d33_83) ?_
        refine own_istore X4.here hx (hb hby d33_84) (l' := #[.val (.long n4), .second, .val (.int p2), .val (.ref a3), l4, l5, l6, .val (.int q4), .val (.int 1), .unset, .val (.int (n4.toInt32))]) rfl ?_
        exact kG
      refine own_ind8 (fun k8 : Int32 => (-k8.toInt).toNat) (fun (T8 : State) (L8 : List Loc) (h8 : Heap) (k8 : Int32) (q8 : Int32) (l68 l98 lx8 : Slot) => Stand p l e ({ frames := 0, cells := 0, slots := 0, locals := 0 } : Room) s m #[(.long p1), (.int p2), (.ref a3)] below meth c T8 L8 0 0 ∧ T8.heap = h8 ∧ Fr n0 L8 ∧ n0 ≤ h8.size ∧ Keep h0 h8 [a3] ∧ own_BA Z h8 a3 z ∧ Sta Z h8 "java/lang/Integer" "DigitOnes" "[B" (.ref aO) ∧ Sta Z h8 "java/lang/Integer" "DigitTens" "[B" (.ref aT) ∧ own_BV Z h8 aO 100 ∧ own_BV Z h8 aT 100 ∧ own_inv k8.toInt q8 z 1 ∧ own_S1 l68 ∧ own_S1 l98 ∧ (∀ tG, Steps p.tables e below (T8.setTop (mkF m 86 #[.val (.long n4), .second, .val (.int p2), .val (.ref a3), l4, l5, l68, .val (.int q8), .val (.int 1), l98, .val (.int k8)] [])) tG → Steps p.tables e below (s₁.setTop (mkF m 0 #[.val (.long p1), .second, .val (.int p2), .val (.ref a3), .unset, .unset, .unset, .unset, .unset, .unset, .unset] [])) tG)) ?_ _ _ _ (n4.toInt32) q4 _ _ .unset ⟨X4, e4, N4, Z4, K4, B4, SO4, ST4, BO4, BT4, own_to2 hi4 hc29, hs6, Or.inl rfl, G393⟩
      intro T8 L8 h8 k8 q8 l68 l98 lx8 hI8 ih86
      obtain ⟨X8, e8, N8, Z8, K8, B8, SO8, ST8, BO8, BT8, hi8, hs68, hs98, G8⟩ := hI8
      have G394 : ∀ tG, Steps p.tables e below (T8.setTop (mkF m 90 #[.val (.long n4), .second, .val (.int p2), .val (.ref a3), l4, l5, l68, .val (.int q8), .val (.int 1), l98, .val (.int k8)] [(.int (-100)), (.int k8)])) tG → Steps p.tables e below (s₁.setTop (mkF m 0 #[.val (.long p1), .second, .val (.int p2), .val (.ref a3), .unset, .unset, .unset, .unset, .unset, .unset, .unset] [])) tG := by
        intro tG kG
        refine G8 _ ?_
        refine own_iload X8.here hx (hb hby d33_86) rfl ?_
        refine own_bipush X8.here hx (-100 : Int32) (hb hby d33_88) rfl ?_
        exact kG
      by_cases hc90 : (-100 : Int32) < k8
      · have g43 := own_tail1 B8.2.pos hi8 hc90
        obtain ⟨T395, X395, e395, st395⟩ := getS2 X8 hx hZ hown (host := "") (Or.inl (own_w hw 206 rfl)) Via.refl e8 SO8 (g := (mkF m 149 #[.val (.long n4), .second, .val (.int p2), .val (.ref a3), l4, l5, l68, .val (.int (q8 + (-1 : Int32))), .val (.int 1), l98, .val (.int k8)] [(.int (q8 + (-1 : Int32))), (.ref a3)])) rfl (hb hby d33_149)
        obtain ⟨cl396, x396, Ar396, hin396, hat396⟩ := own_BV.rd BO8 (j := (-k8)) g43.1 g43.2.1
        have ja397 : ¬ (q8 + (-1 : Int32)) < 0 := g43.2.2.1
        have jb397 : (q8 + (-1 : Int32)) < z := g43.2.2.2
        obtain ⟨kk397, vs397, ⟨cl397, Ar397, q397, S397, M397, H397, J397⟩, lv397⟩ := id B8.2
        obtain ⟨T397, h397, X397, e397, W397, st397⟩ := stB X395 hx hZ e395 Ar397 (j := (q8 + (-1 : Int32))) (inb_of S397 ⟨ja397, jb397⟩) (g := (mkF m 156 #[.val (.long n4), .second, .val (.int p2), .val (.ref a3), l4, l5, l68, .val (.int (q8 + (-1 : Int32))), .val (.int 1), l98, .val (.int k8)] [(.int x396), (.int (q8 + (-1 : Int32))), (.ref a3)])) rfl rfl (hb hby d33_156)
        have f398 : Sta Z h397 "java/lang/Integer" "DigitOnes" "[B" (.ref aO) := SO8.wr W397
        have f399 : Sta Z h397 "java/lang/Integer" "DigitTens" "[B" (.ref aT) := ST8.wr W397
        have f401 : own_BV Z h397 aO (100 : Int32) := BO8.other W397 nO
        have f402 : own_BV Z h397 aT (100 : Int32) := BT8.other W397 nT
        have V397 : own_BA Z h397 a3 z := B8.st ja397 jb397 W397 (fits_nar_byte _)
        have N397 := Fr.snoc X397 N8 g3
        have Z397 : n0 ≤ h397.size := Nat.le_trans Z8 (Keep.of_wr W397).1
        have K397 : Keep h0 h397 [a3] := K8.wr W397 (Or.inl (List.mem_of_getElem? (i := 0) rfl))
        have G403 : ∀ tG, Steps p.tables e below (T397.setTop (mkF m 161 #[.val (.long n4), .second, .val (.int p2), .val (.ref a3), l4, l5, l68, .val (.int (q8 + (-1 : Int32))), .val (.int 1), l98, .val (.int k8)] [(.int (-9)), (.int k8)])) tG → Steps p.tables e below (s₁.setTop (mkF m 0 #[.val (.long p1), .second, .val (.int p2), .val (.ref a3), .unset, .unset, .unset, .unset, .unset, .unset, .unset] [])) tG := by
          intro tG kG
          refine G394 _ ?_
          refine own_icmpYes X8.here hx 90 143 rfl (hb hby d33_90) (tlt hc90).2.2.1 (by decide) (by decide) ?_
          refine own_aloadN X8.here hx (hb hby d33_143) rfl rfl ?_
          refine own_iinc X8.here hx (-1 : Int32) (hb hby d33_144) rfl rfl (l' := #[.val (.long n4), .second, .val (.int p2), .val (.ref a3), l4, l5, l68, .val (.int (q8 + (-1 : Int32))), .val (.int 1), l98, .val (.int k8)]) rfl ?_
          refine own_iload X8.here hx (hb hby d33_147) rfl ?_
          refine st395 _ ?_
          show Steps p.tables e below (T395.setTop (mkF m 152 #[.val (.long n4), .second, .val (.int p2), .val (.ref a3), l4, l5, l68, .val (.int (q8 + (-1 : Int32))), .val (.int 1), l98, .val (.int k8)] [(.ref aO), (.int (q8 + (-1 : Int32))), (.ref a3)])) _
          refine own_iload X395.here hx (hb hby d33_152) rfl ?_
          refine own_ineg X395.here hx (hb hby d33_154) ?_
          refine X395.baloadBytes hx (j := (-k8)) (v := (.int x396)) (by rw [e395]; exact Ar396.1) (State.isArrayOf_alike hZ.alike Ar396.2.1) Ar396.2.2 hin396 hat396 (g := (mkF m 155 #[.val (.long n4), .second, .val (.int p2), .val (.ref a3), l4, l5, l68, .val (.int (q8 + (-1 : Int32))), .val (.int 1), l98, .val (.int k8)] [(.int (-k8)), (.ref aO), (.int (q8 + (-1 : Int32))), (.ref a3)])) rfl rfl (hb hby d33_155) _ ?_
          show Steps p.tables e below (T395.setTop (mkF m 156 #[.val (.long n4), .second, .val (.int p2), .val (.ref a3), l4, l5, l68, .val (.int (q8 + (-1 : Int32))), .val (.int 1), l98, .val (.int k8)] [(.int x396), (.int (q8 + (-1 : Int32))), (.ref a3)])) _
          refine st397 _ ?_
          show Steps p.tables e below (T397.setTop (mkF m 157 #[.val (.long n4), .second, .val (.int p2), .val (.ref a3), l4, l5, l68, .val (.int (q8 + (-1 : Int32))), .val (.int 1), l98, .val (.int k8)] [])) _
          refine own_iload X397.here hx (hb hby d33_157) rfl ?_
          refine own_bipush X397.here hx (-9 : Int32) (hb hby d33_159) rfl ?_
          exact kG
        by_cases hc161 : k8 < (-9 : Int32)
        · have g64 := own_tail2 V397.2.pos hi8 hc90 hc161
          obtain ⟨T404, X404, e404, st404⟩ := getS2 X397 hx hZ hown (host := "") (Or.inl (own_w hw 208 rfl)) Via.refl e397 f399 (g := (mkF m 170 #[.val (.long n4), .second, .val (.int p2), .val (.ref a3), l4, l5, l68, .val (.int ((q8 + (-1 : Int32)) + (-1 : Int32))), .val (.int 1), l98, .val (.int k8)] [(.int ((q8 + (-1 : Int32)) + (-1 : Int32))), (.ref a3)])) rfl (hb hby d33_170)
          obtain ⟨cl405, x405, Ar405, hin405, hat405⟩ := own_BV.rd f402 (j := (-k8)) g43.1 g43.2.1
          have ja406 : ¬ ((q8 + (-1 : Int32)) + (-1 : Int32)) < 0 := g64.1
          have jb406 : ((q8 + (-1 : Int32)) + (-1 : Int32)) < z := g64.2
          obtain ⟨kk406, vs406, ⟨cl406, Ar406, q406, S406, M406, H406, J406⟩, lv406⟩ := id V397.2
          obtain ⟨T406, h406, X406, e406, W406, st406⟩ := stB X404 hx hZ e404 Ar406 (j := ((q8 + (-1 : Int32)) + (-1 : Int32))) (inb_of S406 ⟨ja406, jb406⟩) (g := (mkF m 177 #[.val (.long n4), .second, .val (.int p2), .val (.ref a3), l4, l5, l68, .val (.int ((q8 + (-1 : Int32)) + (-1 : Int32))), .val (.int 1), l98, .val (.int k8)] [(.int x405), (.int ((q8 + (-1 : Int32)) + (-1 : Int32))), (.ref a3)])) rfl rfl (hb hby d33_177)
          have f407 : Sta Z h406 "java/lang/Integer" "DigitOnes" "[B" (.ref aO) := f398.wr W406
          have f408 : Sta Z h406 "java/lang/Integer" "DigitTens" "[B" (.ref aT) := f399.wr W406
          have f409 : own_BV Z h406 aO (100 : Int32) := f401.other W406 nO
          have f410 : own_BV Z h406 aT (100 : Int32) := f402.other W406 nT
          have V406 : own_BA Z h406 a3 z := V397.st ja406 jb406 W406 (fits_nar_byte _)
          have N406 := Fr.snoc X406 N397 g3
          have Z406 : n0 ≤ h406.size := Nat.le_trans Z397 (Keep.of_wr W406).1
          have K406 : Keep h0 h406 [a3] := K397.wr W406 (Or.inl (List.mem_of_getElem? (i := 0) rfl))
          have g83 := own_tail3b V406.2.pos hi8 hc90 hc161
          have ja412 : ¬ (((q8 + (-1 : Int32)) + (-1 : Int32)) + (-1 : Int32)) < 0 := g83.1
          have jb412 : (((q8 + (-1 : Int32)) + (-1 : Int32)) + (-1 : Int32)) < z := g83.2
          obtain ⟨kk412, vs412, ⟨cl412, Ar412, q412, S412, M412, H412, J412⟩, lv412⟩ := id V406.2
          obtain ⟨T412, h412, X412, e412, W412, st412⟩ := stB X406 hx hZ e406 Ar412 (j := (((q8 + (-1 : Int32)) + (-1 : Int32)) + (-1 : Int32))) (inb_of S412 ⟨ja412, jb412⟩) (g := (mkF m 191 #[.val (.long n4), .second, .val (.int p2), .val (.ref a3), l4, l5, l68, .val (.int (((q8 + (-1 : Int32)) + (-1 : Int32)) + (-1 : Int32))), .val (.int 1), l98, .val (.int k8)] [(.int 45), (.int (((q8 + (-1 : Int32)) + (-1 : Int32)) + (-1 : Int32))), (.ref a3)])) rfl rfl (hb hby d33_191)
          have f413 : Sta Z h412 "java/lang/Integer" "DigitOnes" "[B" (.ref aO) := f407.wr W412
          have f414 : Sta Z h412 "java/lang/Integer" "DigitTens" "[B" (.ref aT) := f408.wr W412
          have f415 : own_BV Z h412 aO (100 : Int32) := f409.other W412 nO
          have f416 : own_BV Z h412 aT (100 : Int32) := f410.other W412 nT
          have V412 : own_BA Z h412 a3 z := V406.st ja412 jb412 W412 (fits_nar_byte _)
          have N412 := Fr.snoc X412 N406 g3
          have Z412 : n0 ≤ h412.size := Nat.le_trans Z406 (Keep.of_wr W412).1
          have K412 : Keep h0 h412 [a3] := K406.wr W412 (Or.inl (List.mem_of_getElem? (i := 0) rfl))
          obtain ⟨fs, hr, hrun, hended, hW, hsame⟩ := X412.leave (v := some (.int (((q8 + (-1 : Int32)) + (-1 : Int32)) + (-1 : Int32)))) (fun h => by rw [Bd.returns] at h; cases h)
          refine ⟨_, _, pre0 _ ?_, hrun, hended, _, _, rfl, ?_, ⟨_, rfl⟩, hW, hsame.mono (by decide) (by decide)⟩
          · refine G403 _ ?_
            refine own_icmpNo X397.here hx (hb hby d33_161) (tlt hc161).2.1 ?_
            refine own_aloadN X397.here hx (hb hby d33_164) rfl rfl ?_
            refine own_iinc X397.here hx (-1 : Int32) (hb hby d33_165) rfl rfl (l' := #[.val (.long n4), .second, .val (.int p2), .val (.ref a3), l4, l5, l68, .val (.int ((q8 + (-1 : Int32)) + (-1 : Int32))), .val (.int 1), l98, .val (.int k8)]) rfl ?_
            refine own_iload X397.here hx (hb hby d33_168) rfl ?_
            refine st404 _ ?_
            show Steps p.tables e below (T404.setTop (mkF m 173 #[.val (.long n4), .second, .val (.int p2), .val (.ref a3), l4, l5, l68, .val (.int ((q8 + (-1 : Int32)) + (-1 : Int32))), .val (.int 1), l98, .val (.int k8)] [(.ref aT), (.int ((q8 + (-1 : Int32)) + (-1 : Int32))), (.ref a3)])) _
            refine own_iload X404.here hx (hb hby d33_173) rfl ?_
            refine own_ineg X404.here hx (hb hby d33_175) ?_
            refine X404.baloadBytes hx (j := (-k8)) (v := (.int x405)) (by rw [e404]; exact Ar405.1) (State.isArrayOf_alike hZ.alike Ar405.2.1) Ar405.2.2 hin405 hat405 (g := (mkF m 176 #[.val (.long n4), .second, .val (.int p2), .val (.ref a3), l4, l5, l68, .val (.int ((q8 + (-1 : Int32)) + (-1 : Int32))), .val (.int 1), l98, .val (.int k8)] [(.int (-k8)), (.ref aT), (.int ((q8 + (-1 : Int32)) + (-1 : Int32))), (.ref a3)])) rfl rfl (hb hby d33_176) _ ?_
            show Steps p.tables e below (T404.setTop (mkF m 177 #[.val (.long n4), .second, .val (.int p2), .val (.ref a3), l4, l5, l68, .val (.int ((q8 + (-1 : Int32)) + (-1 : Int32))), .val (.int 1), l98, .val (.int k8)] [(.int x405), (.int ((q8 + (-1 : Int32)) + (-1 : Int32))), (.ref a3)])) _
            refine st406 _ ?_
            show Steps p.tables e below (T406.setTop (mkF m 178 #[.val (.long n4), .second, .val (.int p2), .val (.ref a3), l4, l5, l68, .val (.int ((q8 + (-1 : Int32)) + (-1 : Int32))), .val (.int 1), l98, .val (.int k8)] [])) _
            refine own_iload X406.here hx (hb hby d33_178) rfl ?_
            refine own_ifNo X406.here hx (hb hby d33_180) ((if0 _ _).trans (feq (by decide : ¬ ((1 : Int32) = (0 : Int32)))).1) ?_
            refine own_aloadN X406.here hx (hb hby d33_183) rfl rfl ?_
            refine own_iinc X406.here hx (-1 : Int32) (hb hby d33_184) rfl rfl (l' := #[.val (.long n4), .second, .val (.int p2), .val (.ref a3), l4, l5, l68, .val (.int (((q8 + (-1 : Int32)) + (-1 : Int32)) + (-1 : Int32))), .val (.int 1), l98, .val (.int k8)]) rfl ?_
            refine own_iload X406.here hx (hb hby d33_187) rfl ?_
            refine own_bipush X406.here hx (45 : Int32) (hb hby d33_189) rfl ?_
            refine st412 _ ?_
            show Steps p.tables e below (T412.setTop (mkF m 192 #[.val (.long n4), .second, .val (.int p2), .val (.ref a3), l4, l5, l68, .val (.int (((q8 + (-1 : Int32)) + (-1 : Int32)) + (-1 : Int32))), .val (.int 1), l98, .val (.int k8)] [])) _
            refine own_iload X412.here hx (hb hby d33_192) rfl ?_
            exact retI X412 hx Bd.returns (hb hby d33_194) hr
          · show QGC Z p1 p2 a3 aO aT z k h0 n0 _ T412.heap _
            rw [e412]
            exact ⟨_, rfl, N412, K412, V412⟩
        · have g83 := own_tail3a V397.2.pos hi8 hc90
          have ja418 : ¬ ((q8 + (-1 : Int32)) + (-1 : Int32)) < 0 := g83.1
          have jb418 : ((q8 + (-1 : Int32)) + (-1 : Int32)) < z := g83.2
          obtain ⟨kk418, vs418, ⟨cl418, Ar418, q418, S418, M418, H418, J418⟩, lv418⟩ := id V397.2
          obtain ⟨T418, h418, X418, e418, W418, st418⟩ := stB X397 hx hZ e397 Ar418 (j := ((q8 + (-1 : Int32)) + (-1 : Int32))) (inb_of S418 ⟨ja418, jb418⟩) (g := (mkF m 191 #[.val (.long n4), .second, .val (.int p2), .val (.ref a3), l4, l5, l68, .val (.int ((q8 + (-1 : Int32)) + (-1 : Int32))), .val (.int 1), l98, .val (.int k8)] [(.int 45), (.int ((q8 + (-1 : Int32)) + (-1 : Int32))), (.ref a3)])) rfl rfl (hb hby d33_191)
          have f419 : Sta Z h418 "java/lang/Integer" "DigitOnes" "[B" (.ref aO) := f398.wr W418
          have f420 : Sta Z h418 "java/lang/Integer" "DigitTens" "[B" (.ref aT) := f399.wr W418
          have f421 : own_BV Z h418 aO (100 : Int32) := f401.other W418 nO
          have f422 : own_BV Z h418 aT (100 : Int32) := f402.other W418 nT
          have V418 : own_BA Z h418 a3 z := V397.st ja418 jb418 W418 (fits_nar_byte _)
          have N418 := Fr.snoc X418 N397 g3
          have Z418 : n0 ≤ h418.size := Nat.le_trans Z397 (Keep.of_wr W418).1
          have K418 : Keep h0 h418 [a3] := K397.wr W418 (Or.inl (List.mem_of_getElem? (i := 0) rfl))
          obtain ⟨fs, hr, hrun, hended, hW, hsame⟩ := X418.leave (v := some (.int ((q8 + (-1 : Int32)) + (-1 : Int32)))) (fun h => by rw [Bd.returns] at h; cases h)
          refine ⟨_, _, pre0 _ ?_, hrun, hended, _, _, rfl, ?_, ⟨_, rfl⟩, hW, hsame.mono (by decide) (by decide)⟩
          · refine G403 _ ?_
            refine own_icmpYes X397.here hx 161 178 rfl (hb hby d33_161) (flt hc161).2.1 (by decide) (by decide) ?_
            refine own_iload X397.here hx (hb hby d33_178) rfl ?_
            refine own_ifNo X397.here hx (hb hby d33_180) ((if0 _ _).trans (feq (by decide : ¬ ((1 : Int32) = (0 : Int32)))).1) ?_
            refine own_aloadN X397.here hx (hb hby d33_183) rfl rfl ?_
            refine own_iinc X397.here hx (-1 : Int32) (hb hby d33_184) rfl rfl (l' := #[.val (.long n4), .second, .val (.int p2), .val (.ref a3), l4, l5, l68, .val (.int ((q8 + (-1 : Int32)) + (-1 : Int32))), .val (.int 1), l98, .val (.int k8)]) rfl ?_
            refine own_iload X397.here hx (hb hby d33_187) rfl ?_
            refine own_bipush X397.here hx (45 : Int32) (hb hby d33_189) rfl ?_
            refine st418 _ ?_
            show Steps p.tables e below (T418.setTop (mkF m 192 #[.val (.long n4), .second, .val (.int p2), .val (.ref a3), l4, l5, l68, .val (.int ((q8 + (-1 : Int32)) + (-1 : Int32))), .val (.int 1), l98, .val (.int k8)] [])) _
            refine own_iload X418.here hx (hb hby d33_192) rfl ?_
            exact retI X418 hx Bd.returns (hb hby d33_194) hr
          · show QGC Z p1 p2 a3 aO aT z k h0 n0 _ T418.heap _
            rw [e418]
            exact ⟨_, rfl, N418, K418, V418⟩
      · have g86 := own_turn2 B8.2.pos hi8 hc90
        obtain ⟨T424, X424, e424, st424⟩ := getS2 X8 hx hZ hown (host := "") (Or.inl (own_w hw 206 rfl)) Via.refl e8 SO8 (g := (mkF m 120 #[.val (.long n4), .second, .val (.int p2), .val (.ref a3), l4, l5, .val (.int (((k8 / (100 : Int32)) * (100 : Int32)) - k8)), .val (.int (q8 + (-1 : Int32))), .val (.int 1), .val (.int (k8 / (100 : Int32))), .val (.int (k8 / (100 : Int32)))] [(.int (q8 + (-1 : Int32))), (.ref a3)])) rfl (hb hby d33_120)
        obtain ⟨cl425, x425, Ar425, hin425, hat425⟩ := own_BV.rd BO8 (j := (((k8 / (100 : Int32)) * (100 : Int32)) - k8)) g86.1 g86.2.1
        have ja426 : ¬ (q8 + (-1 : Int32)) < 0 := g86.2.2.1
        have jb426 : (q8 + (-1 : Int32)) < z := g86.2.2.2.1
        obtain ⟨kk426, vs426, ⟨cl426, Ar426, q426, S426, M426, H426, J426⟩, lv426⟩ := id B8.2
        obtain ⟨T426, h426, X426, e426, W426, st426⟩ := stB X424 hx hZ e424 Ar426 (j := (q8 + (-1 : Int32))) (inb_of S426 ⟨ja426, jb426⟩) (g := (mkF m 126 #[.val (.long n4), .second, .val (.int p2), .val (.ref a3), l4, l5, .val (.int (((k8 / (100 : Int32)) * (100 : Int32)) - k8)), .val (.int (q8 + (-1 : Int32))), .val (.int 1), .val (.int (k8 / (100 : Int32))), .val (.int (k8 / (100 : Int32)))] [(.int x425), (.int (q8 + (-1 : Int32))), (.ref a3)])) rfl rfl (hb hby d33_126)
        have f427 : Sta Z h426 "java/lang/Integer" "DigitOnes" "[B" (.ref aO) := SO8.wr W426
        have f428 : Sta Z h426 "java/lang/Integer" "DigitTens" "[B" (.ref aT) := ST8.wr W426
        have f430 : own_BV Z h426 aO (100 : Int32) := BO8.other W426 nO
        have f431 : own_BV Z h426 aT (100 : Int32) := BT8.other W426 nT
        have V426 : own_BA Z h426 a3 z := B8.st ja426 jb426 W426 (fits_nar_byte _)
        have N426 := Fr.snoc X426 N8 g3
        have Z426 : n0 ≤ h426.size := Nat.le_trans Z8 (Keep.of_wr W426).1
        have K426 : Keep h0 h426 [a3] := K8.wr W426 (Or.inl (List.mem_of_getElem? (i := 0) rfl))
        obtain ⟨T432, X432, e432, st432⟩ := getS2 X426 hx hZ hown (host := "") (Or.inl (own_w hw 208 rfl)) Via.refl e426 f428 (g := (mkF m 133 #[.val (.long n4), .second, .val (.int p2), .val (.ref a3), l4, l5, .val (.int (((k8 / (100 : Int32)) * (100 : Int32)) - k8)), .val (.int ((q8 + (-1 : Int32)) + (-1 : Int32))), .val (.int 1), .val (.int (k8 / (100 : Int32))), .val (.int (k8 / (100 : Int32)))] [(.int ((q8 + (-1 : Int32)) + (-1 : Int32))), (.ref a3)])) rfl (hb hby d33_133)
        obtain ⟨cl433, x433, Ar433, hin433, hat433⟩ := own_BV.rd f431 (j := (((k8 / (100 : Int32)) * (100 : Int32)) - k8)) g86.1 g86.2.1
        have ja434 : ¬ ((q8 + (-1 : Int32)) + (-1 : Int32)) < 0 := g86.2.2.2.2.1
        have jb434 : ((q8 + (-1 : Int32)) + (-1 : Int32)) < z := g86.2.2.2.2.2.1
        obtain ⟨kk434, vs434, ⟨cl434, Ar434, q434, S434, M434, H434, J434⟩, lv434⟩ := id V426.2
        obtain ⟨T434, h434, X434, e434, W434, st434⟩ := stB X432 hx hZ e432 Ar434 (j := ((q8 + (-1 : Int32)) + (-1 : Int32))) (inb_of S434 ⟨ja434, jb434⟩) (g := (mkF m 139 #[.val (.long n4), .second, .val (.int p2), .val (.ref a3), l4, l5, .val (.int (((k8 / (100 : Int32)) * (100 : Int32)) - k8)), .val (.int ((q8 + (-1 : Int32)) + (-1 : Int32))), .val (.int 1), .val (.int (k8 / (100 : Int32))), .val (.int (k8 / (100 : Int32)))] [(.int x433), (.int ((q8 + (-1 : Int32)) + (-1 : Int32))), (.ref a3)])) rfl rfl (hb hby d33_139)
        have f435 : Sta Z h434 "java/lang/Integer" "DigitOnes" "[B" (.ref aO) := f427.wr W434
        have f436 : Sta Z h434 "java/lang/Integer" "DigitTens" "[B" (.ref aT) := f428.wr W434
        have f437 : own_BV Z h434 aO (100 : Int32) := f430.other W434 nO
        have f438 : own_BV Z h434 aT (100 : Int32) := f431.other W434 nT
        have V434 : own_BA Z h434 a3 z := V426.st ja434 jb434 W434 (fits_nar_byte _)
        have N434 := Fr.snoc X434 N426 g3
        have Z434 : n0 ≤ h434.size := Nat.le_trans Z426 (Keep.of_wr W434).1
        have K434 : Keep h0 h434 [a3] := K426.wr W434 (Or.inl (List.mem_of_getElem? (i := 0) rfl))
        have G440 : ∀ tG, Steps p.tables e below (T434.setTop (mkF m 86 #[.val (.long n4), .second, .val (.int p2), .val (.ref a3), l4, l5, .val (.int (((k8 / (100 : Int32)) * (100 : Int32)) - k8)), .val (.int ((q8 + (-1 : Int32)) + (-1 : Int32))), .val (.int 1), .val (.int (k8 / (100 : Int32))), .val (.int (k8 / (100 : Int32)))] [])) tG → Steps p.tables e below (s₁.setTop (mkF m 0 #[.val (.long p1), .second, .val (.int p2), .val (.ref a3), .unset, .unset, .unset, .unset, .unset, .unset, .unset] [])) tG := by
          intro tG kG
          refine G394 _ ?_
          refine own_icmpNo X8.here hx (hb hby d33_90) (flt hc90).2.2.1 ?_
          refine own_iload X8.here hx (hb hby d33_93) rfl ?_
          refine own_bipush X8.here hx (100 : Int32) (hb hby d33_95) rfl ?_
          refine own_idiv X8.here hx (hb hby d33_97) (by decide) ?_
          refine own_istore X8.here hx (hb hby d33_98) (l' := #[.val (.long n4), .second, .val (.int p2), .val (.ref a3), l4, l5, l68, .val (.int q8), .val (.int 1), .val (.int (k8 / (100 : Int32))), .val (.int k8)]) (by rcases hs98 with rfl | ⟨_, rfl⟩ <;> rfl) ?_
          refine own_iload X8.here hx (hb hby d33_100) rfl ?_
          refine own_bipush X8.here hx (100 : Int32) (hb hby d33_102) rfl ?_
          refine own_imul X8.here hx (hb hby d33_104) ?_
          refine own_iload X8.here hx (hb hby d33_105) rfl ?_
          refine own_isub X8.here hx (hb hby d33_107) ?_
          refine own_istore X8.here hx (hb hby d33_108) (l' := #[.val (.long n4), .second, .val (.int p2), .val (.ref a3), l4, l5, .val (.int (((k8 / (100 : Int32)) * (100 : Int32)) - k8)), .val (.int q8), .val (.int 1), .val (.int (k8 / (100 : Int32))), .val (.int k8)]) (by rcases hs68 with rfl | ⟨_, rfl⟩ <;> rfl) ?_
          refine own_iload X8.here hx (hb hby d33_110) rfl ?_
          refine own_istore X8.here hx (hb hby d33_112) (l' := #[.val (.long n4), .second, .val (.int p2), .val (.ref a3), l4, l5, .val (.int (((k8 / (100 : Int32)) * (100 : Int32)) - k8)), .val (.int q8), .val (.int 1), .val (.int (k8 / (100 : Int32))), .val (.int (k8 / (100 : Int32)))]) rfl ?_
          refine own_aloadN X8.here hx (hb hby d33_114) rfl rfl ?_
          refine own_iinc X8.here hx (-1 : Int32) (hb hby d33_115) rfl rfl (l' := #[.val (.long n4), .second, .val (.int p2), .val (.ref a3), l4, l5, .val (.int (((k8 / (100 : Int32)) * (100 : Int32)) - k8)), .val (.int (q8 + (-1 : Int32))), .val (.int 1), .val (.int (k8 / (100 : Int32))), .val (.int (k8 / (100 : Int32)))]) rfl ?_
          refine own_iload X8.here hx (hb hby d33_118) rfl ?_
          refine st424 _ ?_
          show Steps p.tables e below (T424.setTop (mkF m 123 #[.val (.long n4), .second, .val (.int p2), .val (.ref a3), l4, l5, .val (.int (((k8 / (100 : Int32)) * (100 : Int32)) - k8)), .val (.int (q8 + (-1 : Int32))), .val (.int 1), .val (.int (k8 / (100 : Int32))), .val (.int (k8 / (100 : Int32)))] [(.ref aO), (.int (q8 + (-1 : Int32))), (.ref a3)])) _
          refine own_iload X424.here hx (hb hby d33_123) rfl ?_
          refine X424.baloadBytes hx (j := (((k8 / (100 : Int32)) * (100 : Int32)) - k8)) (v := (.int x425)) (by rw [e424]; exact Ar425.1) (State.isArrayOf_alike hZ.alike Ar425.2.1) Ar425.2.2 hin425 hat425 (g := (mkF m 125 #[.val (.long n4), .second, .val (.int p2), .val (.ref a3), l4, l5, .val (.int (((k8 / (100 : Int32)) * (100 : Int32)) - k8)), .val (.int (q8 + (-1 : Int32))), .val (.int 1), .val (.int (k8 / (100 : Int32))), .val (.int (k8 / (100 : Int32)))] [(.int (((k8 / (100 : Int32)) * (100 : Int32)) - k8)), (.ref aO), (.int (q8 + (-1 : Int32))), (.ref a3)])) rfl rfl (hb hby d33_125) _ ?_
          show Steps p.tables e below (T424.setTop (mkF m 126 #[.val (.long n4), .second, .val (.int p2), .val (.ref a3), l4, l5, .val (.int (((k8 / (100 : Int32)) * (100 : Int32)) - k8)), .val (.int (q8 + (-1 : Int32))), .val (.int 1), .val (.int (k8 / (100 : Int32))), .val (.int (k8 / (100 : Int32)))] [(.int x425), (.int (q8 + (-1 : Int32))), (.ref a3)])) _
          refine st426 _ ?_
          show Steps p.tables e below (T426.setTop (mkF m 127 #[.val (.long n4), .second, .val (.int p2), .val (.ref a3), l4, l5, .val (.int (((k8 / (100 : Int32)) * (100 : Int32)) - k8)), .val (.int (q8 + (-1 : Int32))), .val (.int 1), .val (.int (k8 / (100 : Int32))), .val (.int (k8 / (100 : Int32)))] [])) _
          refine own_aloadN X426.here hx (hb hby d33_127) rfl rfl ?_
          refine own_iinc X426.here hx (-1 : Int32) (hb hby d33_128) rfl rfl (l' := #[.val (.long n4), .second, .val (.int p2), .val (.ref a3), l4, l5, .val (.int (((k8 / (100 : Int32)) * (100 : Int32)) - k8)), .val (.int ((q8 + (-1 : Int32)) + (-1 : Int32))), .val (.int 1), .val (.int (k8 / (100 : Int32))), .val (.int (k8 / (100 : Int32)))]) rfl ?_
          refine own_iload X426.here hx (hb hby d33_131) rfl ?_
          refine st432 _ ?_
          show Steps p.tables e below (T432.setTop (mkF m 136 #[.val (.long n4), .second, .val (.int p2), .val (.ref a3), l4, l5, .val (.int (((k8 / (100 : Int32)) * (100 : Int32)) - k8)), .val (.int ((q8 + (-1 : Int32)) + (-1 : Int32))), .val (.int 1), .val (.int (k8 / (100 : Int32))), .val (.int (k8 / (100 : Int32)))] [(.ref aT), (.int ((q8 + (-1 : Int32)) + (-1 : Int32))), (.ref a3)])) _
          refine own_iload X432.here hx (hb hby d33_136) rfl ?_
          refine X432.baloadBytes hx (j := (((k8 / (100 : Int32)) * (100 : Int32)) - k8)) (v := (.int x433)) (by rw [e432]; exact Ar433.1) (State.isArrayOf_alike hZ.alike Ar433.2.1) Ar433.2.2 hin433 hat433 (g := (mkF m 138 #[.val (.long n4), .second, .val (.int p2), .val (.ref a3), l4, l5, .val (.int (((k8 / (100 : Int32)) * (100 : Int32)) - k8)), .val (.int ((q8 + (-1 : Int32)) + (-1 : Int32))), .val (.int 1), .val (.int (k8 / (100 : Int32))), .val (.int (k8 / (100 : Int32)))] [(.int (((k8 / (100 : Int32)) * (100 : Int32)) - k8)), (.ref aT), (.int ((q8 + (-1 : Int32)) + (-1 : Int32))), (.ref a3)])) rfl rfl (hb hby d33_138) _ ?_
          show Steps p.tables e below (T432.setTop (mkF m 139 #[.val (.long n4), .second, .val (.int p2), .val (.ref a3), l4, l5, .val (.int (((k8 / (100 : Int32)) * (100 : Int32)) - k8)), .val (.int ((q8 + (-1 : Int32)) + (-1 : Int32))), .val (.int 1), .val (.int (k8 / (100 : Int32))), .val (.int (k8 / (100 : Int32)))] [(.int x433), (.int ((q8 + (-1 : Int32)) + (-1 : Int32))), (.ref a3)])) _
          refine st434 _ ?_
          show Steps p.tables e below (T434.setTop (mkF m 140 #[.val (.long n4), .second, .val (.int p2), .val (.ref a3), l4, l5, .val (.int (((k8 / (100 : Int32)) * (100 : Int32)) - k8)), .val (.int ((q8 + (-1 : Int32)) + (-1 : Int32))), .val (.int 1), .val (.int (k8 / (100 : Int32))), .val (.int (k8 / (100 : Int32)))] [])) _
          refine own_goto X434.here hx 140 86 rfl (hb hby d33_140) (by decide) (by decide) ?_
          exact kG
        exact ih86 _ _ _ _ _ _ _ .unset g86.2.2.2.2.2.2.2 ⟨X434, e434, N434, Z434, K434, V434, f435, f436, f437, f438, g86.2.2.2.2.2.2.1, Or.inr ⟨_, rfl⟩, Or.inr ⟨_, rfl⟩, G440⟩
    · have g24 := own_turn1 B4.2.pos hi4 hc29
      obtain ⟨T441, X441, e441, st441⟩ := getS2 X4 hx hZ hown (host := "") (Or.inl (own_w hw 206 rfl)) Via.refl e4 SO4 (g := (mkF m 59 #[.val (.long (n4 / (100 : Int64))), .second, .val (.int p2), .val (.ref a3), .val (.long (n4 / (100 : Int64))), .second, .val (.int ((((n4 / (100 : Int64)) * (100 : Int64)) - n4).toInt32)), .val (.int (q4 + (-1 : Int32))), .val (.int 1), .unset, .unset] [(.int (q4 + (-1 : Int32))), (.ref a3)])) rfl (hb hby d33_59)
      obtain ⟨cl442, x442, Ar442, hin442, hat442⟩ := own_BV.rd BO4 (j := ((((n4 / (100 : Int64)) * (100 : Int64)) - n4).toInt32)) g24.1 g24.2.1
      have ja443 : ¬ (q4 + (-1 : Int32)) < 0 := g24.2.2.1
      have jb443 : (q4 + (-1 : Int32)) < z := g24.2.2.2.1
      obtain ⟨kk443, vs443, ⟨cl443, Ar443, q443, S443, M443, H443, J443⟩, lv443⟩ := id B4.2
      obtain ⟨T443, h443, X443, e443, W443, st443⟩ := stB X441 hx hZ e441 Ar443 (j := (q4 + (-1 : Int32))) (inb_of S443 ⟨ja443, jb443⟩) (g := (mkF m 65 #[.val (.long (n4 / (100 : Int64))), .second, .val (.int p2), .val (.ref a3), .val (.long (n4 / (100 : Int64))), .second, .val (.int ((((n4 / (100 : Int64)) * (100 : Int64)) - n4).toInt32)), .val (.int (q4 + (-1 : Int32))), .val (.int 1), .unset, .unset] [(.int x442), (.int (q4 + (-1 : Int32))), (.ref a3)])) rfl rfl (hb hby d33_65)
      have f444 : Sta Z h443 "java/lang/Integer" "DigitOnes" "[B" (.ref aO) := SO4.wr W443
      have f445 : Sta Z h443 "java/lang/Integer" "DigitTens" "[B" (.ref aT) := ST4.wr W443
      have f447 : own_BV Z h443 aO (100 : Int32) := BO4.other W443 nO
      have f448 : own_BV Z h443 aT (100 : Int32) := BT4.other W443 nT
      have V443 : own_BA Z h443 a3 z := B4.st ja443 jb443 W443 (fits_nar_byte _)
      have N443 := Fr.snoc X443 N4 g3
      have Z443 : n0 ≤ h443.size := Nat.le_trans Z4 (Keep.of_wr W443).1
      have K443 : Keep h0 h443 [a3] := K4.wr W443 (Or.inl (List.mem_of_getElem? (i := 0) rfl))
      obtain ⟨T449, X449, e449, st449⟩ := getS2 X443 hx hZ hown (host := "") (Or.inl (own_w hw 208 rfl)) Via.refl e443 f445 (g := (mkF m 72 #[.val (.long (n4 / (100 : Int64))), .second, .val (.int p2), .val (.ref a3), .val (.long (n4 / (100 : Int64))), .second, .val (.int ((((n4 / (100 : Int64)) * (100 : Int64)) - n4).toInt32)), .val (.int ((q4 + (-1 : Int32)) + (-1 : Int32))), .val (.int 1), .unset, .unset] [(.int ((q4 + (-1 : Int32)) + (-1 : Int32))), (.ref a3)])) rfl (hb hby d33_72)
      obtain ⟨cl450, x450, Ar450, hin450, hat450⟩ := own_BV.rd f448 (j := ((((n4 / (100 : Int64)) * (100 : Int64)) - n4).toInt32)) g24.1 g24.2.1
      have ja451 : ¬ ((q4 + (-1 : Int32)) + (-1 : Int32)) < 0 := g24.2.2.2.2.1
      have jb451 : ((q4 + (-1 : Int32)) + (-1 : Int32)) < z := g24.2.2.2.2.2.1
      obtain ⟨kk451, vs451, ⟨cl451, Ar451, q451, S451, M451, H451, J451⟩, lv451⟩ := id V443.2
      obtain ⟨T451, h451, X451, e451, W451, st451⟩ := stB X449 hx hZ e449 Ar451 (j := ((q4 + (-1 : Int32)) + (-1 : Int32))) (inb_of S451 ⟨ja451, jb451⟩) (g := (mkF m 78 #[.val (.long (n4 / (100 : Int64))), .second, .val (.int p2), .val (.ref a3), .val (.long (n4 / (100 : Int64))), .second, .val (.int ((((n4 / (100 : Int64)) * (100 : Int64)) - n4).toInt32)), .val (.int ((q4 + (-1 : Int32)) + (-1 : Int32))), .val (.int 1), .unset, .unset] [(.int x450), (.int ((q4 + (-1 : Int32)) + (-1 : Int32))), (.ref a3)])) rfl rfl (hb hby d33_78)
      have f452 : Sta Z h451 "java/lang/Integer" "DigitOnes" "[B" (.ref aO) := f444.wr W451
      have f453 : Sta Z h451 "java/lang/Integer" "DigitTens" "[B" (.ref aT) := f445.wr W451
      have f454 : own_BV Z h451 aO (100 : Int32) := f447.other W451 nO
      have f455 : own_BV Z h451 aT (100 : Int32) := f448.other W451 nT
      have V451 : own_BA Z h451 a3 z := V443.st ja451 jb451 W451 (fits_nar_byte _)
      have N451 := Fr.snoc X451 N443 g3
      have Z451 : n0 ≤ h451.size := Nat.le_trans Z443 (Keep.of_wr W451).1
      have K451 : Keep h0 h451 [a3] := K443.wr W451 (Or.inl (List.mem_of_getElem? (i := 0) rfl))
      have G457 : ∀ tG, Steps p.tables e below (T451.setTop (mkF m 24 #[.val (.long (n4 / (100 : Int64))), .second, .val (.int p2), .val (.ref a3), .val (.long (n4 / (100 : Int64))), .second, .val (.int ((((n4 / (100 : Int64)) * (100 : Int64)) - n4).toInt32)), .val (.int ((q4 + (-1 : Int32)) + (-1 : Int32))), .val (.int 1), .unset, .unset] [])) tG → Steps p.tables e below (s₁.setTop (mkF m 0 #[.val (.long p1), .second, .val (.int p2), .val (.ref a3), .unset, .unset, .unset, .unset, .unset, .unset, .unset] [])) tG := by
        intro tG kG
        refine G392 _ ?_
        refine own_ifNo X4.here hx (hb hby d33_29) ((if0 _ _).trans (flt hc29).2.2.1) ?_
        refine own_lloadN X4.here hx (hb hby d33_32) rfl ?_
        refine X4.ldc2Long hx hown (mvT hZ (own_w hw 264 rfl)) (g := (mkF m 33 #[.val (.long n4), .second, .val (.int p2), .val (.ref a3), l4, l5, l6, .val (.int q4), .val (.int 1), .unset, .unset] [(.long n4)])) rfl (hb hby d33_33) _ ?_
        show Steps p.tables e below (T4.setTop (mkF m 36 #[.val (.long n4), .second, .val (.int p2), .val (.ref a3), l4, l5, l6, .val (.int q4), .val (.int 1), .unset, .unset] [(.long 100), (.long n4)])) _
        refine own_ldiv X4.here hx (hb hby d33_36) (by decide) ?_
        refine own_lstore X4.here hx (hb hby d33_37) (l' := #[.val (.long n4), .second, .val (.int p2), .val (.ref a3), .val (.long (n4 / (100 : Int64))), .second, l6, .val (.int q4), .val (.int 1), .unset, .unset]) (by rcases hs4 with ⟨rfl, rfl⟩ | ⟨_, rfl, rfl⟩ <;> rfl) ?_
        refine own_lload X4.here hx (hb hby d33_39) rfl ?_
        refine X4.ldc2Long hx hown (mvT hZ (own_w hw 264 rfl)) (g := (mkF m 41 #[.val (.long n4), .second, .val (.int p2), .val (.ref a3), .val (.long (n4 / (100 : Int64))), .second, l6, .val (.int q4), .val (.int 1), .unset, .unset] [(.long (n4 / (100 : Int64)))])) rfl (hb hby d33_41) _ ?_
        show Steps p.tables e below (T4.setTop (mkF m 44 #[.val (.long n4), .second, .val (.int p2), .val (.ref a3), .val (.long (n4 / (100 : Int64))), .second, l6, .val (.int q4), .val (.int 1), .unset, .unset] [(.long 100), (.long (n4 / (100 : Int64)))])) _
        refine own_lmul X4.here hx (hb hby d33_44) ?_
        refine own_lloadN X4.here hx (hb hby d33_45) rfl ?_
        refine own_lsub X4.here hx (hb hby d33_46) ?_
        refine own_l2i X4.here hx (hb hby d33_47) ?_
        refine own_istore X4.here hx (hb hby d33_48) (l' := #[.val (.long n4), .second, .val (.int p2), .val (.ref a3), .val (.long (n4 / (100 : Int64))), .second, .val (.int ((((n4 / (100 : Int64)) * (100 : Int64)) - n4).toInt32)), .val (.int q4), .val (.int 1), .unset, .unset]) (by rcases hs6 with rfl | ⟨_, rfl⟩ <;> rfl) ?_
        refine own_lload X4.here hx (hb hby d33_50) rfl ?_
        refine own_lstoreN X4.here hx (hb hby d33_52) (l' := #[.val (.long (n4 / (100 : Int64))), .second, .val (.int p2), .val (.ref a3), .val (.long (n4 / (100 : Int64))), .second, .val (.int ((((n4 / (100 : Int64)) * (100 : Int64)) - n4).toInt32)), .val (.int q4), .val (.int 1), .unset, .unset]) rfl ?_
        refine own_aloadN X4.here hx (hb hby d33_53) rfl rfl ?_
        refine own_iinc X4.here hx (-1 : Int32) (hb hby d33_54) rfl rfl (l' := #[.val (.long (n4 / (100 : Int64))), .second, .val (.int p2), .val (.ref a3), .val (.long (n4 / (100 : Int64))), .second, .val (.int ((((n4 / (100 : Int64)) * (100 : Int64)) - n4).toInt32)), .val (.int (q4 + (-1 : Int32))), .val (.int 1), .unset, .unset]) rfl ?_
        refine own_iload X4.here hx (hb hby d33_57) rfl ?_
        refine st441 _ ?_
        show Steps p.tables e below (T441.setTop (mkF m 62 #[.val (.long (n4 / (100 : Int64))), .second, .val (.int p2), .val (.ref a3), .val (.long (n4 / (100 : Int64))), .second, .val (.int ((((n4 / (100 : Int64)) * (100 : Int64)) - n4).toInt32)), .val (.int (q4 + (-1 : Int32))), .val (.int 1), .unset, .unset] [(.ref aO), (.int (q4 + (-1 : Int32))), (.ref a3)])) _
        refine own_iload X441.here hx (hb hby d33_62) rfl ?_
        refine X441.baloadBytes hx (j := ((((n4 / (100 : Int64)) * (100 : Int64)) - n4).toInt32)) (v := (.int x442)) (by rw [e441]; exact Ar442.1) (State.isArrayOf_alike hZ.alike Ar442.2.1) Ar442.2.2 hin442 hat442 (g := (mkF m 64 #[.val (.long (n4 / (100 : Int64))), .second, .val (.int p2), .val (.ref a3), .val (.long (n4 / (100 : Int64))), .second, .val (.int ((((n4 / (100 : Int64)) * (100 : Int64)) - n4).toInt32)), .val (.int (q4 + (-1 : Int32))), .val (.int 1), .unset, .unset] [(.int ((((n4 / (100 : Int64)) * (100 : Int64)) - n4).toInt32)), (.ref aO), (.int (q4 + (-1 : Int32))), (.ref a3)])) rfl rfl (hb hby d33_64) _ ?_
        show Steps p.tables e below (T441.setTop (mkF m 65 #[.val (.long (n4 / (100 : Int64))), .second, .val (.int p2), .val (.ref a3), .val (.long (n4 / (100 : Int64))), .second, .val (.int ((((n4 / (100 : Int64)) * (100 : Int64)) - n4).toInt32)), .val (.int (q4 + (-1 : Int32))), .val (.int 1), .unset, .unset] [(.int x442), (.int (q4 + (-1 : Int32))), (.ref a3)])) _
        refine st443 _ ?_
        show Steps p.tables e below (T443.setTop (mkF m 66 #[.val (.long (n4 / (100 : Int64))), .second, .val (.int p2), .val (.ref a3), .val (.long (n4 / (100 : Int64))), .second, .val (.int ((((n4 / (100 : Int64)) * (100 : Int64)) - n4).toInt32)), .val (.int (q4 + (-1 : Int32))), .val (.int 1), .unset, .unset] [])) _
        refine own_aloadN X443.here hx (hb hby d33_66) rfl rfl ?_
        refine own_iinc X443.here hx (-1 : Int32) (hb hby d33_67) rfl rfl (l' := #[.val (.long (n4 / (100 : Int64))), .second, .val (.int p2), .val (.ref a3), .val (.long (n4 / (100 : Int64))), .second, .val (.int ((((n4 / (100 : Int64)) * (100 : Int64)) - n4).toInt32)), .val (.int ((q4 + (-1 : Int32)) + (-1 : Int32))), .val (.int 1), .unset, .unset]) rfl ?_
        refine own_iload X443.here hx (hb hby d33_70) rfl ?_
        refine st449 _ ?_
        show Steps p.tables e below (T449.setTop (mkF m 75 #[.val (.long (n4 / (100 : Int64))), .second, .val (.int p2), .val (.ref a3), .val (.long (n4 / (100 : Int64))), .second, .val (.int ((((n4 / (100 : Int64)) * (100 : Int64)) - n4).toInt32)), .val (.int ((q4 + (-1 : Int32)) + (-1 : Int32))), .val (.int 1), .unset, .unset] [(.ref aT), (.int ((q4 + (-1 : Int32)) + (-1 : Int32))), (.ref a3)])) _
        refine own_iload X449.here hx (hb hby d33_75) rfl ?_
        refine X449.baloadBytes hx (j := ((((n4 / (100 : Int64)) * (100 : Int64)) - n4).toInt32)) (v := (.int x450)) (by rw [e449]; exact Ar450.1) (State.isArrayOf_alike hZ.alike Ar450.2.1) Ar450.2.2 hin450 hat450 (g := (mkF m 77 #[.val (.long (n4 / (100 : Int64))), .second, .val (.int p2), .val (.ref a3), .val (.long (n4 / (100 : Int64))), .second, .val (.int ((((n4 / (100 : Int64)) * (100 : Int64)) - n4).toInt32)), .val (.int ((q4 + (-1 : Int32)) + (-1 : Int32))), .val (.int 1), .unset, .unset] [(.int ((((n4 / (100 : Int64)) * (100 : Int64)) - n4).toInt32)), (.ref aT), (.int ((q4 + (-1 : Int32)) + (-1 : Int32))), (.ref a3)])) rfl rfl (hb hby d33_77) _ ?_
        show Steps p.tables e below (T449.setTop (mkF m 78 #[.val (.long (n4 / (100 : Int64))), .second, .val (.int p2), .val (.ref a3), .val (.long (n4 / (100 : Int64))), .second, .val (.int ((((n4 / (100 : Int64)) * (100 : Int64)) - n4).toInt32)), .val (.int ((q4 + (-1 : Int32)) + (-1 : Int32))), .val (.int 1), .unset, .unset] [(.int x450), (.int ((q4 + (-1 : Int32)) + (-1 : Int32))), (.ref a3)])) _
        refine st451 _ ?_
        show Steps p.tables e below (T451.setTop (mkF m 79 #[.val (.long (n4 / (100 : Int64))), .second, .val (.int p2), .val (.ref a3), .val (.long (n4 / (100 : Int64))), .second, .val (.int ((((n4 / (100 : Int64)) * (100 : Int64)) - n4).toInt32)), .val (.int ((q4 + (-1 : Int32)) + (-1 : Int32))), .val (.int 1), .unset, .unset] [])) _
        refine own_goto X451.here hx 79 24 rfl (hb hby d33_79) (by decide) (by decide) ?_
        exact kG
      exact ih24 _ _ _ _ _ _ _ _ g24.2.2.2.2.2.2.2 ⟨X451, e451, N451, Z451, K451, V451, f452, f453, f454, f455, g24.2.2.2.2.2.2.1, Or.inr ⟨_, rfl, rfl⟩, Or.inr ⟨_, rfl⟩, G457⟩
  · have G458 : ∀ tG, Steps p.tables e below (s₁.setTop (mkF m 24 #[.val (.long (-p1)), .second, .val (.int p2), .val (.ref a3), .unset, .unset, .unset, .val (.int p2), .val (.int 0), .unset, .unset] [])) tG → Steps p.tables e below (s₁.setTop (mkF m 0 #[.val (.long p1), .second, .val (.int p2), .val (.ref a3), .unset, .unset, .unset, .unset, .unset, .unset, .unset] [])) tG := by
      intro tG kG
      refine G390 _ ?_
      refine own_ifYes X0.here hx 6 13 rfl (hb hby d33_6) ((if0 _ _).trans (flt hc6).2.1) (by decide) (by decide) ?_
      refine own_iconst X0.here hx (0 : Int32) (hb hby d33_13) rfl ?_
      refine own_istore X0.here hx (hb hby d33_14) (l' := #[.val (.long p1), .second, .val (.int p2), .val (.ref a3), .unset, .unset, .unset, .val (.int p2), .val (.int 0), .unset, .unset]) rfl ?_
      refine own_iload X0.here hx (hb hby d33_16) rfl ?_
      refine own_ifNo X0.here hx (hb hby d33_18) ((if0 _ _).trans (teq (by decide : (0 : Int32) = (0 : Int32))).2) ?_
      refine own_lloadN X0.here hx (hb hby d33_21) rfl ?_
      refine own_lneg X0.here hx (hb hby d33_22) ?_
      refine own_lstoreN X0.here hx (hb hby d33_23) (l' := #[.val (.long (-p1)), .second, .val (.int p2), .val (.ref a3), .unset, .unset, .unset, .val (.int p2), .val (.int 0), .unset, .unset]) rfl ?_
      exact kG
    refine own_ind8 (fun n4 : Int64 => (-n4.toInt).toNat) (fun (T4 : State) (L4 : List Loc) (h4 : Heap) (n4 : Int64) (q4 : Int32) (l4 l5 l6 : Slot) => Stand p l e ({ frames := 0, cells := 0, slots := 0, locals := 0 } : Room) s m #[(.long p1), (.int p2), (.ref a3)] below meth c T4 L4 0 0 ∧ T4.heap = h4 ∧ Fr n0 L4 ∧ n0 ≤ h4.size ∧ Keep h0 h4 [a3] ∧ own_BA Z h4 a3 z ∧ Sta Z h4 "java/lang/Integer" "DigitOnes" "[B" (.ref aO) ∧ Sta Z h4 "java/lang/Integer" "DigitTens" "[B" (.ref aT) ∧ own_BV Z h4 aO 100 ∧ own_BV Z h4 aT 100 ∧ own_inv n4.toInt q4 z 0 ∧ own_S2 l4 l5 ∧ own_S1 l6 ∧ (∀ tG, Steps p.tables e below (T4.setTop (mkF m 24 #[.val (.long n4), .second, .val (.int p2), .val (.ref a3), l4, l5, l6, .val (.int q4), .val (.int 0), .unset, .unset] [])) tG → Steps p.tables e below (s₁.setTop (mkF m 0 #[.val (.long p1), .second, .val (.int p2), .val (.ref a3), .unset, .unset, .unset, .unset, .unset, .unset, .unset] [])) tG)) ?_ _ _ _ (-p1) p2 _ _ _ ⟨X0, e0, N0, Z0, (Keep.refl h0 [a3]), BA, SO, ST, BO, BT, (own_i0P hss hq1 hq2 hc6), Or.inl ⟨rfl, rfl⟩, Or.inl rfl, G458⟩
    intro T4 L4 h4 n4 q4 l4 l5 l6 hI4 ih24
    obtain ⟨X4, e4, N4, Z4, K4, B4, SO4, ST4, BO4, BT4, hi4, hs4, hs6, G4⟩ := hI4
    have G459 : ∀ tG, Steps p.tables e below (T4.setTop (mkF m 29 #[.val (.long n4), .second, .val (.int p2), .val (.ref a3), l4, l5, l6, .val (.int q4), .val (.int 0), .unset, .unset] [(.int (lcmpW n4 (-2147483648 : Int64)))])) tG → Steps p.tables e below (s₁.setTop (mkF m 0 #[.val (.long p1), .second, .val (.int p2), .val (.ref a3), .unset, .unset, .unset, .unset, .unset, .unset, .unset] [])) tG := by
      intro tG kG
      refine G4 _ ?_
      refine own_lloadN X4.here hx (hb hby d33_24) rfl ?_
      refine X4.ldc2Long hx hown (mvT hZ (own_w hw 205 rfl)) (g := (mkF m 25 #[.val (.long n4), .second, .val (.int p2), .val (.ref a3), l4, l5, l6, .val (.int q4), .val (.int 0), .unset, .unset] [(.long n4)])) rfl (hb hby d33_25) _ ?_
      show Steps p.tables e below (T4.setTop (mkF m 28 #[.val (.long n4), .second, .val (.int p2), .val (.ref a3), l4, l5, l6, .val (.int q4), .val (.int 0), .unset, .unset] [(.long (-2147483648)), (.long n4)])) _
      refine own_lcmp X4.here hx (hb hby d33_28) ?_
      exact kG
    by_cases hc29 : (0 : Int32) < (lcmpW n4 (-2147483648 : Int64))
    · have G460 : ∀ tG, Steps p.tables e below (T4.setTop (mkF m 86 #[.val (.long n4), .second, .val (.int p2), .val (.ref a3), l4, l5, l6, .val (.int q4), .val (.int 0), .unset, .val (.int (n4.toInt32))] [])) tG → Steps p.tables e below (s₁.setTop (mkF m 0 #[.val (.long p1), .second, .val (.int p2), .val (.ref a3), .unset, .unset, .unset, .unset, .unset, .unset, .unset] [])) tG := by
        intro tG kG
        refine G459 _ ?_
        refine own_ifYes X4.here hx 29 82 rfl (hb hby d33_29) ((if0 _ _).trans (tlt hc29).2.2.1) (by decide) (by decide) ?_
        refine own_lloadN X4.here hx (hb hby d33_82) rfl ?_
        refine own_l2i X4.here hx (hb hby d33_83) ?_
        refine own_istore X4.here hx (hb hby d33_84) (l' := #[.val (.long n4), .second, .val (.int p2), .val (.ref a3), l4, l5, l6, .val (.int q4), .val (.int 0), .unset, .val (.int (n4.toInt32))]) rfl ?_
        exact kG
      refine own_ind8 (fun k8 : Int32 => (-k8.toInt).toNat) (fun (T8 : State) (L8 : List Loc) (h8 : Heap) (k8 : Int32) (q8 : Int32) (l68 l98 lx8 : Slot) => Stand p l e ({ frames := 0, cells := 0, slots := 0, locals := 0 } : Room) s m #[(.long p1), (.int p2), (.ref a3)] below meth c T8 L8 0 0 ∧ T8.heap = h8 ∧ Fr n0 L8 ∧ n0 ≤ h8.size ∧ Keep h0 h8 [a3] ∧ own_BA Z h8 a3 z ∧ Sta Z h8 "java/lang/Integer" "DigitOnes" "[B" (.ref aO) ∧ Sta Z h8 "java/lang/Integer" "DigitTens" "[B" (.ref aT) ∧ own_BV Z h8 aO 100 ∧ own_BV Z h8 aT 100 ∧ own_inv k8.toInt q8 z 0 ∧ own_S1 l68 ∧ own_S1 l98 ∧ (∀ tG, Steps p.tables e below (T8.setTop (mkF m 86 #[.val (.long n4), .second, .val (.int p2), .val (.ref a3), l4, l5, l68, .val (.int q8), .val (.int 0), l98, .val (.int k8)] [])) tG → Steps p.tables e below (s₁.setTop (mkF m 0 #[.val (.long p1), .second, .val (.int p2), .val (.ref a3), .unset, .unset, .unset, .unset, .unset, .unset, .unset] [])) tG)) ?_ _ _ _ (n4.toInt32) q4 _ _ .unset ⟨X4, e4, N4, Z4, K4, B4, SO4, ST4, BO4, BT4, own_to2 hi4 hc29, hs6, Or.inl rfl, G460⟩
      intro T8 L8 h8 k8 q8 l68 l98 lx8 hI8 ih86
      obtain ⟨X8, e8, N8, Z8, K8, B8, SO8, ST8, BO8, BT8, hi8, hs68, hs98, G8⟩ := hI8
      have G461 : ∀ tG, Steps p.tables e below (T8.setTop (mkF m 90 #[.val (.long n4), .second, .val (.int p2), .val (.ref a3), l4, l5, l68, .val (.int q8), .val (.int 0), l98, .val (.int k8)] [(.int (-100)), (.int k8)])) tG → Steps p.tables e below (s₁.setTop (mkF m 0 #[.val (.long p1), .second, .val (.int p2), .val (.ref a3), .unset, .unset, .unset, .unset, .unset, .unset, .unset] [])) tG := by
        intro tG kG
        refine G8 _ ?_
        refine own_iload X8.here hx (hb hby d33_86) rfl ?_
        refine own_bipush X8.here hx (-100 : Int32) (hb hby d33_88) rfl ?_
        exact kG
      by_cases hc90 : (-100 : Int32) < k8
      · have g43 := own_tail1 B8.2.pos hi8 hc90
        obtain ⟨T462, X462, e462, st462⟩ := getS2 X8 hx hZ hown (host := "") (Or.inl (own_w hw 206 rfl)) Via.refl e8 SO8 (g := (mkF m 149 #[.val (.long n4), .second, .val (.int p2), .val (.ref a3), l4, l5, l68, .val (.int (q8 + (-1 : Int32))), .val (.int 0), l98, .val (.int k8)] [(.int (q8 + (-1 : Int32))), (.ref a3)])) rfl (hb hby d33_149)
        obtain ⟨cl463, x463, Ar463, hin463, hat463⟩ := own_BV.rd BO8 (j := (-k8)) g43.1 g43.2.1
        have ja464 : ¬ (q8 + (-1 : Int32)) < 0 := g43.2.2.1
        have jb464 : (q8 + (-1 : Int32)) < z := g43.2.2.2
        obtain ⟨kk464, vs464, ⟨cl464, Ar464, q464, S464, M464, H464, J464⟩, lv464⟩ := id B8.2
        obtain ⟨T464, h464, X464, e464, W464, st464⟩ := stB X462 hx hZ e462 Ar464 (j := (q8 + (-1 : Int32))) (inb_of S464 ⟨ja464, jb464⟩) (g := (mkF m 156 #[.val (.long n4), .second, .val (.int p2), .val (.ref a3), l4, l5, l68, .val (.int (q8 + (-1 : Int32))), .val (.int 0), l98, .val (.int k8)] [(.int x463), (.int (q8 + (-1 : Int32))), (.ref a3)])) rfl rfl (hb hby d33_156)
        have f465 : Sta Z h464 "java/lang/Integer" "DigitOnes" "[B" (.ref aO) := SO8.wr W464
        have f466 : Sta Z h464 "java/lang/Integer" "DigitTens" "[B" (.ref aT) := ST8.wr W464
        have f468 : own_BV Z h464 aO (100 : Int32) := BO8.other W464 nO
        have f469 : own_BV Z h464 aT (100 : Int32) := BT8.other W464 nT
        have V464 : own_BA Z h464 a3 z := B8.st ja464 jb464 W464 (fits_nar_byte _)
        have N464 := Fr.snoc X464 N8 g3
        have Z464 : n0 ≤ h464.size := Nat.le_trans Z8 (Keep.of_wr W464).1
        have K464 : Keep h0 h464 [a3] := K8.wr W464 (Or.inl (List.mem_of_getElem? (i := 0) rfl))
        have G470 : ∀ tG, Steps p.tables e below (T464.setTop (mkF m 161 #[.val (.long n4), .second, .val (.int p2), .val (.ref a3), l4, l5, l68, .val (.int (q8 + (-1 : Int32))), .val (.int 0), l98, .val (.int k8)] [(.int (-9)), (.int k8)])) tG → Steps p.tables e below (s₁.setTop (mkF m 0 #[.val (.long p1), .second, .val (.int p2), .val (.ref a3), .unset, .unset, .unset, .unset, .unset, .unset, .unset] [])) tG := by
          intro tG kG
          refine G461 _ ?_
          refine own_icmpYes X8.here hx 90 143 rfl (hb hby d33_90) (tlt hc90).2.2.1 (by decide) (by decide) ?_
          refine own_aloadN X8.here hx (hb hby d33_143) rfl rfl ?_
          refine own_iinc X8.here hx (-1 : Int32) (hb hby d33_144) rfl rfl (l' := #[.val (.long n4), .second, .val (.int p2), .val (.ref a3), l4, l5, l68, .val (.int (q8 + (-1 : Int32))), .val (.int 0), l98, .val (.int k8)]) rfl ?_
          refine own_iload X8.here hx (hb hby d33_147) rfl ?_
          refine st462 _ ?_
          show Steps p.tables e below (T462.setTop (mkF m 152 #[.val (.long n4), .second, .val (.int p2), .val (.ref a3), l4, l5, l68, .val (.int (q8 + (-1 : Int32))), .val (.int 0), l98, .val (.int k8)] [(.ref aO), (.int (q8 + (-1 : Int32))), (.ref a3)])) _
          refine own_iload X462.here hx (hb hby d33_152) rfl ?_
          refine own_ineg X462.here hx (hb hby d33_154) ?_
          refine X462.baloadBytes hx (j := (-k8)) (v := (.int x463)) (by rw [e462]; exact Ar463.1) (State.isArrayOf_alike hZ.alike Ar463.2.1) Ar463.2.2 hin463 hat463 (g := (mkF m 155 #[.val (.long n4), .second, .val (.int p2), .val (.ref a3), l4, l5, l68, .val (.int (q8 + (-1 : Int32))), .val (.int 0), l98, .val (.int k8)] [(.int (-k8)), (.ref aO), (.int (q8 + (-1 : Int32))), (.ref a3)])) rfl rfl (hb hby d33_155) _ ?_
          show Steps p.tables e below (T462.setTop (mkF m 156 #[.val (.long n4), .second, .val (.int p2), .val (.ref a3), l4, l5, l68, .val (.int (q8 + (-1 : Int32))), .val (.int 0), l98, .val (.int k8)] [(.int x463), (.int (q8 + (-1 : Int32))), (.ref a3)])) _
          refine st464 _ ?_
          show Steps p.tables e below (T464.setTop (mkF m 157 #[.val (.long n4), .second, .val (.int p2), .val (.ref a3), l4, l5, l68, .val (.int (q8 + (-1 : Int32))), .val (.int 0), l98, .val (.int k8)] [])) _
          refine own_iload X464.here hx (hb hby d33_157) rfl ?_
          refine own_bipush X464.here hx (-9 : Int32) (hb hby d33_159) rfl ?_
          exact kG
        by_cases hc161 : k8 < (-9 : Int32)
        · have g64 := own_tail2 V464.2.pos hi8 hc90 hc161
          obtain ⟨T471, X471, e471, st471⟩ := getS2 X464 hx hZ hown (host := "") (Or.inl (own_w hw 208 rfl)) Via.refl e464 f466 (g := (mkF m 170 #[.val (.long n4), .second, .val (.int p2), .val (.ref a3), l4, l5, l68, .val (.int ((q8 + (-1 : Int32)) + (-1 : Int32))), .val (.int 0), l98, .val (.int k8)] [(.int ((q8 + (-1 : Int32)) + (-1 : Int32))), (.ref a3)])) rfl (hb hby d33_170)
          obtain ⟨cl472, x472, Ar472, hin472, hat472⟩ := own_BV.rd f469 (j := (-k8)) g43.1 g43.2.1
          have ja473 : ¬ ((q8 + (-1 : Int32)) + (-1 : Int32)) < 0 := g64.1
          have jb473 : ((q8 + (-1 : Int32)) + (-1 : Int32)) < z := g64.2
          obtain ⟨kk473, vs473, ⟨cl473, Ar473, q473, S473, M473, H473, J473⟩, lv473⟩ := id V464.2
          obtain ⟨T473, h473, X473, e473, W473, st473⟩ := stB X471 hx hZ e471 Ar473 (j := ((q8 + (-1 : Int32)) + (-1 : Int32))) (inb_of S473 ⟨ja473, jb473⟩) (g := (mkF m 177 #[.val (.long n4), .second, .val (.int p2), .val (.ref a3), l4, l5, l68, .val (.int ((q8 + (-1 : Int32)) + (-1 : Int32))), .val (.int 0), l98, .val (.int k8)] [(.int x472), (.int ((q8 + (-1 : Int32)) + (-1 : Int32))), (.ref a3)])) rfl rfl (hb hby d33_177)
          have f474 : Sta Z h473 "java/lang/Integer" "DigitOnes" "[B" (.ref aO) := f465.wr W473
          have f475 : Sta Z h473 "java/lang/Integer" "DigitTens" "[B" (.ref aT) := f466.wr W473
          have f476 : own_BV Z h473 aO (100 : Int32) := f468.other W473 nO
          have f477 : own_BV Z h473 aT (100 : Int32) := f469.other W473 nT
          have V473 : own_BA Z h473 a3 z := V464.st ja473 jb473 W473 (fits_nar_byte _)
          have N473 := Fr.snoc X473 N464 g3
          have Z473 : n0 ≤ h473.size := Nat.le_trans Z464 (Keep.of_wr W473).1
          have K473 : Keep h0 h473 [a3] := K464.wr W473 (Or.inl (List.mem_of_getElem? (i := 0) rfl))
          obtain ⟨fs, hr, hrun, hended, hW, hsame⟩ := X473.leave (v := some (.int ((q8 + (-1 : Int32)) + (-1 : Int32)))) (fun h => by rw [Bd.returns] at h; cases h)
          refine ⟨_, _, pre0 _ ?_, hrun, hended, _, _, rfl, ?_, ⟨_, rfl⟩, hW, hsame.mono (by decide) (by decide)⟩
          · refine G470 _ ?_
            refine own_icmpNo X464.here hx (hb hby d33_161) (tlt hc161).2.1 ?_
            refine own_aloadN X464.here hx (hb hby d33_164) rfl rfl ?_
            refine own_iinc X464.here hx (-1 : Int32) (hb hby d33_165) rfl rfl (l' := #[.val (.long n4), .second, .val (.int p2), .val (.ref a3), l4, l5, l68, .val (.int ((q8 + (-1 : Int32)) + (-1 : Int32))), .val (.int 0), l98, .val (.int k8)]) rfl ?_
            refine own_iload X464.here hx (hb hby d33_168) rfl ?_
            refine st471 _ ?_
            show Steps p.tables e below (T471.setTop (mkF m 173 #[.val (.long n4), .second, .val (.int p2), .val (.ref a3), l4, l5, l68, .val (.int ((q8 + (-1 : Int32)) + (-1 : Int32))), .val (.int 0), l98, .val (.int k8)] [(.ref aT), (.int ((q8 + (-1 : Int32)) + (-1 : Int32))), (.ref a3)])) _
            refine own_iload X471.here hx (hb hby d33_173) rfl ?_
            refine own_ineg X471.here hx (hb hby d33_175) ?_
            refine X471.baloadBytes hx (j := (-k8)) (v := (.int x472)) (by rw [e471]; exact Ar472.1) (State.isArrayOf_alike hZ.alike Ar472.2.1) Ar472.2.2 hin472 hat472 (g := (mkF m 176 #[.val (.long n4), .second, .val (.int p2), .val (.ref a3), l4, l5, l68, .val (.int ((q8 + (-1 : Int32)) + (-1 : Int32))), .val (.int 0), l98, .val (.int k8)] [(.int (-k8)), (.ref aT), (.int ((q8 + (-1 : Int32)) + (-1 : Int32))), (.ref a3)])) rfl rfl (hb hby d33_176) _ ?_
            show Steps p.tables e below (T471.setTop (mkF m 177 #[.val (.long n4), .second, .val (.int p2), .val (.ref a3), l4, l5, l68, .val (.int ((q8 + (-1 : Int32)) + (-1 : Int32))), .val (.int 0), l98, .val (.int k8)] [(.int x472), (.int ((q8 + (-1 : Int32)) + (-1 : Int32))), (.ref a3)])) _
            refine st473 _ ?_
            show Steps p.tables e below (T473.setTop (mkF m 178 #[.val (.long n4), .second, .val (.int p2), .val (.ref a3), l4, l5, l68, .val (.int ((q8 + (-1 : Int32)) + (-1 : Int32))), .val (.int 0), l98, .val (.int k8)] [])) _
            refine own_iload X473.here hx (hb hby d33_178) rfl ?_
            refine own_ifYes X473.here hx 180 192 rfl (hb hby d33_180) ((if0 _ _).trans (teq (by decide : (0 : Int32) = (0 : Int32))).1) (by decide) (by decide) ?_
            refine own_iload X473.here hx (hb hby d33_192) rfl ?_
            exact retI X473 hx Bd.returns (hb hby d33_194) hr
          · show QGC Z p1 p2 a3 aO aT z k h0 n0 _ T473.heap _
            rw [e473]
            exact ⟨_, rfl, N473, K473, V473⟩
        · obtain ⟨fs, hr, hrun, hended, hW, hsame⟩ := X464.leave (v := some (.int (q8 + (-1 : Int32)))) (fun h => by rw [Bd.returns] at h; cases h)
          refine ⟨_, _, pre0 _ ?_, hrun, hended, _, _, rfl, ?_, ⟨_, rfl⟩, hW, hsame.mono (by decide) (by decide)⟩
          · refine G470 _ ?_
            refine own_icmpYes X464.here hx 161 178 rfl (hb hby d33_161) (flt hc161).2.1 (by decide) (by decide) ?_
            refine own_iload X464.here hx (hb hby d33_178) rfl ?_
            refine own_ifYes X464.here hx 180 192 rfl (hb hby d33_180) ((if0 _ _).trans (teq (by decide : (0 : Int32) = (0 : Int32))).1) (by decide) (by decide) ?_
            refine own_iload X464.here hx (hb hby d33_192) rfl ?_
            exact retI X464 hx Bd.returns (hb hby d33_194) hr
          · show QGC Z p1 p2 a3 aO aT z k h0 n0 _ T464.heap _
            rw [e464]
            exact ⟨_, rfl, N464, K464, V464⟩
      · have g86 := own_turn2 B8.2.pos hi8 hc90
        obtain ⟨T479, X479, e479, st479⟩ := getS2 X8 hx hZ hown (host := "") (Or.inl (own_w hw 206 rfl)) Via.refl e8 SO8 (g := (mkF m 120 #[.val (.long n4), .second, .val (.int p2), .val (.ref a3), l4, l5, .val (.int (((k8 / (100 : Int32)) * (100 : Int32)) - k8)), .val (.int (q8 + (-1 : Int32))), .val (.int 0), .val (.int (k8 / (100 : Int32))), .val (.int (k8 / (100 : Int32)))] [(.int (q8 + (-1 : Int32))), (.ref a3)])) rfl (hb hby d33_120)
        obtain ⟨cl480, x480, Ar480, hin480, hat480⟩ := own_BV.rd BO8 (j := (((k8 / (100 : Int32)) * (100 : Int32)) - k8)) g86.1 g86.2.1
        have ja481 : ¬ (q8 + (-1 : Int32)) < 0 := g86.2.2.1
        have jb481 : (q8 + (-1 : Int32)) < z := g86.2.2.2.1
        obtain ⟨kk481, vs481, ⟨cl481, Ar481, q481, S481, M481, H481, J481⟩, lv481⟩ := id B8.2
        obtain ⟨T481, h481, X481, e481, W481, st481⟩ := stB X479 hx hZ e479 Ar481 (j := (q8 + (-1 : Int32))) (inb_of S481 ⟨ja481, jb481⟩) (g := (mkF m 126 #[.val (.long n4), .second, .val (.int p2), .val (.ref a3), l4, l5, .val (.int (((k8 / (100 : Int32)) * (100 : Int32)) - k8)), .val (.int (q8 + (-1 : Int32))), .val (.int 0), .val (.int (k8 / (100 : Int32))), .val (.int (k8 / (100 : Int32)))] [(.int x480), (.int (q8 + (-1 : Int32))), (.ref a3)])) rfl rfl (hb hby d33_126)
        have f482 : Sta Z h481 "java/lang/Integer" "DigitOnes" "[B" (.ref aO) := SO8.wr W481
        have f483 : Sta Z h481 "java/lang/Integer" "DigitTens" "[B" (.ref aT) := ST8.wr W481
        have f485 : own_BV Z h481 aO (100 : Int32) := BO8.other W481 nO
        have f486 : own_BV Z h481 aT (100 : Int32) := BT8.other W481 nT
        have V481 : own_BA Z h481 a3 z := B8.st ja481 jb481 W481 (fits_nar_byte _)
        have N481 := Fr.snoc X481 N8 g3
        have Z481 : n0 ≤ h481.size := Nat.le_trans Z8 (Keep.of_wr W481).1
        have K481 : Keep h0 h481 [a3] := K8.wr W481 (Or.inl (List.mem_of_getElem? (i := 0) rfl))
        obtain ⟨T487, X487, e487, st487⟩ := getS2 X481 hx hZ hown (host := "") (Or.inl (own_w hw 208 rfl)) Via.refl e481 f483 (g := (mkF m 133 #[.val (.long n4), .second, .val (.int p2), .val (.ref a3), l4, l5, .val (.int (((k8 / (100 : Int32)) * (100 : Int32)) - k8)), .val (.int ((q8 + (-1 : Int32)) + (-1 : Int32))), .val (.int 0), .val (.int (k8 / (100 : Int32))), .val (.int (k8 / (100 : Int32)))] [(.int ((q8 + (-1 : Int32)) + (-1 : Int32))), (.ref a3)])) rfl (hb hby d33_133)
        obtain ⟨cl488, x488, Ar488, hin488, hat488⟩ := own_BV.rd f486 (j := (((k8 / (100 : Int32)) * (100 : Int32)) - k8)) g86.1 g86.2.1
        have ja489 : ¬ ((q8 + (-1 : Int32)) + (-1 : Int32)) < 0 := g86.2.2.2.2.1
        have jb489 : ((q8 + (-1 : Int32)) + (-1 : Int32)) < z := g86.2.2.2.2.2.1
        obtain ⟨kk489, vs489, ⟨cl489, Ar489, q489, S489, M489, H489, J489⟩, lv489⟩ := id V481.2
        obtain ⟨T489, h489, X489, e489, W489, st489⟩ := stB X487 hx hZ e487 Ar489 (j := ((q8 + (-1 : Int32)) + (-1 : Int32))) (inb_of S489 ⟨ja489, jb489⟩) (g := (mkF m 139 #[.val (.long n4), .second, .val (.int p2), .val (.ref a3), l4, l5, .val (.int (((k8 / (100 : Int32)) * (100 : Int32)) - k8)), .val (.int ((q8 + (-1 : Int32)) + (-1 : Int32))), .val (.int 0), .val (.int (k8 / (100 : Int32))), .val (.int (k8 / (100 : Int32)))] [(.int x488), (.int ((q8 + (-1 : Int32)) + (-1 : Int32))), (.ref a3)])) rfl rfl (hb hby d33_139)
        have f490 : Sta Z h489 "java/lang/Integer" "DigitOnes" "[B" (.ref aO) := f482.wr W489
        have f491 : Sta Z h489 "java/lang/Integer" "DigitTens" "[B" (.ref aT) := f483.wr W489
        have f492 : own_BV Z h489 aO (100 : Int32) := f485.other W489 nO
        have f493 : own_BV Z h489 aT (100 : Int32) := f486.other W489 nT
        have V489 : own_BA Z h489 a3 z := V481.st ja489 jb489 W489 (fits_nar_byte _)
        have N489 := Fr.snoc X489 N481 g3
        have Z489 : n0 ≤ h489.size := Nat.le_trans Z481 (Keep.of_wr W489).1
        have K489 : Keep h0 h489 [a3] := K481.wr W489 (Or.inl (List.mem_of_getElem? (i := 0) rfl))
        have G495 : ∀ tG, Steps p.tables e below (T489.setTop (mkF m 86 #[.val (.long n4), .second, .val (.int p2), .val (.ref a3), l4, l5, .val (.int (((k8 / (100 : Int32)) * (100 : Int32)) - k8)), .val (.int ((q8 + (-1 : Int32)) + (-1 : Int32))), .val (.int 0), .val (.int (k8 / (100 : Int32))), .val (.int (k8 / (100 : Int32)))] [])) tG → Steps p.tables e below (s₁.setTop (mkF m 0 #[.val (.long p1), .second, .val (.int p2), .val (.ref a3), .unset, .unset, .unset, .unset, .unset, .unset, .unset] [])) tG := by
          intro tG kG
          refine G461 _ ?_
          refine own_icmpNo X8.here hx (hb hby d33_90) (flt hc90).2.2.1 ?_
          refine own_iload X8.here hx (hb hby d33_93) rfl ?_
          refine own_bipush X8.here hx (100 : Int32) (hb hby d33_95) rfl ?_
          refine own_idiv X8.here hx (hb hby d33_97) (by decide) ?_
          refine own_istore X8.here hx (hb hby d33_98) (l' := #[.val (.long n4), .second, .val (.int p2), .val (.ref a3), l4, l5, l68, .val (.int q8), .val (.int 0), .val (.int (k8 / (100 : Int32))), .val (.int k8)]) (by rcases hs98 with rfl | ⟨_, rfl⟩ <;> rfl) ?_
          refine own_iload X8.here hx (hb hby d33_100) rfl ?_
          refine own_bipush X8.here hx (100 : Int32) (hb hby d33_102) rfl ?_
          refine own_imul X8.here hx (hb hby d33_104) ?_
          refine own_iload X8.here hx (hb hby d33_105) rfl ?_
          refine own_isub X8.here hx (hb hby d33_107) ?_
          refine own_istore X8.here hx (hb hby d33_108) (l' := #[.val (.long n4), .second, .val (.int p2), .val (.ref a3), l4, l5, .val (.int (((k8 / (100 : Int32)) * (100 : Int32)) - k8)), .val (.int q8), .val (.int 0), .val (.int (k8 / (100 : Int32))), .val (.int k8)]) (by rcases hs68 with rfl | ⟨_, rfl⟩ <;> rfl) ?_
          refine own_iload X8.here hx (hb hby d33_110) rfl ?_
          refine own_istore X8.here hx (hb hby d33_112) (l' := #[.val (.long n4), .second, .val (.int p2), .val (.ref a3), l4, l5, .val (.int (((k8 / (100 : Int32)) * (100 : Int32)) - k8)), .val (.int q8), .val (.int 0), .val (.int (k8 / (100 : Int32))), .val (.int (k8 / (100 : Int32)))]) rfl ?_
          refine own_aloadN X8.here hx (hb hby d33_114) rfl rfl ?_
          refine own_iinc X8.here hx (-1 : Int32) (hb hby d33_115) rfl rfl (l' := #[.val (.long n4), .second, .val (.int p2), .val (.ref a3), l4, l5, .val (.int (((k8 / (100 : Int32)) * (100 : Int32)) - k8)), .val (.int (q8 + (-1 : Int32))), .val (.int 0), .val (.int (k8 / (100 : Int32))), .val (.int (k8 / (100 : Int32)))]) rfl ?_
          refine own_iload X8.here hx (hb hby d33_118) rfl ?_
          refine st479 _ ?_
          show Steps p.tables e below (T479.setTop (mkF m 123 #[.val (.long n4), .second, .val (.int p2), .val (.ref a3), l4, l5, .val (.int (((k8 / (100 : Int32)) * (100 : Int32)) - k8)), .val (.int (q8 + (-1 : Int32))), .val (.int 0), .val (.int (k8 / (100 : Int32))), .val (.int (k8 / (100 : Int32)))] [(.ref aO), (.int (q8 + (-1 : Int32))), (.ref a3)])) _
          refine own_iload X479.here hx (hb hby d33_123) rfl ?_
          refine X479.baloadBytes hx (j := (((k8 / (100 : Int32)) * (100 : Int32)) - k8)) (v := (.int x480)) (by rw [e479]; exact Ar480.1) (State.isArrayOf_alike hZ.alike Ar480.2.1) Ar480.2.2 hin480 hat480 (g := (mkF m 125 #[.val (.long n4), .second, .val (.int p2), .val (.ref a3), l4, l5, .val (.int (((k8 / (100 : Int32)) * (100 : Int32)) - k8)), .val (.int (q8 + (-1 : Int32))), .val (.int 0), .val (.int (k8 / (100 : Int32))), .val (.int (k8 / (100 : Int32)))] [(.int (((k8 / (100 : Int32)) * (100 : Int32)) - k8)), (.ref aO), (.int (q8 + (-1 : Int32))), (.ref a3)])) rfl rfl (hb hby d33_125) _ ?_
          show Steps p.tables e below (T479.setTop (mkF m 126 #[.val (.long n4), .second, .val (.int p2), .val (.ref a3), l4, l5, .val (.int (((k8 / (100 : Int32)) * (100 : Int32)) - k8)), .val (.int (q8 + (-1 : Int32))), .val (.int 0), .val (.int (k8 / (100 : Int32))), .val (.int (k8 / (100 : Int32)))] [(.int x480), (.int (q8 + (-1 : Int32))), (.ref a3)])) _
          refine st481 _ ?_
          show Steps p.tables e below (T481.setTop (mkF m 127 #[.val (.long n4), .second, .val (.int p2), .val (.ref a3), l4, l5, .val (.int (((k8 / (100 : Int32)) * (100 : Int32)) - k8)), .val (.int (q8 + (-1 : Int32))), .val (.int 0), .val (.int (k8 / (100 : Int32))), .val (.int (k8 / (100 : Int32)))] [])) _
          refine own_aloadN X481.here hx (hb hby d33_127) rfl rfl ?_
          refine own_iinc X481.here hx (-1 : Int32) (hb hby d33_128) rfl rfl (l' := #[.val (.long n4), .second, .val (.int p2), .val (.ref a3), l4, l5, .val (.int (((k8 / (100 : Int32)) * (100 : Int32)) - k8)), .val (.int ((q8 + (-1 : Int32)) + (-1 : Int32))), .val (.int 0), .val (.int (k8 / (100 : Int32))), .val (.int (k8 / (100 : Int32)))]) rfl ?_
          refine own_iload X481.here hx (hb hby d33_131) rfl ?_
          refine st487 _ ?_
          show Steps p.tables e below (T487.setTop (mkF m 136 #[.val (.long n4), .second, .val (.int p2), .val (.ref a3), l4, l5, .val (.int (((k8 / (100 : Int32)) * (100 : Int32)) - k8)), .val (.int ((q8 + (-1 : Int32)) + (-1 : Int32))), .val (.int 0), .val (.int (k8 / (100 : Int32))), .val (.int (k8 / (100 : Int32)))] [(.ref aT), (.int ((q8 + (-1 : Int32)) + (-1 : Int32))), (.ref a3)])) _
          refine own_iload X487.here hx (hb hby d33_136) rfl ?_
          refine X487.baloadBytes hx (j := (((k8 / (100 : Int32)) * (100 : Int32)) - k8)) (v := (.int x488)) (by rw [e487]; exact Ar488.1) (State.isArrayOf_alike hZ.alike Ar488.2.1) Ar488.2.2 hin488 hat488 (g := (mkF m 138 #[.val (.long n4), .second, .val (.int p2), .val (.ref a3), l4, l5, .val (.int (((k8 / (100 : Int32)) * (100 : Int32)) - k8)), .val (.int ((q8 + (-1 : Int32)) + (-1 : Int32))), .val (.int 0), .val (.int (k8 / (100 : Int32))), .val (.int (k8 / (100 : Int32)))] [(.int (((k8 / (100 : Int32)) * (100 : Int32)) - k8)), (.ref aT), (.int ((q8 + (-1 : Int32)) + (-1 : Int32))), (.ref a3)])) rfl rfl (hb hby d33_138) _ ?_
          show Steps p.tables e below (T487.setTop (mkF m 139 #[.val (.long n4), .second, .val (.int p2), .val (.ref a3), l4, l5, .val (.int (((k8 / (100 : Int32)) * (100 : Int32)) - k8)), .val (.int ((q8 + (-1 : Int32)) + (-1 : Int32))), .val (.int 0), .val (.int (k8 / (100 : Int32))), .val (.int (k8 / (100 : Int32)))] [(.int x488), (.int ((q8 + (-1 : Int32)) + (-1 : Int32))), (.ref a3)])) _
          refine st489 _ ?_
          show Steps p.tables e below (T489.setTop (mkF m 140 #[.val (.long n4), .second, .val (.int p2), .val (.ref a3), l4, l5, .val (.int (((k8 / (100 : Int32)) * (100 : Int32)) - k8)), .val (.int ((q8 + (-1 : Int32)) + (-1 : Int32))), .val (.int 0), .val (.int (k8 / (100 : Int32))), .val (.int (k8 / (100 : Int32)))] [])) _
          refine own_goto X489.here hx 140 86 rfl (hb hby d33_140) (by decide) (by decide) ?_
          exact kG
        exact ih86 _ _ _ _ _ _ _ .unset g86.2.2.2.2.2.2.2 ⟨X489, e489, N489, Z489, K489, V489, f490, f491, f492, f493, g86.2.2.2.2.2.2.1, Or.inr ⟨_, rfl⟩, Or.inr ⟨_, rfl⟩, G495⟩
    · have g24 := own_turn1 B4.2.pos hi4 hc29
      obtain ⟨T496, X496, e496, st496⟩ := getS2 X4 hx hZ hown (host := "") (Or.inl (own_w hw 206 rfl)) Via.refl e4 SO4 (g := (mkF m 59 #[.val (.long (n4 / (100 : Int64))), .second, .val (.int p2), .val (.ref a3), .val (.long (n4 / (100 : Int64))), .second, .val (.int ((((n4 / (100 : Int64)) * (100 : Int64)) - n4).toInt32)), .val (.int (q4 + (-1 : Int32))), .val (.int 0), .unset, .unset] [(.int (q4 + (-1 : Int32))), (.ref a3)])) rfl (hb hby d33_59)
      obtain ⟨cl497, x497, Ar497, hin497, hat497⟩ := own_BV.rd BO4 (j := ((((n4 / (100 : Int64)) * (100 : Int64)) - n4).toInt32)) g24.1 g24.2.1
      have ja498 : ¬ (q4 + (-1 : Int32)) < 0 := g24.2.2.1
      have jb498 : (q4 + (-1 : Int32)) < z := g24.2.2.2.1
      obtain ⟨kk498, vs498, ⟨cl498, Ar498, q498, S498, M498, H498, J498⟩, lv498⟩ := id B4.2
      obtain ⟨T498, h498, X498, e498, W498, st498⟩ := stB X496 hx hZ e496 Ar498 (j := (q4 + (-1 : Int32))) (inb_of S498 ⟨ja498, jb498⟩) (g := (mkF m 65 #[.val (.long (n4 / (100 : Int64))), .second, .val (.int p2), .val (.ref a3), .val (.long (n4 / (100 : Int64))), .second, .val (.int ((((n4 / (100 : Int64)) * (100 : Int64)) - n4).toInt32)), .val (.int (q4 + (-1 : Int32))), .val (.int 0), .unset, .unset] [(.int x497), (.int (q4 + (-1 : Int32))), (.ref a3)])) rfl rfl (hb hby d33_65)
      have f499 : Sta Z h498 "java/lang/Integer" "DigitOnes" "[B" (.ref aO) := SO4.wr W498
      have f500 : Sta Z h498 "java/lang/Integer" "DigitTens" "[B" (.ref aT) := ST4.wr W498
      have f502 : own_BV Z h498 aO (100 : Int32) := BO4.other W498 nO
      have f503 : own_BV Z h498 aT (100 : Int32) := BT4.other W498 nT
      have V498 : own_BA Z h498 a3 z := B4.st ja498 jb498 W498 (fits_nar_byte _)
      have N498 := Fr.snoc X498 N4 g3
      have Z498 : n0 ≤ h498.size := Nat.le_trans Z4 (Keep.of_wr W498).1
      have K498 : Keep h0 h498 [a3] := K4.wr W498 (Or.inl (List.mem_of_getElem? (i := 0) rfl))
      obtain ⟨T504, X504, e504, st504⟩ := getS2 X498 hx hZ hown (host := "") (Or.inl (own_w hw 208 rfl)) Via.refl e498 f500 (g := (mkF m 72 #[.val (.long (n4 / (100 : Int64))), .second, .val (.int p2), .val (.ref a3), .val (.long (n4 / (100 : Int64))), .second, .val (.int ((((n4 / (100 : Int64)) * (100 : Int64)) - n4).toInt32)), .val (.int ((q4 + (-1 : Int32)) + (-1 : Int32))), .val (.int 0), .unset, .unset] [(.int ((q4 + (-1 : Int32)) + (-1 : Int32))), (.ref a3)])) rfl (hb hby d33_72)
      obtain ⟨cl505, x505, Ar505, hin505, hat505⟩ := own_BV.rd f503 (j := ((((n4 / (100 : Int64)) * (100 : Int64)) - n4).toInt32)) g24.1 g24.2.1
      have ja506 : ¬ ((q4 + (-1 : Int32)) + (-1 : Int32)) < 0 := g24.2.2.2.2.1
      have jb506 : ((q4 + (-1 : Int32)) + (-1 : Int32)) < z := g24.2.2.2.2.2.1
      obtain ⟨kk506, vs506, ⟨cl506, Ar506, q506, S506, M506, H506, J506⟩, lv506⟩ := id V498.2
      obtain ⟨T506, h506, X506, e506, W506, st506⟩ := stB X504 hx hZ e504 Ar506 (j := ((q4 + (-1 : Int32)) + (-1 : Int32))) (inb_of S506 ⟨ja506, jb506⟩) (g := (mkF m 78 #[.val (.long (n4 / (100 : Int64))), .second, .val (.int p2), .val (.ref a3), .val (.long (n4 / (100 : Int64))), .second, .val (.int ((((n4 / (100 : Int64)) * (100 : Int64)) - n4).toInt32)), .val (.int ((q4 + (-1 : Int32)) + (-1 : Int32))), .val (.int 0), .unset, .unset] [(.int x505), (.int ((q4 + (-1 : Int32)) + (-1 : Int32))), (.ref a3)])) rfl rfl (hb hby d33_78)
      have f507 : Sta Z h506 "java/lang/Integer" "DigitOnes" "[B" (.ref aO) := f499.wr W506
      have f508 : Sta Z h506 "java/lang/Integer" "DigitTens" "[B" (.ref aT) := f500.wr W506
      have f509 : own_BV Z h506 aO (100 : Int32) := f502.other W506 nO
      have f510 : own_BV Z h506 aT (100 : Int32) := f503.other W506 nT
      have V506 : own_BA Z h506 a3 z := V498.st ja506 jb506 W506 (fits_nar_byte _)
      have N506 := Fr.snoc X506 N498 g3
      have Z506 : n0 ≤ h506.size := Nat.le_trans Z498 (Keep.of_wr W506).1
      have K506 : Keep h0 h506 [a3] := K498.wr W506 (Or.inl (List.mem_of_getElem? (i := 0) rfl))
      have G512 : ∀ tG, Steps p.tables e below (T506.setTop (mkF m 24 #[.val (.long (n4 / (100 : Int64))), .second, .val (.int p2), .val (.ref a3), .val (.long (n4 / (100 : Int64))), .second, .val (.int ((((n4 / (100 : Int64)) * (100 : Int64)) - n4).toInt32)), .val (.int ((q4 + (-1 : Int32)) + (-1 : Int32))), .val (.int 0), .unset, .unset] [])) tG → Steps p.tables e below (s₁.setTop (mkF m 0 #[.val (.long p1), .second, .val (.int p2), .val (.ref a3), .unset, .unset, .unset, .unset, .unset, .unset, .unset] [])) tG := by
        intro tG kG
        refine G459 _ ?_
        refine own_ifNo X4.here hx (hb hby d33_29) ((if0 _ _).trans (flt hc29).2.2.1) ?_
        refine own_lloadN X4.here hx (hb hby d33_32) rfl ?_
        refine X4.ldc2Long hx hown (mvT hZ (own_w hw 264 rfl)) (g := (mkF m 33 #[.val (.long n4), .second, .val (.int p2), .val (.ref a3), l4, l5, l6, .val (.int q4), .val (.int 0), .unset, .unset] [(.long n4)])) rfl (hb hby d33_33) _ ?_
        show Steps p.tables e below (T4.setTop (mkF m 36 #[.val (.long n4), .second, .val (.int p2), .val (.ref a3), l4, l5, l6, .val (.int q4), .val (.int 0), .unset, .unset] [(.long 100), (.long n4)])) _
        refine own_ldiv X4.here hx (hb hby d33_36) (by decide) ?_
        refine own_lstore X4.here hx (hb hby d33_37) (l' := #[.val (.long n4), .second, .val (.int p2), .val (.ref a3), .val (.long (n4 / (100 : Int64))), .second, l6, .val (.int q4), .val (.int 0), .unset, .unset]) (by rcases hs4 with ⟨rfl, rfl⟩ | ⟨_, rfl, rfl⟩ <;> rfl) ?_
        refine own_lload X4.here hx (hb hby d33_39) rfl ?_
        refine X4.ldc2Long hx hown (mvT hZ (own_w hw 264 rfl)) (g := (mkF m 41 #[.val (.long n4), .second, .val (.int p2), .val (.ref a3), .val (.long (n4 / (100 : Int64))), .second, l6, .val (.int q4), .val (.int 0), .unset, .unset] [(.long (n4 / (100 : Int64)))])) rfl (hb hby d33_41) _ ?_
        show Steps p.tables e below (T4.setTop (mkF m 44 #[.val (.long n4), .second, .val (.int p2), .val (.ref a3), .val (.long (n4 / (100 : Int64))), .second, l6, .val (.int q4), .val (.int 0), .unset, .unset] [(.long 100), (.long (n4 / (100 : Int64)))])) _
        refine own_lmul X4.here hx (hb hby d33_44) ?_
        refine own_lloadN X4.here hx (hb hby d33_45) rfl ?_
        refine own_lsub X4.here hx (hb hby d33_46) ?_
        refine own_l2i X4.here hx (hb hby d33_47) ?_
        refine own_istore X4.here hx (hb hby d33_48) (l' := #[.val (.long n4), .second, .val (.int p2), .val (.ref a3), .val (.long (n4 / (100 : Int64))), .second, .val (.int ((((n4 / (100 : Int64)) * (100 : Int64)) - n4).toInt32)), .val (.int q4), .val (.int 0), .unset, .unset]) (by rcases hs6 with rfl | ⟨_, rfl⟩ <;> rfl) ?_
        refine own_lload X4.here hx (hb hby d33_50) rfl ?_
        refine own_lstoreN X4.here hx (hb hby d33_52) (l' := #[.val (.long (n4 / (100 : Int64))), .second, .val (.int p2), .val (.ref a3), .val (.long (n4 / (100 : Int64))), .second, .val (.int ((((n4 / (100 : Int64)) * (100 : Int64)) - n4).toInt32)), .val (.int q4), .val (.int 0), .unset, .unset]) rfl ?_
        refine own_aloadN X4.here hx (hb hby d33_53) rfl rfl ?_
        refine own_iinc X4.here hx (-1 : Int32) (hb hby d33_54) rfl rfl (l' := #[.val (.long (n4 / (100 : Int64))), .second, .val (.int p2), .val (.ref a3), .val (.long (n4 / (100 : Int64))), .second, .val (.int ((((n4 / (100 : Int64)) * (100 : Int64)) - n4).toInt32)), .val (.int (q4 + (-1 : Int32))), .val (.int 0), .unset, .unset]) rfl ?_
        refine own_iload X4.here hx (hb hby d33_57) rfl ?_
        refine st496 _ ?_
        show Steps p.tables e below (T496.setTop (mkF m 62 #[.val (.long (n4 / (100 : Int64))), .second, .val (.int p2), .val (.ref a3), .val (.long (n4 / (100 : Int64))), .second, .val (.int ((((n4 / (100 : Int64)) * (100 : Int64)) - n4).toInt32)), .val (.int (q4 + (-1 : Int32))), .val (.int 0), .unset, .unset] [(.ref aO), (.int (q4 + (-1 : Int32))), (.ref a3)])) _
        refine own_iload X496.here hx (hb hby d33_62) rfl ?_
        refine X496.baloadBytes hx (j := ((((n4 / (100 : Int64)) * (100 : Int64)) - n4).toInt32)) (v := (.int x497)) (by rw [e496]; exact Ar497.1) (State.isArrayOf_alike hZ.alike Ar497.2.1) Ar497.2.2 hin497 hat497 (g := (mkF m 64 #[.val (.long (n4 / (100 : Int64))), .second, .val (.int p2), .val (.ref a3), .val (.long (n4 / (100 : Int64))), .second, .val (.int ((((n4 / (100 : Int64)) * (100 : Int64)) - n4).toInt32)), .val (.int (q4 + (-1 : Int32))), .val (.int 0), .unset, .unset] [(.int ((((n4 / (100 : Int64)) * (100 : Int64)) - n4).toInt32)), (.ref aO), (.int (q4 + (-1 : Int32))), (.ref a3)])) rfl rfl (hb hby d33_64) _ ?_
        show Steps p.tables e below (T496.setTop (mkF m 65 #[.val (.long (n4 / (100 : Int64))), .second, .val (.int p2), .val (.ref a3), .val (.long (n4 / (100 : Int64))), .second, .val (.int ((((n4 / (100 : Int64)) * (100 : Int64)) - n4).toInt32)), .val (.int (q4 + (-1 : Int32))), .val (.int 0), .unset, .unset] [(.int x497), (.int (q4 + (-1 : Int32))), (.ref a3)])) _
        refine st498 _ ?_
        show Steps p.tables e below (T498.setTop (mkF m 66 #[.val (.long (n4 / (100 : Int64))), .second, .val (.int p2), .val (.ref a3), .val (.long (n4 / (100 : Int64))), .second, .val (.int ((((n4 / (100 : Int64)) * (100 : Int64)) - n4).toInt32)), .val (.int (q4 + (-1 : Int32))), .val (.int 0), .unset, .unset] [])) _
        refine own_aloadN X498.here hx (hb hby d33_66) rfl rfl ?_
        refine own_iinc X498.here hx (-1 : Int32) (hb hby d33_67) rfl rfl (l' := #[.val (.long (n4 / (100 : Int64))), .second, .val (.int p2), .val (.ref a3), .val (.long (n4 / (100 : Int64))), .second, .val (.int ((((n4 / (100 : Int64)) * (100 : Int64)) - n4).toInt32)), .val (.int ((q4 + (-1 : Int32)) + (-1 : Int32))), .val (.int 0), .unset, .unset]) rfl ?_
        refine own_iload X498.here hx (hb hby d33_70) rfl ?_
        refine st504 _ ?_
        show Steps p.tables e below (T504.setTop (mkF m 75 #[.val (.long (n4 / (100 : Int64))), .second, .val (.int p2), .val (.ref a3), .val (.long (n4 / (100 : Int64))), .second, .val (.int ((((n4 / (100 : Int64)) * (100 : Int64)) - n4).toInt32)), .val (.int ((q4 + (-1 : Int32)) + (-1 : Int32))), .val (.int 0), .unset, .unset] [(.ref aT), (.int ((q4 + (-1 : Int32)) + (-1 : Int32))), (.ref a3)])) _
        refine own_iload X504.here hx (hb hby d33_75) rfl ?_
        refine X504.baloadBytes hx (j := ((((n4 / (100 : Int64)) * (100 : Int64)) - n4).toInt32)) (v := (.int x505)) (by rw [e504]; exact Ar505.1) (State.isArrayOf_alike hZ.alike Ar505.2.1) Ar505.2.2 hin505 hat505 (g := (mkF m 77 #[.val (.long (n4 / (100 : Int64))), .second, .val (.int p2), .val (.ref a3), .val (.long (n4 / (100 : Int64))), .second, .val (.int ((((n4 / (100 : Int64)) * (100 : Int64)) - n4).toInt32)), .val (.int ((q4 + (-1 : Int32)) + (-1 : Int32))), .val (.int 0), .unset, .unset] [(.int ((((n4 / (100 : Int64)) * (100 : Int64)) - n4).toInt32)), (.ref aT), (.int ((q4 + (-1 : Int32)) + (-1 : Int32))), (.ref a3)])) rfl rfl (hb hby d33_77) _ ?_
        show Steps p.tables e below (T504.setTop (mkF m 78 #[.val (.long (n4 / (100 : Int64))), .second, .val (.int p2), .val (.ref a3), .val (.long (n4 / (100 : Int64))), .second, .val (.int ((((n4 / (100 : Int64)) * (100 : Int64)) - n4).toInt32)), .val (.int ((q4 + (-1 : Int32)) + (-1 : Int32))), .val (.int 0), .unset, .unset] [(.int x505), (.int ((q4 + (-1 : Int32)) + (-1 : Int32))), (.ref a3)])) _
        refine st506 _ ?_
        show Steps p.tables e below (T506.setTop (mkF m 79 #[.val (.long (n4 / (100 : Int64))), .second, .val (.int p2), .val (.ref a3), .val (.long (n4 / (100 : Int64))), .second, .val (.int ((((n4 / (100 : Int64)) * (100 : Int64)) - n4).toInt32)), .val (.int ((q4 + (-1 : Int32)) + (-1 : Int32))), .val (.int 0), .unset, .unset] [])) _
        refine own_goto X506.here hx 79 24 rfl (hb hby d33_79) (by decide) (by decide) ?_
        exact kG
      exact ih24 _ _ _ _ _ _ _ _ g24.2.2.2.2.2.2.2 ⟨X506, e506, N506, Z506, K506, V506, f507, f508, f509, f510, g24.2.2.2.2.2.2.1, Or.inr ⟨_, rfl, rfl⟩, Or.inr ⟨_, rfl⟩, G512⟩
theorem own_SSb {x : Int64} {k : Int32} (h : own_SS x k) : 1 ≤ k.toInt ∧ k.toInt ≤ 20 := by
  rcases h with ⟨_, a, b, _⟩ | ⟨_, a, b, _⟩
  · exact ⟨by omega, b⟩
  · exact ⟨a, by omega⟩
theorem own_plusk {c k : Int32} (h0 : 0 ≤ c.toInt) (h1 : c.toInt ≤ 1000) (k0 : 1 ≤ k.toInt) (k1 : k.toInt ≤ 20) : (c + k).toInt = c.toInt + k.toInt := own_add_toInt (by omega) (by omega)
theorem own_sub0 (x : Int32) : x - (0 : Int32) = x := by
  have k0 : (0 : Int32).toInt = 0 := rfl
  have r := rng32 x
  exact Int32.toInt_inj.mp ((own_sub_toInt (by omega) (by omega)).trans (by omega))
theorem own_capB {z m : Int32} (hz : z.toInt = 16 ∨ z.toInt = 34) (m0 : 0 ≤ m.toInt) (m1 : m.toInt ≤ 34) : (own_cap z m).toInt = 16 ∨ (own_cap z m).toInt = 34 := by
  have e := own_nc_toInt (z := z) (m := m) (by omega) (by omega) m0 (by omega)
  have es : (m - z).toInt = m.toInt - z.toInt := own_sub_toInt (by omega) (by omega)
  have k0 : (0 : Int32).toInt = 0 := rfl
  by_cases h : (0 : Int32) < (m - z)
  · rw [own_cap, if_pos h, e]
    rw [own_ltI, k0, es] at h
    split <;> omega
  · rw [own_cap, if_neg h]; exact hz
theorem own_clampB {c : Int32} (h0 : 0 ≤ c.toInt) (h1 : c.toInt ≤ 70) : c.toNatClampNeg ≤ 70 := by have := nat_of (own_nn h0); omega
theorem own_rside {d d1 n k : Nat} {ws : List Addr} (dj : d = d1 ∨ n ≤ d) (h1 : d1 ∈ ws ∨ k ≤ d1) (h2 : k ≤ n) : d ∈ ws ∨ k ≤ d := by
  rcases dj with rfl | q
  · exact h1
  · exact Or.inr (Nat.le_trans h2 q)
theorem own_nf {s : State} {a0 : Array Value} {y y' : MethodName} {K : String} (hc : y'.cls = y.cls) (ws : (Cond.selects K y' y').before a0 s = true) : NotFace s y := fun r0 h0 => by
  obtain ⟨c2, r2, m2, q1, q2, q3, q4, kP, hkP, hkPi⟩ := Cond.selects_spec ws
  obtain ⟨kr, hkr, hi⟩ := notFace_of_selects ws _ q3
  have f1 := findClass_of_methodNamed h0
  have f2 := findClass_of_methodNamed q3
  rw [hc] at f2
  have e := Option.some.inj (f1.symm.trans f2)
  exact ⟨kr, by rw [e]; exact hkr, hi⟩
section OwnClone
variable {p : Program} {l : Launch} {e : Env} {R : Room} {s : State} {m : MethodId} {args : Array Value} {below : List Frame} {meth : Method} {c : Code} {T : State} {locs : List Loc} {cells slots : Nat} {Z : State} {h : Heap} {a b : Addr}
/-- clone() of a byte[], whatever lies in it -/
theorem own_clone (X : Stand p l e R s m args below meth c T locs cells slots) (hx : p.tables.exec = Jvm.exec) (hZ : Z.Warmed39 s.vm) {a0 : Array Value} {own : String} {index : Nat} (hown : s.vm.findClass own = some m.cls)
    (w1 : (Cond.methodLink own index ⟨"[B", "clone", "()Ljava/lang/Object;"⟩).before a0 Z = true) (w2 : (Cond.sameMethod "[B" "java/lang/Object" "clone" "()Ljava/lang/Object;").before a0 Z = true) (w3 : (Cond.native ⟨"java/lang/Object", "clone", "()Ljava/lang/Object;"⟩).before a0 Z = true)
    (w4 : (Cond.instanceMethod ⟨"java/lang/Object", "clone", "()Ljava/lang/Object;"⟩).before a0 Z = true) (w5 : (Cond.selects "[B" ⟨"[B", "clone", "()Ljava/lang/Object;"⟩ ⟨"java/lang/Object", "clone", "()Ljava/lang/Object;"⟩).before a0 Z = true) (w6 : (Cond.castable "[B" "java/lang/Cloneable").before a0 Z = true)
    (eT : T.heap = h) {z : Int32} (F : own_BA Z h a z) {g : JFrame} (hg : g.method = m) (hsize : g.locals.size = c.maxLocals) {rest : List Value} (hst : g.stack = .ref a :: rest) (hd : decode c.code g.pc = .ok (.invokevirtual index, 3))
    (hf : 1 ≤ R.frames) {W cap : Nat} (hW : 2 * g.monitorRoom + (rest.map fun v => v.category).sum ≤ W) (hl : W + 14 ≤ R.locals) (hcap : z.toNatClampNeg ≤ cap) (hc : cells + 1 ≤ R.cells) (hsl : slots + cap ≤ R.slots) :
    ∃ T' h', Stand p l e R s m args below meth c T' locs (cells + 1) (slots + cap) ∧ T'.heap = h' ∧ Ext h h' ∧ own_BA Z h' h.size z ∧
      ∀ target, Steps p.tables e below (T'.setTop { g with pc := g.pc + 3, stack := .ref h.size :: rest }) target → Steps p.tables e below (T.setTop g) target := by
  obtain ⟨E, k, vs, A, l⟩ := F
  obtain ⟨T', h', X', e', ex, A', E', st⟩ := cloneH X hx hZ hown w1 w2 w3 w4 w5 w6 eT (Arv.arh A) E hg hsize hst hd hf hW hl hcap hc hsl
  exact ⟨T', h', X', e', ex, ⟨E', k, vs, A', l⟩, st⟩
end OwnClone
theorem own_OA.safe {Z : State} {EL : List (String × Nat)} {vm : Vm} {h : Heap} {a : Addr} {z : Int32} (hal : Z.vm.Alike vm) (F : own_OA Z h a z) : Safe Z EL vm h a := by
  obtain ⟨c, A, -⟩ := F
  exact Safe.arr hal A (fun q => by cases q)
theorem own_c255 (c : Int32) : ¬ (255 : Int32) < (c &&& (255 : Int32)).toUInt32.toUInt16.toUInt32.toInt32 := by
  have h := c_and c 255 (by decide)
  rw [i2c_mask, own_ltI]; omega
theorem own_ostart {s : State} {args : Array Value} {t : Term} {a : Addr} {c : Cell} (ev : t.eval args s none [] s = some (.ref a)) (A : Arr s s.heap a c (.object "java/lang/Object")) (hl : (Cond.eq (Term.length t) (Term.int 0)).value args s none s [] = some true) : own_OL s s.heap a 0 := by
  obtain ⟨x, y, el1, el2, he⟩ := cmp_v (Or.inl hl)
  obtain ⟨a', c', q1, q2, rfl⟩ := Term.length_spec el1
  cases ev.symm.trans q1
  have hsz : c'.slots.size < 2 ^ 31 := by
    refine Nat.lt_of_not_le fun hh => ?_
    have q : ¬ c'.slots.size < 2147483648 := Nat.not_lt.mpr hh
    simp [Term.eval, ev, q2, q] at el1
  have hl' : (Cond.eq (Term.length t) (Term.int 0)).value args s none s [] = some (decide (c'.slots.size.toInt32 = (0 : Int32))) := Cond.eq_ints el1 rfl
  have e0 : c'.slots.size.toInt32 = (0 : Int32) := by rw [hl] at hl'; simpa using hl'.symm
  have ec : c' = c := by
    have := Arr.fin (Vm.Alike.refl _) A
    exact Option.some.inj (q2.symm.trans this)
  subst ec
  exact ⟨c', A, by rw [← e0]; simp only [Int32.toNatClampNeg, len_toInt hsz]; rfl, by decide⟩
theorem own_bstart {s : State} {a0 args : Array Value} {t : Term} {a : Addr} (hf : Fit s) (wa : (Cond.arrayClass .byte).before a0 s = true) (ev : t.eval args s none [] s = some (.ref a)) (hx : (Cond.exactly t "[B").value args s none s [] = some true)
    (hl : (Cond.eq (Term.length t) (Term.int 100)).value args s none s [] = some true) : own_BV s s.heap a 100 := by
  obtain ⟨cell, k, h1, h2, h3, h4, -⟩ := Exa.start ev hx
  obtain ⟨cA, kA, comp, g1, g2, g3⟩ := Cond.arrayClass_spec wa
  have g1 : s.vm.findClass "[B" = some cA := g1
  cases h2.symm.trans g1
  obtain ⟨x, y, el1, el2, he⟩ := cmp_v (Or.inl hl)
  obtain ⟨a', c', q1, q2, rfl⟩ := Term.length_spec el1
  cases ev.symm.trans q1
  have hsz : c'.slots.size < 2 ^ 31 := by
    refine Nat.lt_of_not_le fun hh => ?_
    have q : ¬ c'.slots.size < 2147483648 := Nat.not_lt.mpr hh
    simp [Term.eval, ev, q2, q] at el1
  have hl' : (Cond.eq (Term.length t) (Term.int 100)).value args s none s [] = some (decide (c'.slots.size.toInt32 = (100 : Int32))) := Cond.eq_ints el1 rfl
  have e100 : c'.slots.size.toInt32 = (100 : Int32) := by rw [hl] at hl'; simpa using hl'.symm
  simp only [State.arrayAt?, Option.bind_eq_bind, Option.bind_eq_some_iff] at q2
  obtain ⟨c0, r1, k0, r2, r3⟩ := q2
  cases h1.symm.trans r1
  split at r3
  · cases r3
  · rename_i hu
    have hun : cell.vm ≠ .unknown := fun z => hu (Or.inl z)
    have ec : cell = c' := by
      split at r3
      · exact Option.some.inj r3
      · cases r3
    subst ec
    have A : Arr s s.heap a cell .byte := ⟨h1, ⟨fun z q => (by rw [q] at h4; cases h4), kA, g2, comp, g3⟩, hun⟩
    have e1 : cell.slots.size = (100 : Int32).toNatClampNeg := by rw [← e100]; simp only [Int32.toNatClampNeg, len_toInt hsz]; rfl
    have hH : ∀ (L : List Value) (i : Nat), (∀ j, j < L.length → cell.slots[i + j]? = L[j]?) → HasL cell i L := by
      intro L
      induction L with
      | nil => intro i _; trivial
      | cons v r ih =>
        intro i H
        refine ⟨by have := H 0 (by simp); simpa using this, ih (i + 1) fun j hj => ?_⟩
        have := H (j + 1) (by simpa using hj)
        rw [show i + 1 + j = i + (j + 1) by omega]; simpa using this
    refine ⟨_, cell.slots.toList, Arv.start hf A hsz e100 (by decide) (by rw [Array.length_toList]; exact e1.symm) (hH _ 0 fun j hj => ?_), by rw [Array.length_toList]; exact e1⟩
    rw [Nat.zero_add]; simp
theorem ef_rmAJ (m : MethodId) (x0 : Addr) (x1 : Int64) : entryFrame m #[(.ref x0), (.long x1)] 5 = mkF m 0 #[.val (.ref x0), .val (.long x1), .second, .unset, .unset] [] := by first | (simp [entryFrame, mkF, argsToLocals, Value.category]; done) | rfl
def QAJ (Z : State) (a1 : Addr) (p1 : Int64) (kc : Int32) (d1 : Addr) (z : Int32) (c1 : Int32) (aO : Addr) (aT : Addr) (h0 : Heap) (n0 : Nat) (v : Option Value) (h : Heap) (L : List Loc) : Prop := v = some (.ref a1) ∧ Fr n0 L ∧ Keep h0 h [a1, d1] ∧ ∃ k : Int32, (1 ≤ k.toInt ∧ k.toInt ≤ 20) ∧ ∃ d, (d = d1 ∨ h0.size ≤ d) ∧ n0 ≤ d ∧ a1 ≠ d ∧ Exa Z h a1 "java/lang/StringBuilder" ∧ Fld Z h a1 "java/lang/AbstractStringBuilder" "value" "[B" (.ref d) ∧ Fld Z h a1 "java/lang/AbstractStringBuilder" "coder" "B" (.int 0) ∧ Fld Z h a1 "java/lang/AbstractStringBuilder" "count" "I" (.int (c1 + k)) ∧ own_BA Z h d (own_cap z (c1 + k))
theorem d30_0 : decode jdk_68_method_33_code 0 = .ok (.aload_n 0, 1) := by decide +kernel
theorem d30_1 : decode jdk_68_method_33_code 1 = .ok (.getfield 79, 3) := by decide +kernel
theorem d30_4 : decode jdk_68_method_33_code 4 = .ok (.istore_n 3, 1) := by decide +kernel
theorem d30_5 : decode jdk_68_method_33_code 5 = .ok (.iload_n 3, 1) := by decide +kernel
theorem d30_6 : decode jdk_68_method_33_code 6 = .ok (.lload_n 1, 1) := by decide +kernel
theorem d30_7 : decode jdk_68_method_33_code 7 = .ok (.invokestatic 254, 3) := by decide +kernel
theorem pd_28J29I : parseMethodDescriptor "(J)I" = some ⟨[.long], some .int⟩ := by decide +kernel
theorem d30_10 : decode jdk_68_method_33_code 10 = .ok (.iadd, 1) := by decide +kernel
theorem d30_11 : decode jdk_68_method_33_code 11 = .ok (.istore 4, 2) := by decide +kernel
theorem d30_13 : decode jdk_68_method_33_code 13 = .ok (.aload_n 0, 1) := by decide +kernel
theorem d30_14 : decode jdk_68_method_33_code 14 = .ok (.iload 4, 2) := by decide +kernel
theorem d30_16 : decode jdk_68_method_33_code 16 = .ok (.invokevirtual 100, 3) := by decide +kernel
theorem d30_19 : decode jdk_68_method_33_code 19 = .ok (.aload_n 0, 1) := by decide +kernel
theorem d30_20 : decode jdk_68_method_33_code 20 = .ok (.invokevirtual 83, 3) := by decide +kernel
theorem pd_2829Z : parseMethodDescriptor "()Z" = some ⟨[], some .boolean⟩ := by decide +kernel
theorem d30_23 : decode jdk_68_method_33_code 23 = .ok (.ifCond .eq 17, 3) := by decide +kernel
theorem d30_26 : decode jdk_68_method_33_code 26 = .ok (.lload_n 1, 1) := by decide +kernel
theorem d30_27 : decode jdk_68_method_33_code 27 = .ok (.iload 4, 2) := by decide +kernel
theorem d30_29 : decode jdk_68_method_33_code 29 = .ok (.aload_n 0, 1) := by decide +kernel
theorem d30_30 : decode jdk_68_method_33_code 30 = .ok (.getfield 15, 3) := by decide +kernel
theorem d30_33 : decode jdk_68_method_33_code 33 = .ok (.invokestatic 259, 3) := by decide +kernel
theorem pd_28JI5bB29I : parseMethodDescriptor "(JI[B)I" = some ⟨[.long, .int, (.array .byte)], some .int⟩ := by decide +kernel
theorem d30_36 : decode jdk_68_method_33_code 36 = .ok (.pop, 1) := by decide +kernel
theorem d30_37 : decode jdk_68_method_33_code 37 = .ok (.goto 15, 3) := by decide +kernel
theorem d30_52 : decode jdk_68_method_33_code 52 = .ok (.aload_n 0, 1) := by decide +kernel
theorem d30_53 : decode jdk_68_method_33_code 53 = .ok (.iload 4, 2) := by decide +kernel
theorem d30_55 : decode jdk_68_method_33_code 55 = .ok (.putfield 79, 3) := by decide +kernel
theorem d30_58 : decode jdk_68_method_33_code 58 = .ok (.aload_n 0, 1) := by decide +kernel
theorem d30_59 : decode jdk_68_method_33_code 59 = .ok (.areturn, 1) := by decide +kernel
set_option maxRecDepth 65536 in
set_option maxHeartbeats 40000000 in
theorem rmAJ (l : Launch) (Z : State) (a0 : Array Value) (hw : ∀ d ∈ tables_1, d.before a0 Z = true) (ws : List Jvm.Cond) (a1 : Addr) (p1 : Int64) (kc : Int32) (d1 : Addr) (z : Int32) (c1 : Int32) (aO : Addr) (aT : Addr) (h0 : Heap) (n0 : Nat) (Z0 : n0 ≤ h0.size) (E_a1 : Exa Z h0 a1 "java/lang/StringBuilder") (g_a1 : n0 ≤ a1) (F_value : Fld Z h0 a1 "java/lang/AbstractStringBuilder" "value" "[B" (.ref d1)) (F_coder : Fld Z h0 a1 "java/lang/AbstractStringBuilder" "coder" "B" (.int 0)) (F_count : Fld Z h0 a1 "java/lang/AbstractStringBuilder" "count" "I" (.int c1)) (B_d1 : own_BA Z h0 d1 z) (g_d1 : n0 ≤ d1) (nD : a1 ≠ d1) (SC : Sta Z h0 "java/lang/String" "COMPACT_STRINGS" "Z" (.int kc)) (hkc : ¬ kc = (0 : Int32)) (SO : Sta Z h0 "java/lang/Integer" "DigitOnes" "[B" (.ref aO)) (ST : Sta Z h0 "java/lang/Integer" "DigitTens" "[B" (.ref aT)) (BO : own_BV Z h0 aO 100) (BT : own_BV Z h0 aT 100) (hz16 : z.toInt = 16 ∨ z.toInt = 34) (hc0 : 0 ≤ c1.toInt) (hc1 : c1.toInt ≤ 23) (nO1 : aO ≠ a1) (nT1 : aT ≠ a1) (nO : aO ≠ d1) (nT : aT ≠ d1) :
    MetFree l (⟨"java/lang/AbstractStringBuilder", "append", "(J)Ljava/lang/AbstractStringBuilder;"⟩ : MethodName) (head1 (Jvm.Cond.code (⟨"java/lang/AbstractStringBuilder", "append", "(J)Ljava/lang/AbstractStringBuilder;"⟩ : MethodName) jdk_68_method_33_code 5 (some (.object "java/lang/AbstractStringBuilder")) :: ws) ({ frames := 4, cells := 1, slots := 70, locals := 62 } : Room)) (fun a U => a = #[(.ref a1), (.long p1)] ∧ Z.Warmed39 U.vm ∧ U.heap = h0) (fun _ _ _ _ _ => True) (fun _ U o U' => ∃ v L, o = .returned v ∧ QAJ Z a1 p1 kc d1 z c1 aO aT h0 n0 v U'.heap L ∧ FrameEnd U o U' L ({ frames := 4, cells := 1, slots := 70, locals := 62 } : Room).cells ({ frames := 4, cells := 1, slots := 70, locals := 62 } : Room).slots) := by
  refine MetFree.of_bodySF (plainFor_of_name pn_java_lang_AbstractStringBuilder) hisR ?_
  intro p e s m args below meth c s₁ Bd hml0 hP hK
  obtain ⟨rfl, hZ, hh⟩ := hP
  have hx := Bd.exec
  have hby := Bd.bytes
  have hml : c.maxLocals = 5 := hml0
  have hown : s.vm.findClass "java/lang/AbstractStringBuilder" = some m.cls := findClass_of_methodNamed Bd.named
  have hnm := (name_of_methodNamed Bd.named Bd.method).1
  have X0 : Stand p l e ({ frames := 4, cells := 1, slots := 70, locals := 62 } : Room) s m #[(.ref a1), (.long p1)] below meth c s₁ [] 0 0 := Stand.of_body Bd
  have e0 : s₁.heap = h0 := by rw [← hh, Bd.state]; rfl
  have N0 := Fr.nil n0
  have pre0 : ∀ tG, Steps p.tables e below (s₁.setTop (mkF m 0 #[.val (.ref a1), .val (.long p1), .second, .unset, .unset] [])) tG → Steps p.tables e below (s₁.setTop (entryFrame m #[(.ref a1), (.long p1)] 5)) tG := fun tG kG => castTop (ef_rmAJ m a1 p1) kG
  have hz : 16 ≤ z.toInt ∧ z.toInt ≤ 34 := by omega
  obtain ⟨T513, X513, e513, st513⟩ := getF X0 hx hZ hown (host := "") (Or.inl (own_w hw 152 rfl)) Via.refl e0 F_count (g := (mkF m 1 #[.val (.ref a1), .val (.long p1), .second, .unset, .unset] [(.ref a1)])) rfl rfl (hb hby d30_1)
  obtain ⟨_, _, ⟨T514, L514, k514, n514⟩, -, X514, ⟨Lc514, hQ514, l514, y514, z514⟩, st514⟩ := Jvm.LawKit.callS X513 hx (y := (⟨"java/lang/Long", "stringSize", "(J)I"⟩ : MethodName)) hown (mvT hZ (own_w hw 191 rfl)) (mvT hZ (own_w hw 192 rfl)) (mvT hZ (own_w hw 193 rfl)) (mvT hZ (own_w hw 194 rfl)) (by decide) (backOf (W := 1) (rmSS l Z a0 hw [] p1 h0 n0 Z0) hZ (own_w hw 194 rfl) (own_w hw 193 rfl) (by decide) (by decide)) (g := (mkF m 7 #[.val (.ref a1), .val (.long p1), .second, .val (.int c1), .unset] [(.long p1), (.int c1)])) rfl (by rw [hml]; rfl) (argsL := [(.long p1)]) (rest := [(.int c1)]) (lenOf pd_28J29I rfl) rfl (by show 2 * 0 + _ ≤ _; exact Nat.le_of_eq rfl) (hb hby d30_7) (fun _ _ => ⟨rfl, e513, (by decide : 0 + 0 ≤ _), (by decide : 0 + 0 ≤ _)⟩)
  dsimp only [Pt.U, Pt.locs, Pt.cells, Pt.slots] at X514 l514 y514 z514 st514 hQ514
  subst l514 y514 z514
  obtain ⟨k514x, rfl, N514q, e514, ss514⟩ := hQ514
  have N514 := Fr.app N0 N514q
  have kb := own_SSb ss514
  have hm : (c1 + k514x).toInt = c1.toInt + k514x.toInt := own_plusk hc0 (by omega) kb.1 kb.2
  have G515 : ∀ tG, Steps p.tables e below (T514.setTop (mkF m 16 #[.val (.ref a1), .val (.long p1), .second, .val (.int c1), .val (.int (c1 + k514x))] [(.int (c1 + k514x)), (.ref a1)])) tG → Steps p.tables e below (s₁.setTop (mkF m 0 #[.val (.ref a1), .val (.long p1), .second, .unset, .unset] [])) tG := by
    intro tG kG
    refine own_aloadN X0.here hx (hb hby d30_0) rfl rfl ?_
    refine st513 _ ?_
    show Steps p.tables e below (T513.setTop (mkF m 4 #[.val (.ref a1), .val (.long p1), .second, .unset, .unset] [(.int c1)])) _
    refine own_istoreN X513.here hx (hb hby d30_4) (l' := #[.val (.ref a1), .val (.long p1), .second, .val (.int c1), .unset]) rfl ?_
    refine own_iloadN X513.here hx (hb hby d30_5) rfl ?_
    refine own_lloadN X513.here hx (hb hby d30_6) rfl ?_
    refine st514 _ ?_
    show Steps p.tables e below (T514.setTop (mkF m 10 #[.val (.ref a1), .val (.long p1), .second, .val (.int c1), .unset] [(.int k514x), (.int c1)])) _
    refine own_iadd X514.here hx (hb hby d30_10) ?_
    refine own_istore X514.here hx (hb hby d30_11) (l' := #[.val (.ref a1), .val (.long p1), .second, .val (.int c1), .val (.int (c1 + k514x))]) rfl ?_
    refine own_aloadN X514.here hx (hb hby d30_13) rfl rfl ?_
    refine own_iload X514.here hx (hb hby d30_14) rfl ?_
    exact kG
  rcases Decidable.em ((0 : Int32) < ((c1 + k514x) - z)) with hE | hE
  · have gr := own_grows hz.1 hz.2 (by omega) (by omega) hE
    have hq1 : k514x.toInt ≤ (c1 + k514x).toInt := by omega
    have hq2 : (c1 + k514x).toInt ≤ (own_nc z (c1 + k514x)).toInt := gr.2.2.2.2.2.1
    obtain ⟨cq516, q516, q516'⟩ := E_a1.cell
    obtain ⟨_, _, ⟨T516, L516, k516, n516⟩, -, X516, ⟨Lc516, hQ516, l516, y516, z516⟩, st516⟩ := X514.privateBack hx (y := (⟨"java/lang/AbstractStringBuilder", "ensureCapacityInternal", "(I)V"⟩ : MethodName)) hown (mvT hZ (own_w hw 154 rfl)) (mvT hZ (own_w hw 155 rfl)) (mvT hZ (own_selp (own_w hw 155 rfl) (own_w hw 156 rfl) (own_w hw 157 rfl) (by decide))) (Cond.privateMethod_at (mvP hZ (own_w hw 156 rfl) (args := #[]))) (mvT hZ (own_w hw 158 rfl)) (by decide) (backOf (W := 0) (rmEG l Z a0 hw [] a1 (c1 + k514x) d1 z c1 h0 n0 Z0 E_a1 g_a1 F_value F_coder F_count B_d1 g_d1 nD hE gr.1 gr.2.1 gr.2.2.2.2.2.2.2.2 gr.2.2.2.2.1 gr.2.2.2.1 gr.2.2.1) hZ (own_w hw 158 rfl) (own_w hw 124 rfl) (by decide) (by decide)) (g := (mkF m 16 #[.val (.ref a1), .val (.long p1), .second, .val (.int c1), .val (.int (c1 + k514x))] [(.int (c1 + k514x)), (.ref a1)])) rfl (by rw [hml]; rfl) (Steps.refl _) (a := a1) (by rw [e514]; exact q516) q516' (argsL := [(.int (c1 + k514x))]) (rest := []) (lenOf pd_28I29V rfl) rfl (by show 2 * 0 + _ ≤ _; exact Nat.le_of_eq rfl) (hb hby d30_16) (fun _ _ => ⟨rfl, e514, (by decide : 0 + 1 ≤ _), (by decide : 0 + 70 ≤ _)⟩)
    dsimp only [Pt.U, Pt.locs, Pt.cells, Pt.slots] at X516 l516 y516 z516 st516 hQ516
    subst l516 y516 z516
    obtain ⟨rfl, N516q, Kq516, c516, lt516, E516x, F516_value, F516_coder, F516_count, BA516⟩ := hQ516
    have gg516_c516 : n0 ≤ c516 := Nat.le_trans Z0 lt516
    have sz516_c516 : h0.size ≤ c516 := Nat.le_trans (Keep.refl h0 [a1, d1]).1 lt516
    have ne517 : a1 ≠ c516 := Nat.ne_of_lt (Nat.lt_of_lt_of_le E_a1.lt lt516)
    have ne518 : d1 ≠ c516 := Nat.ne_of_lt (Nat.lt_of_lt_of_le B_d1.lt lt516)
    have ne519 : aO ≠ c516 := Nat.ne_of_lt (Nat.lt_of_lt_of_le BO.lt lt516)
    have ne520 : aT ≠ c516 := Nat.ne_of_lt (Nat.lt_of_lt_of_le BT.lt lt516)
    have N516 := Fr.app N514 N516q
    have Z516 : n0 ≤ T516.heap.size := Nat.le_trans Z0 Kq516.1
    have K516 : Keep h0 T516.heap [a1, d1] := (Keep.refl h0 [a1, d1]).trans Kq516 (allS (Or.inl (List.mem_of_getElem? (i := 0) rfl)) all0)
    have f521 : Sta Z T516.heap "java/lang/String" "COMPACT_STRINGS" "Z" (.int kc) := own_sta_keep SC Kq516 (nsS E_a1.nostat ns0)
    have f522 : Sta Z T516.heap "java/lang/Integer" "DigitOnes" "[B" (.ref aO) := own_sta_keep SO Kq516 (nsS E_a1.nostat ns0)
    have f523 : Sta Z T516.heap "java/lang/Integer" "DigitTens" "[B" (.ref aT) := own_sta_keep ST Kq516 (nsS E_a1.nostat ns0)
    have f524 : own_BV Z T516.heap aO (100 : Int32) := BO.keep Kq516 (ninS nO1 nin0)
    have f525 : own_BV Z T516.heap aT (100 : Int32) := BT.keep Kq516 (ninS nT1 nin0)
    obtain ⟨cq526, kq526, q526a, q526b, q526c⟩ := isOf hZ rfl E516x
    obtain ⟨_, _, ⟨T526, L526, k526, n526⟩, -, X526, ⟨Lc526, hQ526, l526, y526, z526⟩, st526⟩ := X516.virtualBack hx (y := (⟨"java/lang/AbstractStringBuilder", "isLatin1", "()Z"⟩ : MethodName)) (z := (⟨"java/lang/AbstractStringBuilder", "isLatin1", "()Z"⟩ : MethodName)) hown (mvT hZ (own_w hw 197 rfl)) (mvT hZ (own_w hw 198 rfl)) (notFace_of_selects (args := #[]) (mvT hZ (own_w hw 200 rfl))) (mvT hZ (own_w hw 200 rfl)) (mvT hZ (own_w hw 199 rfl)) (by decide) (backOf (W := 0) (rmIL l Z a0 hw [] a1 kc T516.heap n0 Z516 f521 hkc F516_coder) hZ (own_w hw 201 rfl) (own_w hw 124 rfl) (by decide) (by decide)) q526a q526c (g := (mkF m 20 #[.val (.ref a1), .val (.long p1), .second, .val (.int c1), .val (.int (c1 + k514x))] [(.ref a1)])) rfl (by rw [hml]; rfl) (Steps.refl _) (argsL := []) (rest := []) (lenOf pd_2829Z rfl) rfl (by show 2 * 0 + _ ≤ _; exact Nat.le_of_eq rfl) (hb hby d30_20) (fun _ _ => ⟨rfl, rfl, (by decide : 1 + 0 ≤ _), (by decide : 70 + 0 ≤ _)⟩)
    dsimp only [Pt.U, Pt.locs, Pt.cells, Pt.slots] at X526 l526 y526 z526 st526 hQ526
    subst l526 y526 z526
    obtain ⟨rfl, N526q, e526⟩ := hQ526
    have N526 := Fr.app N516 N526q
    obtain ⟨T527, X527, e527, st527⟩ := getF X526 hx hZ hown (host := "") (Or.inl (own_w hw 128 rfl)) Via.refl e526 F516_value (g := (mkF m 30 #[.val (.ref a1), .val (.long p1), .second, .val (.int c1), .val (.int (c1 + k514x))] [(.ref a1), (.int (c1 + k514x)), (.long p1)])) rfl rfl (hb hby d30_30)
    obtain ⟨_, _, ⟨T528, L528, k528, n528⟩, -, X528, ⟨Lc528, hQ528, l528, y528, z528⟩, st528⟩ := Jvm.LawKit.callS X527 hx (y := (⟨"java/lang/Long", "getChars", "(JI[B)I"⟩ : MethodName)) hown (mvT hZ (own_w hw 202 rfl)) (mvT hZ (own_w hw 203 rfl)) (mvT hZ (own_w hw 193 rfl)) (mvT hZ (own_w hw 204 rfl)) (by decide) (backOf (W := 0) (rmGC l Z a0 hw [] p1 (c1 + k514x) c516 aO aT (own_nc z (c1 + k514x)) k514x T516.heap n0 Z516 f522 f523 f524 f525 BA516 gg516_c516 ne519 ne520 ss514 hq1 hq2) hZ (own_w hw 204 rfl) (own_w hw 193 rfl) (by decide) (by decide)) (g := (mkF m 33 #[.val (.ref a1), .val (.long p1), .second, .val (.int c1), .val (.int (c1 + k514x))] [(.ref c516), (.int (c1 + k514x)), (.long p1)])) rfl (by rw [hml]; rfl) (argsL := [(.long p1), (.int (c1 + k514x)), (.ref c516)]) (rest := []) (lenOf pd_28JI5bB29I rfl) rfl (by show 2 * 0 + _ ≤ _; exact Nat.le_of_eq rfl) (hb hby d30_33) (fun _ _ => ⟨rfl, e527, (by decide : 1 + 0 ≤ _), (by decide : 70 + 0 ≤ _)⟩)
    dsimp only [Pt.U, Pt.locs, Pt.cells, Pt.slots] at X528 l528 y528 z528 st528 hQ528
    subst l528 y528 z528
    obtain ⟨r528x, rfl, N528q, Kq528, BA528⟩ := hQ528
    have N528 := Fr.app N526 N528q
    have Z528 : n0 ≤ T528.heap.size := Nat.le_trans Z516 Kq528.1
    have K528 : Keep h0 T528.heap [a1, d1] := K516.trans Kq528 (allS (Or.inr sz516_c516) all0)
    have f529 : Exa Z T528.heap a1 "java/lang/StringBuilder" := E516x.keep Kq528
    have f530 : Fld Z T528.heap a1 "java/lang/AbstractStringBuilder" "value" "[B" (.ref c516) := F516_value.keep Kq528 (ninS ne517 nin0)
    have f531 : Fld Z T528.heap a1 "java/lang/AbstractStringBuilder" "coder" "B" (.int 0) := F516_coder.keep Kq528 (ninS ne517 nin0)
    have f532 : Fld Z T528.heap a1 "java/lang/AbstractStringBuilder" "count" "I" (.int c1) := F516_count.keep Kq528 (ninS ne517 nin0)
    obtain ⟨T534, h534, X534, e534, W534, st534⟩ := putF X528 hx hZ hown (host := "") (Or.inl (own_w hw 152 rfl)) Via.refl rfl f532 f529 (Or.inl (own_w hw 153 rfl)) (own_w hw 115 rfl) (ty := .int) (by decide) rfl rfl (g := (mkF m 55 #[.val (.ref a1), .val (.long p1), .second, .val (.int c1), .val (.int (c1 + k514x))] [(.int (c1 + k514x)), (.ref a1)])) rfl rfl (hb hby d30_55)
    have f535 : Exa Z h534 a1 "java/lang/StringBuilder" := f529.wr W534
    have f536 : Fld Z h534 a1 "java/lang/AbstractStringBuilder" "value" "[B" (.ref c516) := f530.other W534 (Or.inr (slot_ne (Or.inl (own_w hw 129 rfl)) (Or.inl (own_w hw 153 rfl)) (by decide) (t := (.array .byte)) (t' := .int) (by decide) (by decide)))
    have f537 : Fld Z h534 a1 "java/lang/AbstractStringBuilder" "coder" "B" (.int 0) := f531.other W534 (Or.inr (slot_ne (Or.inl (own_w hw 131 rfl)) (Or.inl (own_w hw 153 rfl)) (by decide) (t := .byte) (t' := .int) (by decide) (by decide)))
    have f539 : own_BA Z h534 c516 (own_nc z (c1 + k514x)) := BA528.other W534 (Ne.symm ne517)
    have f540 : Fld Z h534 a1 "java/lang/AbstractStringBuilder" "count" "I" (.int (c1 + k514x)) := f532.same W534
    have N534 := Fr.snoc X534 N528 g_a1
    have Z534 : n0 ≤ h534.size := Nat.le_trans Z528 (Keep.of_wr W534).1
    have K534 : Keep h0 h534 [a1, d1] := K528.wr W534 (Or.inl (List.mem_of_getElem? (i := 0) rfl))
    obtain ⟨fs, hr, hrun, hended, hW, hsame⟩ := X534.leave (v := some (.ref a1)) (fun h => by rw [Bd.returns] at h; cases h)
    refine ⟨_, _, pre0 _ ?_, hrun, hended, _, _, rfl, ?_, ⟨_, rfl⟩, hW, hsame.mono (by decide) (by decide)⟩
    · refine G515 _ ?_
      refine st516.trans ?_
      show Steps p.tables e below (T516.setTop (mkF m 19 #[.val (.ref a1), .val (.long p1), .second, .val (.int c1), .val (.int (c1 + k514x))] [])) _
      refine own_aloadN X516.here hx (hb hby d30_19) rfl rfl ?_
      refine st526.trans ?_
      show Steps p.tables e below (T526.setTop (mkF m 23 #[.val (.ref a1), .val (.long p1), .second, .val (.int c1), .val (.int (c1 + k514x))] [(.int 1)])) _
      refine own_ifNo X526.here hx (hb hby d30_23) ((if0 _ _).trans (feq (by decide : ¬ ((1 : Int32) = (0 : Int32)))).1) ?_
      refine own_lloadN X526.here hx (hb hby d30_26) rfl ?_
      refine own_iload X526.here hx (hb hby d30_27) rfl ?_
      refine own_aloadN X526.here hx (hb hby d30_29) rfl rfl ?_
      refine st527 _ ?_
      show Steps p.tables e below (T527.setTop (mkF m 33 #[.val (.ref a1), .val (.long p1), .second, .val (.int c1), .val (.int (c1 + k514x))] [(.ref c516), (.int (c1 + k514x)), (.long p1)])) _
      refine st528 _ ?_
      show Steps p.tables e below (T528.setTop (mkF m 36 #[.val (.ref a1), .val (.long p1), .second, .val (.int c1), .val (.int (c1 + k514x))] [(.int r528x)])) _
      refine own_pop X528.here hx (hb hby d30_36) rfl ?_
      refine own_goto X528.here hx 37 52 rfl (hb hby d30_37) (by decide) (by decide) ?_
      refine own_aloadN X528.here hx (hb hby d30_52) rfl rfl ?_
      refine own_iload X528.here hx (hb hby d30_53) rfl ?_
      refine st534 _ ?_
      show Steps p.tables e below (T534.setTop (mkF m 58 #[.val (.ref a1), .val (.long p1), .second, .val (.int c1), .val (.int (c1 + k514x))] [])) _
      refine own_aloadN X534.here hx (hb hby d30_58) rfl rfl ?_
      show Steps p.tables e below (T534.setTop (mkF m 59 #[.val (.ref a1), .val (.long p1), .second, .val (.int c1), .val (.int (c1 + k514x))] [(.ref a1)])) _
      jvm_step X534.here [X534.here.top, hx, (hb hby d30_59), X534.method', Bd.returns, Value.isRef, FieldType.isReference]
      first | (intro acts; rw [hr _ acts rfl rfl rfl]) | rw [hr _ _ rfl rfl rfl]
      exact Steps.refl _
    · show QAJ Z a1 p1 kc d1 z c1 aO aT h0 n0 _ T534.heap _
      rw [e534]
      exact ⟨rfl, N534, K534, k514x, kb, c516, Or.inr sz516_c516, gg516_c516, ne517, f535, f536, f537, f540, (by rw [own_cap, if_pos hE]; exact f539)⟩
  · have fi := own_fitsI hz.1 (by omega) (by omega) (by omega) hE
    have hq1 : k514x.toInt ≤ (c1 + k514x).toInt := by omega
    have hq2 : (c1 + k514x).toInt ≤ z.toInt := fi
    obtain ⟨cq541, q541, q541'⟩ := E_a1.cell
    obtain ⟨_, _, ⟨T541, L541, k541, n541⟩, -, X541, ⟨Lc541, hQ541, l541, y541, z541⟩, st541⟩ := X514.privateBack hx (y := (⟨"java/lang/AbstractStringBuilder", "ensureCapacityInternal", "(I)V"⟩ : MethodName)) hown (mvT hZ (own_w hw 154 rfl)) (mvT hZ (own_w hw 155 rfl)) (mvT hZ (own_selp (own_w hw 155 rfl) (own_w hw 156 rfl) (own_w hw 157 rfl) (by decide))) (Cond.privateMethod_at (mvP hZ (own_w hw 156 rfl) (args := #[]))) (mvT hZ (own_w hw 158 rfl)) (by decide) (backOf (W := 0) (rmEF l Z a0 hw [] a1 (c1 + k514x) d1 z c1 h0 n0 Z0 E_a1 g_a1 F_value F_coder F_count B_d1 g_d1 nD hE) hZ (own_w hw 158 rfl) (own_w hw 124 rfl) (by decide) (by decide)) (g := (mkF m 16 #[.val (.ref a1), .val (.long p1), .second, .val (.int c1), .val (.int (c1 + k514x))] [(.int (c1 + k514x)), (.ref a1)])) rfl (by rw [hml]; rfl) (Steps.refl _) (a := a1) (by rw [e514]; exact q541) q541' (argsL := [(.int (c1 + k514x))]) (rest := []) (lenOf pd_28I29V rfl) rfl (by show 2 * 0 + _ ≤ _; exact Nat.le_of_eq rfl) (hb hby d30_16) (fun _ _ => ⟨rfl, e514, (by decide : 0 + 0 ≤ _), (by decide : 0 + 0 ≤ _)⟩)
    dsimp only [Pt.U, Pt.locs, Pt.cells, Pt.slots] at X541 l541 y541 z541 st541 hQ541
    subst l541 y541 z541
    obtain ⟨rfl, N541q, e541⟩ := hQ541
    have N541 := Fr.app N514 N541q
    obtain ⟨cq542, kq542, q542a, q542b, q542c⟩ := isOf hZ e541 E_a1
    obtain ⟨_, _, ⟨T542, L542, k542, n542⟩, -, X542, ⟨Lc542, hQ542, l542, y542, z542⟩, st542⟩ := X541.virtualBack hx (y := (⟨"java/lang/AbstractStringBuilder", "isLatin1", "()Z"⟩ : MethodName)) (z := (⟨"java/lang/AbstractStringBuilder", "isLatin1", "()Z"⟩ : MethodName)) hown (mvT hZ (own_w hw 197 rfl)) (mvT hZ (own_w hw 198 rfl)) (notFace_of_selects (args := #[]) (mvT hZ (own_w hw 200 rfl))) (mvT hZ (own_w hw 200 rfl)) (mvT hZ (own_w hw 199 rfl)) (by decide) (backOf (W := 0) (rmIL l Z a0 hw [] a1 kc h0 n0 Z0 SC hkc F_coder) hZ (own_w hw 201 rfl) (own_w hw 124 rfl) (by decide) (by decide)) q542a q542c (g := (mkF m 20 #[.val (.ref a1), .val (.long p1), .second, .val (.int c1), .val (.int (c1 + k514x))] [(.ref a1)])) rfl (by rw [hml]; rfl) (Steps.refl _) (argsL := []) (rest := []) (lenOf pd_2829Z rfl) rfl (by show 2 * 0 + _ ≤ _; exact Nat.le_of_eq rfl) (hb hby d30_20) (fun _ _ => ⟨rfl, e541, (by decide : 0 + 0 ≤ _), (by decide : 0 + 0 ≤ _)⟩)
    dsimp only [Pt.U, Pt.locs, Pt.cells, Pt.slots] at X542 l542 y542 z542 st542 hQ542
    subst l542 y542 z542
    obtain ⟨rfl, N542q, e542⟩ := hQ542
    have N542 := Fr.app N541 N542q
    obtain ⟨T543, X543, e543, st543⟩ := getF X542 hx hZ hown (host := "") (Or.inl (own_w hw 128 rfl)) Via.refl e542 F_value (g := (mkF m 30 #[.val (.ref a1), .val (.long p1), .second, .val (.int c1), .val (.int (c1 + k514x))] [(.ref a1), (.int (c1 + k514x)), (.long p1)])) rfl rfl (hb hby d30_30)
    obtain ⟨_, _, ⟨T544, L544, k544, n544⟩, -, X544, ⟨Lc544, hQ544, l544, y544, z544⟩, st544⟩ := Jvm.LawKit.callS X543 hx (y := (⟨"java/lang/Long", "getChars", "(JI[B)I"⟩ : MethodName)) hown (mvT hZ (own_w hw 202 rfl)) (mvT hZ (own_w hw 203 rfl)) (mvT hZ (own_w hw 193 rfl)) (mvT hZ (own_w hw 204 rfl)) (by decide) (backOf (W := 0) (rmGC l Z a0 hw [] p1 (c1 + k514x) d1 aO aT z k514x h0 n0 Z0 SO ST BO BT B_d1 g_d1 nO nT ss514 hq1 hq2) hZ (own_w hw 204 rfl) (own_w hw 193 rfl) (by decide) (by decide)) (g := (mkF m 33 #[.val (.ref a1), .val (.long p1), .second, .val (.int c1), .val (.int (c1 + k514x))] [(.ref d1), (.int (c1 + k514x)), (.long p1)])) rfl (by rw [hml]; rfl) (argsL := [(.long p1), (.int (c1 + k514x)), (.ref d1)]) (rest := []) (lenOf pd_28JI5bB29I rfl) rfl (by show 2 * 0 + _ ≤ _; exact Nat.le_of_eq rfl) (hb hby d30_33) (fun _ _ => ⟨rfl, e543, (by decide : 0 + 0 ≤ _), (by decide : 0 + 0 ≤ _)⟩)
    dsimp only [Pt.U, Pt.locs, Pt.cells, Pt.slots] at X544 l544 y544 z544 st544 hQ544
    subst l544 y544 z544
    obtain ⟨r544x, rfl, N544q, Kq544, BA544⟩ := hQ544
    have N544 := Fr.app N542 N544q
    have Z544 : n0 ≤ T544.heap.size := Nat.le_trans Z0 Kq544.1
    have K544 : Keep h0 T544.heap [a1, d1] := (Keep.refl h0 [a1, d1]).trans Kq544 (allS (Or.inl (List.mem_of_getElem? (i := 1) rfl)) all0)
    have f545 : Exa Z T544.heap a1 "java/lang/StringBuilder" := E_a1.keep Kq544
    have f546 : Fld Z T544.heap a1 "java/lang/AbstractStringBuilder" "value" "[B" (.ref d1) := F_value.keep Kq544 (ninS nD nin0)
    have f547 : Fld Z T544.heap a1 "java/lang/AbstractStringBuilder" "coder" "B" (.int 0) := F_coder.keep Kq544 (ninS nD nin0)
    have f548 : Fld Z T544.heap a1 "java/lang/AbstractStringBuilder" "count" "I" (.int c1) := F_count.keep Kq544 (ninS nD nin0)
    obtain ⟨T550, h550, X550, e550, W550, st550⟩ := putF X544 hx hZ hown (host := "") (Or.inl (own_w hw 152 rfl)) Via.refl rfl f548 f545 (Or.inl (own_w hw 153 rfl)) (own_w hw 115 rfl) (ty := .int) (by decide) rfl rfl (g := (mkF m 55 #[.val (.ref a1), .val (.long p1), .second, .val (.int c1), .val (.int (c1 + k514x))] [(.int (c1 + k514x)), (.ref a1)])) rfl rfl (hb hby d30_55)
    have f551 : Exa Z h550 a1 "java/lang/StringBuilder" := f545.wr W550
    have f552 : Fld Z h550 a1 "java/lang/AbstractStringBuilder" "value" "[B" (.ref d1) := f546.other W550 (Or.inr (slot_ne (Or.inl (own_w hw 129 rfl)) (Or.inl (own_w hw 153 rfl)) (by decide) (t := (.array .byte)) (t' := .int) (by decide) (by decide)))
    have f553 : Fld Z h550 a1 "java/lang/AbstractStringBuilder" "coder" "B" (.int 0) := f547.other W550 (Or.inr (slot_ne (Or.inl (own_w hw 131 rfl)) (Or.inl (own_w hw 153 rfl)) (by decide) (t := .byte) (t' := .int) (by decide) (by decide)))
    have f555 : own_BA Z h550 d1 z := BA544.other W550 (Ne.symm nD)
    have f556 : Fld Z h550 a1 "java/lang/AbstractStringBuilder" "count" "I" (.int (c1 + k514x)) := f548.same W550
    have N550 := Fr.snoc X550 N544 g_a1
    have Z550 : n0 ≤ h550.size := Nat.le_trans Z544 (Keep.of_wr W550).1
    have K550 : Keep h0 h550 [a1, d1] := K544.wr W550 (Or.inl (List.mem_of_getElem? (i := 0) rfl))
    obtain ⟨fs, hr, hrun, hended, hW, hsame⟩ := X550.leave (v := some (.ref a1)) (fun h => by rw [Bd.returns] at h; cases h)
    refine ⟨_, _, pre0 _ ?_, hrun, hended, _, _, rfl, ?_, ⟨_, rfl⟩, hW, hsame.mono (by decide) (by decide)⟩
    · refine G515 _ ?_
      refine st541.trans ?_
      show Steps p.tables e below (T541.setTop (mkF m 19 #[.val (.ref a1), .val (.long p1), .second, .val (.int c1), .val (.int (c1 + k514x))] [])) _
      refine own_aloadN X541.here hx (hb hby d30_19) rfl rfl ?_
      refine st542.trans ?_
      show Steps p.tables e below (T542.setTop (mkF m 23 #[.val (.ref a1), .val (.long p1), .second, .val (.int c1), .val (.int (c1 + k514x))] [(.int 1)])) _
      refine own_ifNo X542.here hx (hb hby d30_23) ((if0 _ _).trans (feq (by decide : ¬ ((1 : Int32) = (0 : Int32)))).1) ?_
      refine own_lloadN X542.here hx (hb hby d30_26) rfl ?_
      refine own_iload X542.here hx (hb hby d30_27) rfl ?_
      refine own_aloadN X542.here hx (hb hby d30_29) rfl rfl ?_
      refine st543 _ ?_
      show Steps p.tables e below (T543.setTop (mkF m 33 #[.val (.ref a1), .val (.long p1), .second, .val (.int c1), .val (.int (c1 + k514x))] [(.ref d1), (.int (c1 + k514x)), (.long p1)])) _
      refine st544 _ ?_
      show Steps p.tables e below (T544.setTop (mkF m 36 #[.val (.ref a1), .val (.long p1), .second, .val (.int c1), .val (.int (c1 + k514x))] [(.int r544x)])) _
      refine own_pop X544.here hx (hb hby d30_36) rfl ?_
      refine own_goto X544.here hx 37 52 rfl (hb hby d30_37) (by decide) (by decide) ?_
      refine own_aloadN X544.here hx (hb hby d30_52) rfl rfl ?_
      refine own_iload X544.here hx (hb hby d30_53) rfl ?_
      refine st550 _ ?_
      show Steps p.tables e below (T550.setTop (mkF m 58 #[.val (.ref a1), .val (.long p1), .second, .val (.int c1), .val (.int (c1 + k514x))] [])) _
      refine own_aloadN X550.here hx (hb hby d30_58) rfl rfl ?_
      show Steps p.tables e below (T550.setTop (mkF m 59 #[.val (.ref a1), .val (.long p1), .second, .val (.int c1), .val (.int (c1 + k514x))] [(.ref a1)])) _
      jvm_step X550.here [X550.here.top, hx, (hb hby d30_59), X550.method', Bd.returns, Value.isRef, FieldType.isReference]
      first | (intro acts; rw [hr _ acts rfl rfl rfl]) | rw [hr _ _ rfl rfl rfl]
      exact Steps.refl _
    · show QAJ Z a1 p1 kc d1 z c1 aO aT h0 n0 _ T550.heap _
      rw [e550]
      exact ⟨rfl, N550, K550, k514x, kb, d1, Or.inl rfl, g_d1, nD, f551, f552, f553, f556, (by rw [own_cap, if_neg hE]; exact f555)⟩
theorem ef_rmSJ (m : MethodId) (x0 : Addr) (x1 : Int64) : entryFrame m #[(.ref x0), (.long x1)] 3 = mkF m 0 #[.val (.ref x0), .val (.long x1), .second] [] := by first | (simp [entryFrame, mkF, argsToLocals, Value.category]; done) | rfl
def QSJ (Z : State) (a1 : Addr) (p1 : Int64) (kc : Int32) (d1 : Addr) (z : Int32) (c1 : Int32) (aO : Addr) (aT : Addr) (h0 : Heap) (n0 : Nat) (v : Option Value) (h : Heap) (L : List Loc) : Prop := v = some (.ref a1) ∧ Fr n0 L ∧ Keep h0 h [a1, d1] ∧ ∃ k : Int32, (1 ≤ k.toInt ∧ k.toInt ≤ 20) ∧ ∃ d, (d = d1 ∨ h0.size ≤ d) ∧ n0 ≤ d ∧ a1 ≠ d ∧ Exa Z h a1 "java/lang/StringBuilder" ∧ Fld Z h a1 "java/lang/AbstractStringBuilder" "value" "[B" (.ref d) ∧ Fld Z h a1 "java/lang/AbstractStringBuilder" "coder" "B" (.int 0) ∧ Fld Z h a1 "java/lang/AbstractStringBuilder" "count" "I" (.int (c1 + k)) ∧ own_BA Z h d (own_cap z (c1 + k))
theorem d29_0 : decode jdk_67_method_16_code 0 = .ok (.aload_n 0, 1) := by decide +kernel
theorem d29_1 : decode jdk_67_method_16_code 1 = .ok (.lload_n 1, 1) := by decide +kernel
theorem d29_2 : decode jdk_67_method_16_code 2 = .ok (.invokespecial 56, 3) := by decide +kernel
theorem pd_28J29Ljava2flang2fAbstractStringBuilder3b : parseMethodDescriptor "(J)Ljava/lang/AbstractStringBuilder;" = some ⟨[.long], some (.object "java/lang/AbstractStringBuilder")⟩ := by decide +kernel
theorem d29_5 : decode jdk_67_method_16_code 5 = .ok (.pop, 1) := by decide +kernel
theorem d29_6 : decode jdk_67_method_16_code 6 = .ok (.aload_n 0, 1) := by decide +kernel
theorem d29_7 : decode jdk_67_method_16_code 7 = .ok (.areturn, 1) := by decide +kernel
set_option maxRecDepth 65536 in
set_option maxHeartbeats 40000000 in
theorem rmSJ (l : Launch) (Z : State) (a0 : Array Value) (hw : ∀ d ∈ tables_1, d.before a0 Z = true) (ws : List Jvm.Cond) (a1 : Addr) (p1 : Int64) (kc : Int32) (d1 : Addr) (z : Int32) (c1 : Int32) (aO : Addr) (aT : Addr) (h0 : Heap) (n0 : Nat) (Z0 : n0 ≤ h0.size) (E_a1 : Exa Z h0 a1 "java/lang/StringBuilder") (g_a1 : n0 ≤ a1) (F_value : Fld Z h0 a1 "java/lang/AbstractStringBuilder" "value" "[B" (.ref d1)) (F_coder : Fld Z h0 a1 "java/lang/AbstractStringBuilder" "coder" "B" (.int 0)) (F_count : Fld Z h0 a1 "java/lang/AbstractStringBuilder" "count" "I" (.int c1)) (B_d1 : own_BA Z h0 d1 z) (g_d1 : n0 ≤ d1) (nD : a1 ≠ d1) (SC : Sta Z h0 "java/lang/String" "COMPACT_STRINGS" "Z" (.int kc)) (hkc : ¬ kc = (0 : Int32)) (SO : Sta Z h0 "java/lang/Integer" "DigitOnes" "[B" (.ref aO)) (ST : Sta Z h0 "java/lang/Integer" "DigitTens" "[B" (.ref aT)) (BO : own_BV Z h0 aO 100) (BT : own_BV Z h0 aT 100) (hz16 : z.toInt = 16 ∨ z.toInt = 34) (hc0 : 0 ≤ c1.toInt) (hc1 : c1.toInt ≤ 23) (nO1 : aO ≠ a1) (nT1 : aT ≠ a1) (nO : aO ≠ d1) (nT : aT ≠ d1) :
    MetFree l (⟨"java/lang/StringBuilder", "append", "(J)Ljava/lang/StringBuilder;"⟩ : MethodName) (head1 (Jvm.Cond.code (⟨"java/lang/StringBuilder", "append", "(J)Ljava/lang/StringBuilder;"⟩ : MethodName) jdk_67_method_16_code 3 (some (.object "java/lang/StringBuilder")) :: ws) ({ frames := 5, cells := 1, slots := 70, locals := 78 } : Room)) (fun a U => a = #[(.ref a1), (.long p1)] ∧ Z.Warmed39 U.vm ∧ U.heap = h0) (fun _ _ _ _ _ => True) (fun _ U o U' => ∃ v L, o = .returned v ∧ QSJ Z a1 p1 kc d1 z c1 aO aT h0 n0 v U'.heap L ∧ FrameEnd U o U' L ({ frames := 5, cells := 1, slots := 70, locals := 78 } : Room).cells ({ frames := 5, cells := 1, slots := 70, locals := 78 } : Room).slots) := by
  refine MetFree.of_bodySF (plainFor_of_name pn_java_lang_StringBuilder) hisR ?_
  intro p e s m args below meth c s₁ Bd hml0 hP hK
  obtain ⟨rfl, hZ, hh⟩ := hP
  have hx := Bd.exec
  have hby := Bd.bytes
  have hml : c.maxLocals = 3 := hml0
  have hown : s.vm.findClass "java/lang/StringBuilder" = some m.cls := findClass_of_methodNamed Bd.named
  have hnm := (name_of_methodNamed Bd.named Bd.method).1
  have X0 : Stand p l e ({ frames := 5, cells := 1, slots := 70, locals := 78 } : Room) s m #[(.ref a1), (.long p1)] below meth c s₁ [] 0 0 := Stand.of_body Bd
  have e0 : s₁.heap = h0 := by rw [← hh, Bd.state]; rfl
  have N0 := Fr.nil n0
  have pre0 : ∀ tG, Steps p.tables e below (s₁.setTop (mkF m 0 #[.val (.ref a1), .val (.long p1), .second] [])) tG → Steps p.tables e below (s₁.setTop (entryFrame m #[(.ref a1), (.long p1)] 3)) tG := fun tG kG => castTop (ef_rmSJ m a1 p1) kG
  obtain ⟨_, _, ⟨T557, L557, k557, n557⟩, -, X557, ⟨Lc557, hQ557, l557, y557, z557⟩, st557⟩ := superBack X0 hx hZ (y := (⟨"java/lang/AbstractStringBuilder", "append", "(J)Ljava/lang/AbstractStringBuilder;"⟩ : MethodName)) hown (own_w hw 187 rfl) (own_same (own_w hw 188 rfl) (own_w hw 157 rfl) rfl (by decide)) (own_w hw 188 rfl) (own_w hw 139 rfl) (by decide) (backOf (W := 0) (rmAJ l Z a0 hw [] a1 p1 kc d1 z c1 aO aT h0 n0 Z0 E_a1 g_a1 F_value F_coder F_count B_d1 g_d1 nD SC hkc SO ST BO BT hz16 hc0 hc1 nO1 nT1 nO nT) hZ (own_w hw 190 rfl) (own_w hw 124 rfl) (by decide) (by decide)) e0 (Ins.self E_a1) (g := (mkF m 2 #[.val (.ref a1), .val (.long p1), .second] [(.long p1), (.ref a1)])) rfl (by rw [hml]; rfl) (own_w hw 190 rfl) (argsL := [(.long p1)]) (rest := []) (lenOf pd_28J29Ljava2flang2fAbstractStringBuilder3b rfl) rfl (by show 2 * 0 + _ ≤ _; exact Nat.le_of_eq rfl) (hb hby d29_2) (fun _ _ => ⟨rfl, e0, (by decide : 0 + 1 ≤ _), (by decide : 0 + 70 ≤ _)⟩)
  dsimp only [Pt.U, Pt.locs, Pt.cells, Pt.slots] at X557 l557 y557 z557 st557 hQ557
  subst l557 y557 z557
  obtain ⟨rfl, N557q, Kq557, k557x, kb557, c557, dj557, gd557, nd557, E557x, F557_value, F557_coder, F557_count, BA557⟩ := hQ557
  have ne558 : a1 ≠ c557 := own_rne dj557 nD E_a1.lt
  have ne559 : aO ≠ c557 := own_rne dj557 nO BO.lt
  have ne560 : aT ≠ c557 := own_rne dj557 nT BT.lt
  have N557 := Fr.app N0 N557q
  have Z557 : n0 ≤ T557.heap.size := Nat.le_trans Z0 Kq557.1
  have K557 : Keep h0 T557.heap [a1, d1] := (Keep.refl h0 [a1, d1]).trans Kq557 (allS (Or.inl (List.mem_of_getElem? (i := 0) rfl)) (allS (Or.inl (List.mem_of_getElem? (i := 1) rfl)) all0))
  obtain ⟨fs, hr, hrun, hended, hW, hsame⟩ := X557.leave (v := some (.ref a1)) (fun h => by rw [Bd.returns] at h; cases h)
  refine ⟨_, _, pre0 _ ?_, hrun, hended, _, _, rfl, ?_, ⟨_, rfl⟩, hW, hsame.mono (by decide) (by decide)⟩
  · refine own_aloadN X0.here hx (hb hby d29_0) rfl rfl ?_
    refine own_lloadN X0.here hx (hb hby d29_1) rfl ?_
    refine st557.trans ?_
    show Steps p.tables e below (T557.setTop (mkF m 5 #[.val (.ref a1), .val (.long p1), .second] [(.ref a1)])) _
    refine own_pop X557.here hx (hb hby d29_5) rfl ?_
    refine own_aloadN X557.here hx (hb hby d29_6) rfl rfl ?_
    show Steps p.tables e below (T557.setTop (mkF m 7 #[.val (.ref a1), .val (.long p1), .second] [(.ref a1)])) _
    jvm_step X557.here [X557.here.top, hx, (hb hby d29_7), X557.method', Bd.returns, Value.isRef, FieldType.isReference]
    first | (intro acts; rw [hr _ acts rfl rfl rfl]) | rw [hr _ _ rfl rfl rfl]
    exact Steps.refl _
  · show QSJ Z a1 p1 kc d1 z c1 aO aT h0 n0 _ T557.heap _
    exact ⟨rfl, N557, K557, k557x, kb557, c557, dj557, gd557, nd557, E557x, F557_value, F557_coder, F557_count, BA557⟩
theorem ef_rmCL (m : MethodId) (x0 : Int32) (x1 : Int32) : entryFrame m #[(.int x0), (.int x1)] 2 = mkF m 0 #[.val (.int x0), .val (.int x1)] [] := by first | (simp [entryFrame, mkF, argsToLocals, Value.category]; done) | rfl
def QCL (Z : State) (p2 : Int32) (h0 : Heap) (n0 : Nat) (v : Option Value) (h : Heap) (L : List Loc) : Prop := v = none ∧ Fr n0 L ∧ h = h0
theorem d42_0 : decode jdk_65_method_131_code 0 = .ok (.iload_n 1, 1) := by decide +kernel
theorem d42_1 : decode jdk_65_method_131_code 1 = .ok (.iload_n 0, 1) := by decide +kernel
theorem d42_2 : decode jdk_65_method_131_code 2 = .ok (.if_icmp .ge 35, 3) := by decide +kernel
theorem d42_37 : decode jdk_65_method_131_code 37 = .ok (.return_, 1) := by decide +kernel
set_option maxRecDepth 65536 in
set_option maxHeartbeats 40000000 in
theorem rmCL (l : Launch) (Z : State) (a0 : Array Value) (hw : ∀ d ∈ tables_1, d.before a0 Z = true) (ws : List Jvm.Cond) (p2 : Int32) (h0 : Heap) (n0 : Nat) (Z0 : n0 ≤ h0.size) (hq0 : ¬ p2 < (0 : Int32)) :
    MetFree l (⟨"java/util/Arrays", "checkLength", "(II)V"⟩ : MethodName) (head1 (Jvm.Cond.code (⟨"java/util/Arrays", "checkLength", "(II)V"⟩ : MethodName) jdk_65_method_131_code 2 none :: ws) ({ frames := 0, cells := 0, slots := 0, locals := 0 } : Room)) (fun a U => a = #[(.int 0), (.int p2)] ∧ Z.Warmed39 U.vm ∧ U.heap = h0) (fun _ _ _ _ _ => True) (fun _ U o U' => ∃ v L, o = .returned v ∧ QCL Z p2 h0 n0 v U'.heap L ∧ FrameEnd U o U' L ({ frames := 0, cells := 0, slots := 0, locals := 0 } : Room).cells ({ frames := 0, cells := 0, slots := 0, locals := 0 } : Room).slots) := by
  refine MetFree.of_bodySF (plainFor_of_name pn_java_util_Arrays) hisR ?_
  intro p e s m args below meth c s₁ Bd hml0 hP hK
  obtain ⟨rfl, hZ, hh⟩ := hP
  have hx := Bd.exec
  have hby := Bd.bytes
  have hml : c.maxLocals = 2 := hml0
  have hown : s.vm.findClass "java/util/Arrays" = some m.cls := findClass_of_methodNamed Bd.named
  have hnm := (name_of_methodNamed Bd.named Bd.method).1
  have X0 : Stand p l e ({ frames := 0, cells := 0, slots := 0, locals := 0 } : Room) s m #[(.int 0), (.int p2)] below meth c s₁ [] 0 0 := Stand.of_body Bd
  have e0 : s₁.heap = h0 := by rw [← hh, Bd.state]; rfl
  have N0 := Fr.nil n0
  have pre0 : ∀ tG, Steps p.tables e below (s₁.setTop (mkF m 0 #[.val (.int 0), .val (.int p2)] [])) tG → Steps p.tables e below (s₁.setTop (entryFrame m #[(.int 0), (.int p2)] 2)) tG := fun tG kG => castTop (ef_rmCL m (0 : Int32) p2) kG
  obtain ⟨fs, hr, hrun, hended, hW, hsame⟩ := X0.leave (v := none) (fun _ => rfl)
  refine ⟨_, _, pre0 _ ?_, hrun, hended, _, _, rfl, ?_, ⟨_, rfl⟩, hW, hsame.mono (by decide) (by decide)⟩
  · refine own_iloadN X0.here hx (hb hby d42_0) rfl ?_
    refine own_iloadN X0.here hx (hb hby d42_1) rfl ?_
    refine own_icmpYes X0.here hx 2 37 rfl (hb hby d42_2) (flt hq0).2.1 (by decide) (by decide) ?_
    exact X0.returnOut hx Bd.returns (hb hby d42_37) hr
  · show QCL Z p2 h0 n0 _ s₁.heap _
    rw [e0]
    exact ⟨rfl, N0, rfl⟩
theorem ef_rmCB (m : MethodId) (x0 : Addr) (x1 : Int32) (x2 : Int32) : entryFrame m #[(.ref x0), (.int x1), (.int x2)] 5 = mkF m 0 #[.val (.ref x0), .val (.int x1), .val (.int x2), .unset, .unset] [] := by first | (simp [entryFrame, mkF, argsToLocals, Value.category]; done) | rfl
def QCB (Z : State) (a1 : Addr) (p3 : Int32) (z : Int32) (h0 : Heap) (n0 : Nat) (v : Option Value) (h : Heap) (L : List Loc) : Prop := ∃ b, v = some (.ref b) ∧ Fr n0 L ∧ Keep h0 h [] ∧ h0.size ≤ b ∧ own_BA Z h b p3
theorem d41_0 : decode jdk_65_method_133_code 0 = .ok (.iload_n 1, 1) := by decide +kernel
theorem d41_1 : decode jdk_65_method_133_code 1 = .ok (.iload_n 2, 1) := by decide +kernel
theorem d41_2 : decode jdk_65_method_133_code 2 = .ok (.invokestatic 343, 3) := by decide +kernel
theorem pd_28II29V : parseMethodDescriptor "(II)V" = some ⟨[.int, .int], none⟩ := by decide +kernel
theorem d41_5 : decode jdk_65_method_133_code 5 = .ok (.iload_n 2, 1) := by decide +kernel
theorem d41_6 : decode jdk_65_method_133_code 6 = .ok (.iload_n 1, 1) := by decide +kernel
theorem d41_7 : decode jdk_65_method_133_code 7 = .ok (.isub, 1) := by decide +kernel
theorem d41_8 : decode jdk_65_method_133_code 8 = .ok (.istore_n 3, 1) := by decide +kernel
theorem d41_9 : decode jdk_65_method_133_code 9 = .ok (.iload_n 3, 1) := by decide +kernel
theorem d41_10 : decode jdk_65_method_133_code 10 = .ok (.newarray .byte, 2) := by decide +kernel
theorem d41_12 : decode jdk_65_method_133_code 12 = .ok (.astore 4, 2) := by decide +kernel
theorem d41_14 : decode jdk_65_method_133_code 14 = .ok (.aload_n 0, 1) := by decide +kernel
theorem d41_15 : decode jdk_65_method_133_code 15 = .ok (.iload_n 1, 1) := by decide +kernel
theorem d41_16 : decode jdk_65_method_133_code 16 = .ok (.aload 4, 2) := by decide +kernel
theorem d41_18 : decode jdk_65_method_133_code 18 = .ok (.iconst 0, 1) := by decide +kernel
theorem d41_19 : decode jdk_65_method_133_code 19 = .ok (.aload_n 0, 1) := by decide +kernel
theorem d41_20 : decode jdk_65_method_133_code 20 = .ok (.arraylength, 1) := by decide +kernel
theorem d41_21 : decode jdk_65_method_133_code 21 = .ok (.iload_n 1, 1) := by decide +kernel
theorem d41_22 : decode jdk_65_method_133_code 22 = .ok (.isub, 1) := by decide +kernel
theorem d41_23 : decode jdk_65_method_133_code 23 = .ok (.iload_n 3, 1) := by decide +kernel
theorem d41_24 : decode jdk_65_method_133_code 24 = .ok (.invokestatic 304, 3) := by decide +kernel
theorem d41_27 : decode jdk_65_method_133_code 27 = .ok (.invokestatic 150, 3) := by decide +kernel
theorem d41_30 : decode jdk_65_method_133_code 30 = .ok (.aload 4, 2) := by decide +kernel
theorem d41_32 : decode jdk_65_method_133_code 32 = .ok (.areturn, 1) := by decide +kernel
set_option maxRecDepth 65536 in
set_option maxHeartbeats 40000000 in
theorem rmCB (l : Launch) (Z : State) (a0 : Array Value) (hw : ∀ d ∈ tables_1, d.before a0 Z = true) (ws : List Jvm.Cond) (a1 : Addr) (p3 : Int32) (z : Int32) (h0 : Heap) (n0 : Nat) (Z0 : n0 ≤ h0.size) (BS : own_BV Z h0 a1 z) (hq0 : ¬ p3 < (0 : Int32)) (hq1 : p3.toNatClampNeg ≤ 70) :
    MetFree l (⟨"java/util/Arrays", "copyOfRangeByte", "([BII)[B"⟩ : MethodName) (head1 (Jvm.Cond.code (⟨"java/util/Arrays", "copyOfRangeByte", "([BII)[B"⟩ : MethodName) jdk_65_method_133_code 5 (some (.array .byte)) :: ws) ({ frames := 1, cells := 1, slots := 70, locals := 18 } : Room)) (fun a U => a = #[(.ref a1), (.int 0), (.int p3)] ∧ Z.Warmed39 U.vm ∧ U.heap = h0) (fun _ _ _ _ _ => True) (fun _ U o U' => ∃ v L, o = .returned v ∧ QCB Z a1 p3 z h0 n0 v U'.heap L ∧ FrameEnd U o U' L ({ frames := 1, cells := 1, slots := 70, locals := 18 } : Room).cells ({ frames := 1, cells := 1, slots := 70, locals := 18 } : Room).slots) := by
  refine MetFree.of_bodySF (plainFor_of_name pn_java_util_Arrays) hisR ?_
  intro p e s m args below meth c s₁ Bd hml0 hP hK
  obtain ⟨rfl, hZ, hh⟩ := hP
  have hx := Bd.exec
  have hby := Bd.bytes
  have hml : c.maxLocals = 5 := hml0
  have hown : s.vm.findClass "java/util/Arrays" = some m.cls := findClass_of_methodNamed Bd.named
  have hnm := (name_of_methodNamed Bd.named Bd.method).1
  have X0 : Stand p l e ({ frames := 1, cells := 1, slots := 70, locals := 18 } : Room) s m #[(.ref a1), (.int 0), (.int p3)] below meth c s₁ [] 0 0 := Stand.of_body Bd
  have e0 : s₁.heap = h0 := by rw [← hh, Bd.state]; rfl
  have N0 := Fr.nil n0
  have pre0 : ∀ tG, Steps p.tables e below (s₁.setTop (mkF m 0 #[.val (.ref a1), .val (.int 0), .val (.int p3), .unset, .unset] [])) tG → Steps p.tables e below (s₁.setTop (entryFrame m #[(.ref a1), (.int 0), (.int p3)] 5)) tG := fun tG kG => castTop (ef_rmCB m a1 (0 : Int32) p3) kG
  obtain ⟨_, _, ⟨T561, L561, k561, n561⟩, -, X561, ⟨Lc561, hQ561, l561, y561, z561⟩, st561⟩ := Jvm.LawKit.callS X0 hx (y := (⟨"java/util/Arrays", "checkLength", "(II)V"⟩ : MethodName)) hown (mvT hZ (own_w hw 242 rfl)) (mvT hZ (own_w hw 243 rfl)) (mvT hZ (own_w hw 237 rfl)) (mvT hZ (own_w hw 244 rfl)) (by decide) (backOf (W := 0) (rmCL l Z a0 hw [] p3 h0 n0 Z0 hq0) hZ (own_w hw 244 rfl) (own_w hw 237 rfl) (by decide) (by decide)) (g := (mkF m 2 #[.val (.ref a1), .val (.int 0), .val (.int p3), .unset, .unset] [(.int p3), (.int 0)])) rfl (by rw [hml]; rfl) (argsL := [(.int 0), (.int p3)]) (rest := []) (lenOf pd_28II29V rfl) rfl (by show 2 * 0 + _ ≤ _; exact Nat.le_of_eq rfl) (hb hby d41_2) (fun _ _ => ⟨rfl, e0, (by decide : 0 + 0 ≤ _), (by decide : 0 + 0 ≤ _)⟩)
  dsimp only [Pt.U, Pt.locs, Pt.cells, Pt.slots] at X561 l561 y561 z561 st561 hQ561
  subst l561 y561 z561
  obtain ⟨rfl, N561q, e561⟩ := hQ561
  have N561 := Fr.app N0 N561q
  obtain ⟨T562, h562, k562, X562, e562, E562, A562, B562, st562⟩ := newPE X561 hx hZ (own_w hw 30 rfl) e561 (g := (mkF m 10 #[.val (.ref a1), .val (.int 0), .val (.int p3), .val (.int p3), .unset] [(.int p3)])) rfl (hb hby d41_10) rfl hq0 (cap := 70) hq1 (by decide) (by decide) (by decide) (ad := "[B") (by decide)
  obtain ⟨b562, g562⟩ : ∃ z, z = h0.size := ⟨_, rfl⟩
  rw [← g562] at A562 B562 st562
  have E562' := E562
  have gg562 : n0 ≤ b562 := Nat.le_trans Z0 (Nat.le_of_eq g562.symm)
  have sz562 : h0.size ≤ b562 := Nat.le_trans (Keep.refl h0 []).1 (Nat.le_of_eq g562.symm)
  have ne563 : a1 ≠ b562 := Nat.ne_of_lt (Nat.lt_of_lt_of_le BS.lt (Nat.le_of_eq g562.symm))
  have Z562 : n0 ≤ h562.size := Nat.le_trans Z0 E562.1
  have K562 : Keep h0 h562 [] := (Keep.refl h0 []).ext E562
  have f564 : own_BV Z h562 a1 z := BS.ext E562
  have V562 : own_BA Z h562 b562 p3 := ⟨B562, own_BV.new A562 hq0⟩
  obtain ⟨kk565, vs565, ⟨cl565, Ar565, -, S565, M565, -, -⟩, -⟩ := id f564
  obtain ⟨_, _, ⟨T566, L566, k566, n566⟩, -, X566, ⟨Lc566, hQ566, l566, y566, z566⟩, st566⟩ := Jvm.LawKit.callS X562 hx (y := (⟨"java/lang/Math", "min", "(II)I"⟩ : MethodName)) hown (mvT hZ (own_w hw 245 rfl)) (mvT hZ (own_w hw 246 rfl)) (mvT hZ (own_w hw 109 rfl)) (mvT hZ (own_w hw 247 rfl)) (by decide) (backOf (W := 4) (rmMin l Z a0 hw [] z p3 h562 n0 Z562) hZ (own_w hw 247 rfl) (own_w hw 109 rfl) (by decide) (by decide)) (g := (mkF m 24 #[.val (.ref a1), .val (.int 0), .val (.int p3), .val (.int p3), .val (.ref b562)] [(.int p3), (.int z), (.int 0), (.ref b562), (.int 0), (.ref a1)])) rfl (by rw [hml]; rfl) (argsL := [(.int z), (.int p3)]) (rest := [(.int 0), (.ref b562), (.int 0), (.ref a1)]) (lenOf pd_28II29I rfl) rfl (by show 2 * 0 + _ ≤ _; exact Nat.le_of_eq rfl) (hb hby d41_24) (fun _ _ => ⟨rfl, e562, (by decide : 1 + 0 ≤ _), (by decide : 70 + 0 ≤ _)⟩)
  dsimp only [Pt.U, Pt.locs, Pt.cells, Pt.slots] at X566 l566 y566 z566 st566 hQ566
  subst l566 y566 z566
  obtain ⟨rfl, N566q, e566⟩ := hQ566
  have N566 := Fr.app N561 N566q
  obtain ⟨T567, h567, L567, X567, e567, N567, Kq567, V567, st567⟩ := own_cpB X566 hx hZ hown (own_w hw 248 rfl) (own_w hw 178 rfl) (own_w hw 176 rfl) (own_w hw 177 rfl) e566 f564 V562 (by decide) (by decide) ((own_cpm BS.pos hq0).1) ((own_cpm BS.pos hq0).2.1) ((own_cpm BS.pos hq0).2.2) N566 gg562 (g := (mkF m 27 #[.val (.ref a1), .val (.int 0), .val (.int p3), .val (.int p3), .val (.ref b562)] [(.int (own_min z p3)), (.int 0), (.ref b562), (.int 0), (.ref a1)])) rfl (by rw [hml]; rfl) rfl (hb hby d41_27) (by decide) (W := 0) (by show 2 * 0 + _ ≤ _; exact Nat.le_of_eq rfl) (by decide)
  have Z567 : n0 ≤ h567.size := Nat.le_trans Z562 Kq567.1
  have K567 : Keep h0 h567 [] := K562.trans Kq567 (allS (Or.inr sz562) all0)
  have f568 : own_BV Z h567 a1 z := f564.keep Kq567 (ninS ne563 nin0)
  obtain ⟨fs, hr, hrun, hended, hW, hsame⟩ := X567.leave (v := some (.ref b562)) (fun h => by rw [Bd.returns] at h; cases h)
  refine ⟨_, _, pre0 _ ?_, hrun, hended, _, _, rfl, ?_, ⟨_, rfl⟩, hW, hsame.mono (by decide) (by decide)⟩
  · refine own_iloadN X0.here hx (hb hby d41_0) rfl ?_
    refine own_iloadN X0.here hx (hb hby d41_1) rfl ?_
    refine st561 _ ?_
    show Steps p.tables e below (T561.setTop (mkF m 5 #[.val (.ref a1), .val (.int 0), .val (.int p3), .unset, .unset] [])) _
    refine own_iloadN X561.here hx (hb hby d41_5) rfl ?_
    refine own_iloadN X561.here hx (hb hby d41_6) rfl ?_
    refine own_isub X561.here hx (hb hby d41_7) ?_
    show Steps p.tables e below (T561.setTop (mkF m 8 #[.val (.ref a1), .val (.int 0), .val (.int p3), .unset, .unset] [(.int (p3 - (0 : Int32)))])) _
    rw [own_sub0]
    show Steps p.tables e below (T561.setTop (mkF m 8 #[.val (.ref a1), .val (.int 0), .val (.int p3), .unset, .unset] [(.int p3)])) _
    refine own_istoreN X561.here hx (hb hby d41_8) (l' := #[.val (.ref a1), .val (.int 0), .val (.int p3), .val (.int p3), .unset]) rfl ?_
    refine own_iloadN X561.here hx (hb hby d41_9) rfl ?_
    refine st562 _ ?_
    show Steps p.tables e below (T562.setTop (mkF m 12 #[.val (.ref a1), .val (.int 0), .val (.int p3), .val (.int p3), .unset] [(.ref b562)])) _
    refine own_astore X562.here hx (hb hby d41_12) rfl (l' := #[.val (.ref a1), .val (.int 0), .val (.int p3), .val (.int p3), .val (.ref b562)]) rfl ?_
    refine own_aloadN X562.here hx (hb hby d41_14) rfl rfl ?_
    refine own_iloadN X562.here hx (hb hby d41_15) rfl ?_
    refine own_aload X562.here hx (hb hby d41_16) rfl rfl ?_
    refine own_iconst X562.here hx (0 : Int32) (hb hby d41_18) rfl ?_
    refine own_aloadN X562.here hx (hb hby d41_19) rfl rfl ?_
    refine X562.arraylength hx (by rw [e562]; exact Ar565.1) (State.isArrayOf_alike hZ.alike Ar565.2.1) (g := (mkF m 20 #[.val (.ref a1), .val (.int 0), .val (.int p3), .val (.int p3), .val (.ref b562)] [(.ref a1), (.int 0), (.ref b562), (.int 0), (.ref a1)])) rfl rfl (hb hby d41_20) _ ?_
    rw [len_of S565 M565]
    show Steps p.tables e below (T562.setTop (mkF m 21 #[.val (.ref a1), .val (.int 0), .val (.int p3), .val (.int p3), .val (.ref b562)] [(.int z), (.int 0), (.ref b562), (.int 0), (.ref a1)])) _
    refine own_iloadN X562.here hx (hb hby d41_21) rfl ?_
    refine own_isub X562.here hx (hb hby d41_22) ?_
    show Steps p.tables e below (T562.setTop (mkF m 23 #[.val (.ref a1), .val (.int 0), .val (.int p3), .val (.int p3), .val (.ref b562)] [(.int (z - (0 : Int32))), (.int 0), (.ref b562), (.int 0), (.ref a1)])) _
    rw [own_sub0]
    show Steps p.tables e below (T562.setTop (mkF m 23 #[.val (.ref a1), .val (.int 0), .val (.int p3), .val (.int p3), .val (.ref b562)] [(.int z), (.int 0), (.ref b562), (.int 0), (.ref a1)])) _
    refine own_iloadN X562.here hx (hb hby d41_23) rfl ?_
    refine st566 _ ?_
    show Steps p.tables e below (T566.setTop (mkF m 27 #[.val (.ref a1), .val (.int 0), .val (.int p3), .val (.int p3), .val (.ref b562)] [(.int (own_min z p3)), (.int 0), (.ref b562), (.int 0), (.ref a1)])) _
    refine st567 _ ?_
    show Steps p.tables e below (T567.setTop (mkF m 30 #[.val (.ref a1), .val (.int 0), .val (.int p3), .val (.int p3), .val (.ref b562)] [])) _
    refine own_aload X567.here hx (hb hby d41_30) rfl rfl ?_
    show Steps p.tables e below (T567.setTop (mkF m 32 #[.val (.ref a1), .val (.int 0), .val (.int p3), .val (.int p3), .val (.ref b562)] [(.ref b562)])) _
    jvm_step X567.here [X567.here.top, hx, (hb hby d41_32), X567.method', Bd.returns, Value.isRef, FieldType.isReference]
    first | (intro acts; rw [hr _ acts rfl rfl rfl]) | rw [hr _ _ rfl rfl rfl]
    exact Steps.refl _
  · show QCB Z a1 p3 z h0 n0 _ T567.heap _
    rw [e567]
    exact ⟨b562, rfl, N567, K567, sz562, V567⟩
theorem ef_rmCR (m : MethodId) (x0 : Addr) (x1 : Int32) (x2 : Int32) : entryFrame m #[(.ref x0), (.int x1), (.int x2)] 3 = mkF m 0 #[.val (.ref x0), .val (.int x1), .val (.int x2)] [] := by first | (simp [entryFrame, mkF, argsToLocals, Value.category]; done) | rfl
def QCR (Z : State) (a1 : Addr) (p3 : Int32) (z : Int32) (h0 : Heap) (n0 : Nat) (v : Option Value) (h : Heap) (L : List Loc) : Prop := ∃ b, v = some (.ref b) ∧ Fr n0 L ∧ Keep h0 h [] ∧ h0.size ≤ b ∧ own_BA Z h b p3
theorem d40_0 : decode jdk_65_method_132_code 0 = .ok (.iload_n 1, 1) := by decide +kernel
theorem d40_1 : decode jdk_65_method_132_code 1 = .ok (.ifCond .ne 9, 3) := by decide +kernel
theorem d40_4 : decode jdk_65_method_132_code 4 = .ok (.iload_n 2, 1) := by decide +kernel
theorem d40_5 : decode jdk_65_method_132_code 5 = .ok (.aload_n 0, 1) := by decide +kernel
theorem d40_6 : decode jdk_65_method_132_code 6 = .ok (.arraylength, 1) := by decide +kernel
theorem d40_7 : decode jdk_65_method_132_code 7 = .ok (.if_icmp .eq 10, 3) := by decide +kernel
theorem d40_17 : decode jdk_65_method_132_code 17 = .ok (.aload_n 0, 1) := by decide +kernel
theorem d40_18 : decode jdk_65_method_132_code 18 = .ok (.invokevirtual 310, 3) := by decide +kernel
theorem d40_21 : decode jdk_65_method_132_code 21 = .ok (.checkcast 311, 3) := by decide +kernel
theorem d40_24 : decode jdk_65_method_132_code 24 = .ok (.areturn, 1) := by decide +kernel
theorem d40_10 : decode jdk_65_method_132_code 10 = .ok (.aload_n 0, 1) := by decide +kernel
theorem d40_11 : decode jdk_65_method_132_code 11 = .ok (.iload_n 1, 1) := by decide +kernel
theorem d40_12 : decode jdk_65_method_132_code 12 = .ok (.iload_n 2, 1) := by decide +kernel
theorem d40_13 : decode jdk_65_method_132_code 13 = .ok (.invokestatic 339, 3) := by decide +kernel
theorem pd_285bBII295bB : parseMethodDescriptor "([BII)[B" = some ⟨[(.array .byte), .int, .int], some (.array .byte)⟩ := by decide +kernel
theorem d40_16 : decode jdk_65_method_132_code 16 = .ok (.areturn, 1) := by decide +kernel
set_option maxRecDepth 65536 in
set_option maxHeartbeats 40000000 in
theorem rmCR (l : Launch) (Z : State) (a0 : Array Value) (hw : ∀ d ∈ tables_1, d.before a0 Z = true) (ws : List Jvm.Cond) (a1 : Addr) (p3 : Int32) (z : Int32) (h0 : Heap) (n0 : Nat) (Z0 : n0 ≤ h0.size) (BS : own_BA Z h0 a1 z) (hq0 : ¬ p3 < (0 : Int32)) (hq1 : p3.toNatClampNeg ≤ 70) :
    MetFree l (⟨"java/util/Arrays", "copyOfRange", "([BII)[B"⟩ : MethodName) (head1 (Jvm.Cond.code (⟨"java/util/Arrays", "copyOfRange", "([BII)[B"⟩ : MethodName) jdk_65_method_132_code 3 (some (.array .byte)) :: ws) ({ frames := 2, cells := 1, slots := 70, locals := 34 } : Room)) (fun a U => a = #[(.ref a1), (.int 0), (.int p3)] ∧ Z.Warmed39 U.vm ∧ U.heap = h0) (fun _ _ _ _ _ => True) (fun _ U o U' => ∃ v L, o = .returned v ∧ QCR Z a1 p3 z h0 n0 v U'.heap L ∧ FrameEnd U o U' L ({ frames := 2, cells := 1, slots := 70, locals := 34 } : Room).cells ({ frames := 2, cells := 1, slots := 70, locals := 34 } : Room).slots) := by
  refine MetFree.of_bodySF (plainFor_of_name pn_java_util_Arrays) hisR ?_
  intro p e s m args below meth c s₁ Bd hml0 hP hK
  obtain ⟨rfl, hZ, hh⟩ := hP
  have hx := Bd.exec
  have hby := Bd.bytes
  have hml : c.maxLocals = 3 := hml0
  have hown : s.vm.findClass "java/util/Arrays" = some m.cls := findClass_of_methodNamed Bd.named
  have hnm := (name_of_methodNamed Bd.named Bd.method).1
  have X0 : Stand p l e ({ frames := 2, cells := 1, slots := 70, locals := 34 } : Room) s m #[(.ref a1), (.int 0), (.int p3)] below meth c s₁ [] 0 0 := Stand.of_body Bd
  have e0 : s₁.heap = h0 := by rw [← hh, Bd.state]; rfl
  have N0 := Fr.nil n0
  have pre0 : ∀ tG, Steps p.tables e below (s₁.setTop (mkF m 0 #[.val (.ref a1), .val (.int 0), .val (.int p3)] [])) tG → Steps p.tables e below (s₁.setTop (entryFrame m #[(.ref a1), (.int 0), (.int p3)] 3)) tG := fun tG kG => castTop (ef_rmCR m a1 (0 : Int32) p3) kG
  obtain ⟨kk570, vs570, ⟨cl570, Ar570, -, S570, M570, -, -⟩, -⟩ := id BS.2
  have G571 : ∀ tG, Steps p.tables e below (s₁.setTop (mkF m 7 #[.val (.ref a1), .val (.int 0), .val (.int p3)] [(.int z), (.int p3)])) tG → Steps p.tables e below (s₁.setTop (mkF m 0 #[.val (.ref a1), .val (.int 0), .val (.int p3)] [])) tG := by
    intro tG kG
    refine own_iloadN X0.here hx (hb hby d40_0) rfl ?_
    refine own_ifNo X0.here hx (hb hby d40_1) ((if0 _ _).trans (teq (by decide : (0 : Int32) = (0 : Int32))).2) ?_
    refine own_iloadN X0.here hx (hb hby d40_4) rfl ?_
    refine own_aloadN X0.here hx (hb hby d40_5) rfl rfl ?_
    refine X0.arraylength hx (by rw [e0]; exact Ar570.1) (State.isArrayOf_alike hZ.alike Ar570.2.1) (g := (mkF m 6 #[.val (.ref a1), .val (.int 0), .val (.int p3)] [(.ref a1), (.int p3)])) rfl rfl (hb hby d40_6) _ ?_
    rw [len_of S570 M570]
    exact kG
  by_cases hc7 : p3 = z
  · obtain ⟨T572, h572, X572, e572, E572, A572, st572⟩ := own_clone X0 hx hZ hown (own_w hw 265 rfl) (own_w hw 266 rfl) (own_w hw 270 rfl) (own_w hw 268 rfl) (own_w hw 269 rfl) (own_w hw 271 rfl) e0 BS (g := (mkF m 18 #[.val (.ref a1), .val (.int 0), .val (.int p3)] [(.ref a1)])) rfl (by rw [hml]; rfl) rfl (hb hby d40_18) (by decide) (W := 0) (by show 2 * 0 + _ ≤ _; exact Nat.le_of_eq rfl) (by decide) (cap := 70) (by rw [← hc7]; exact hq1) (by decide) (by decide)
    obtain ⟨b572, g572⟩ : ∃ z, z = h0.size := ⟨_, rfl⟩
    rw [← g572] at A572 st572
    have E572' := E572
    have gg572 : n0 ≤ b572 := Nat.le_trans Z0 (Nat.le_of_eq g572.symm)
    have sz572 : h0.size ≤ b572 := Nat.le_trans (Keep.refl h0 []).1 (Nat.le_of_eq g572.symm)
    have ne573 : a1 ≠ b572 := Nat.ne_of_lt (Nat.lt_of_lt_of_le BS.lt (Nat.le_of_eq g572.symm))
    have Z572 : n0 ≤ h572.size := Nat.le_trans Z0 E572.1
    have K572 : Keep h0 h572 [] := (Keep.refl h0 []).ext E572
    have f574 : own_BA Z h572 a1 z := BS.ext E572
    obtain ⟨T575, X575, e575, st575⟩ := castY X572 hx hZ hown (own_w hw 272 rfl) e572 (Ins.self A572.1) (g := (mkF m 21 #[.val (.ref a1), .val (.int 0), .val (.int p3)] [(.ref b572)])) rfl rfl (hb hby d40_21)
    obtain ⟨fs, hr, hrun, hended, hW, hsame⟩ := X575.leave (v := some (.ref b572)) (fun h => by rw [Bd.returns] at h; cases h)
    refine ⟨_, _, pre0 _ ?_, hrun, hended, _, _, rfl, ?_, ⟨_, rfl⟩, hW, hsame.mono (by decide) (by decide)⟩
    · refine G571 _ ?_
      refine own_icmpYes X0.here hx 7 17 rfl (hb hby d40_7) (teq hc7).1 (by decide) (by decide) ?_
      refine own_aloadN X0.here hx (hb hby d40_17) rfl rfl ?_
      refine st572 _ ?_
      show Steps p.tables e below (T572.setTop (mkF m 21 #[.val (.ref a1), .val (.int 0), .val (.int p3)] [(.ref b572)])) _
      refine st575 _ ?_
      show Steps p.tables e below (T575.setTop (mkF m 24 #[.val (.ref a1), .val (.int 0), .val (.int p3)] [(.ref b572)])) _
      jvm_step X575.here [X575.here.top, hx, (hb hby d40_24), X575.method', Bd.returns, Value.isRef, FieldType.isReference]
      first | (intro acts; rw [hr _ acts rfl rfl rfl]) | rw [hr _ _ rfl rfl rfl]
      exact Steps.refl _
    · show QCR Z a1 p3 z h0 n0 _ T575.heap _
      rw [e575]
      exact ⟨b572, rfl, N0, K572, sz572, (by rw [hc7]; exact A572)⟩
  · obtain ⟨_, _, ⟨T576, L576, k576, n576⟩, -, X576, ⟨Lc576, hQ576, l576, y576, z576⟩, st576⟩ := Jvm.LawKit.callS X0 hx (y := (⟨"java/util/Arrays", "copyOfRangeByte", "([BII)[B"⟩ : MethodName)) hown (mvT hZ (own_w hw 239 rfl)) (mvT hZ (own_w hw 240 rfl)) (mvT hZ (own_w hw 237 rfl)) (mvT hZ (own_w hw 241 rfl)) (by decide) (backOf (W := 0) (rmCB l Z a0 hw [] a1 p3 z h0 n0 Z0 BS.2 hq0 hq1) hZ (own_w hw 241 rfl) (own_w hw 237 rfl) (by decide) (by decide)) (g := (mkF m 13 #[.val (.ref a1), .val (.int 0), .val (.int p3)] [(.int p3), (.int 0), (.ref a1)])) rfl (by rw [hml]; rfl) (argsL := [(.ref a1), (.int 0), (.int p3)]) (rest := []) (lenOf pd_285bBII295bB rfl) rfl (by show 2 * 0 + _ ≤ _; exact Nat.le_of_eq rfl) (hb hby d40_13) (fun _ _ => ⟨rfl, e0, (by decide : 0 + 1 ≤ _), (by decide : 0 + 70 ≤ _)⟩)
    dsimp only [Pt.U, Pt.locs, Pt.cells, Pt.slots] at X576 l576 y576 z576 st576 hQ576
    subst l576 y576 z576
    obtain ⟨c576, rfl, N576q, Kq576, lt576, BA576⟩ := hQ576
    have gg576_c576 : n0 ≤ c576 := Nat.le_trans Z0 lt576
    have sz576_c576 : h0.size ≤ c576 := Nat.le_trans (Keep.refl h0 []).1 lt576
    have ne577 : a1 ≠ c576 := Nat.ne_of_lt (Nat.lt_of_lt_of_le BS.lt lt576)
    have N576 := Fr.app N0 N576q
    have Z576 : n0 ≤ T576.heap.size := Nat.le_trans Z0 Kq576.1
    have K576 : Keep h0 T576.heap [] := (Keep.refl h0 []).trans Kq576 all0
    have f578 : own_BA Z T576.heap a1 z := BS.keep Kq576 nin0
    obtain ⟨fs, hr, hrun, hended, hW, hsame⟩ := X576.leave (v := some (.ref c576)) (fun h => by rw [Bd.returns] at h; cases h)
    refine ⟨_, _, pre0 _ ?_, hrun, hended, _, _, rfl, ?_, ⟨_, rfl⟩, hW, hsame.mono (by decide) (by decide)⟩
    · refine G571 _ ?_
      refine own_icmpNo X0.here hx (hb hby d40_7) (feq hc7).1 ?_
      refine own_aloadN X0.here hx (hb hby d40_10) rfl rfl ?_
      refine own_iloadN X0.here hx (hb hby d40_11) rfl ?_
      refine own_iloadN X0.here hx (hb hby d40_12) rfl ?_
      refine st576 _ ?_
      show Steps p.tables e below (T576.setTop (mkF m 16 #[.val (.ref a1), .val (.int 0), .val (.int p3)] [(.ref c576)])) _
      jvm_step X576.here [X576.here.top, hx, (hb hby d40_16), X576.method', Bd.returns, Value.isRef, FieldType.isReference]
      first | (intro acts; rw [hr _ acts rfl rfl rfl]) | rw [hr _ _ rfl rfl rfl]
      exact Steps.refl _
    · show QCR Z a1 p3 z h0 n0 _ T576.heap _
      exact ⟨c576, rfl, N576, K576, sz576_c576, BA576⟩
theorem ef_rmIA (m : MethodId) (x0 : Addr) (x1 : Addr) : entryFrame m #[(.ref x0), (.ref x1), .null] 5 = mkF m 0 #[.val (.ref x0), .val (.ref x1), .val .null, .unset, .unset] [] := by first | (simp [entryFrame, mkF, argsToLocals, Value.category]; done) | rfl
def QIA (Z : State) (a1 : Addr) (a2 : Addr) (kc : Int32) (d1 : Addr) (z : Int32) (c1 : Int32) (h0 : Heap) (n0 : Nat) (v : Option Value) (h : Heap) (L : List Loc) : Prop := v = none ∧ Fr n0 L ∧ Keep h0 h [a1] ∧ Exa Z h a1 "java/lang/String"
theorem d36_0 : decode jdk_42_method_150_code 0 = .ok (.aload_n 0, 1) := by decide +kernel
theorem d36_1 : decode jdk_42_method_150_code 1 = .ok (.invokespecial 1, 3) := by decide +kernel
theorem d36_4 : decode jdk_42_method_150_code 4 = .ok (.aload_n 1, 1) := by decide +kernel
theorem d36_5 : decode jdk_42_method_150_code 5 = .ok (.invokevirtual 552, 3) := by decide +kernel
theorem pd_28295bB : parseMethodDescriptor "()[B" = some ⟨[], some (.array .byte)⟩ := by decide +kernel
theorem d36_8 : decode jdk_42_method_150_code 8 = .ok (.astore_n 3, 1) := by decide +kernel
theorem d36_9 : decode jdk_42_method_150_code 9 = .ok (.aload_n 1, 1) := by decide +kernel
theorem d36_10 : decode jdk_42_method_150_code 10 = .ok (.invokevirtual 549, 3) := by decide +kernel
theorem d36_13 : decode jdk_42_method_150_code 13 = .ok (.istore 4, 2) := by decide +kernel
theorem d36_15 : decode jdk_42_method_150_code 15 = .ok (.aload_n 1, 1) := by decide +kernel
theorem d36_16 : decode jdk_42_method_150_code 16 = .ok (.invokevirtual 1047, 3) := by decide +kernel
theorem d36_19 : decode jdk_42_method_150_code 19 = .ok (.ifCond .eq 22, 3) := by decide +kernel
theorem d36_22 : decode jdk_42_method_150_code 22 = .ok (.aload_n 0, 1) := by decide +kernel
theorem d36_23 : decode jdk_42_method_150_code 23 = .ok (.iconst 0, 1) := by decide +kernel
theorem d36_24 : decode jdk_42_method_150_code 24 = .ok (.putfield 15, 3) := by decide +kernel
theorem d36_27 : decode jdk_42_method_150_code 27 = .ok (.aload_n 0, 1) := by decide +kernel
theorem d36_28 : decode jdk_42_method_150_code 28 = .ok (.aload_n 3, 1) := by decide +kernel
theorem d36_29 : decode jdk_42_method_150_code 29 = .ok (.iconst 0, 1) := by decide +kernel
theorem d36_30 : decode jdk_42_method_150_code 30 = .ok (.iload 4, 2) := by decide +kernel
theorem d36_32 : decode jdk_42_method_150_code 32 = .ok (.invokestatic 54, 3) := by decide +kernel
theorem d36_35 : decode jdk_42_method_150_code 35 = .ok (.putfield 9, 3) := by decide +kernel
theorem d36_38 : decode jdk_42_method_150_code 38 = .ok (.goto 59, 3) := by decide +kernel
theorem d36_97 : decode jdk_42_method_150_code 97 = .ok (.return_, 1) := by decide +kernel
set_option maxRecDepth 65536 in
set_option maxHeartbeats 40000000 in
theorem rmIA (l : Launch) (Z : State) (a0 : Array Value) (hw : ∀ d ∈ tables_1, d.before a0 Z = true) (ws : List Jvm.Cond) (a1 : Addr) (a2 : Addr) (kc : Int32) (d1 : Addr) (z : Int32) (c1 : Int32) (h0 : Heap) (n0 : Nat) (Z0 : n0 ≤ h0.size) (E1 : Exa Z h0 a1 "java/lang/String") (g1 : n0 ≤ a1) (FV : Fld Z h0 a1 "java/lang/String" "value" "[B" .null) (FC : Fld Z h0 a1 "java/lang/String" "coder" "B" (.int 0)) (E_a2 : Exa Z h0 a2 "java/lang/StringBuilder") (g_a2 : n0 ≤ a2) (F_value : Fld Z h0 a2 "java/lang/AbstractStringBuilder" "value" "[B" (.ref d1)) (F_coder : Fld Z h0 a2 "java/lang/AbstractStringBuilder" "coder" "B" (.int 0)) (F_count : Fld Z h0 a2 "java/lang/AbstractStringBuilder" "count" "I" (.int c1)) (B_d1 : own_BA Z h0 d1 z) (g_d1 : n0 ≤ d1) (nD : a2 ≠ d1) (SC : Sta Z h0 "java/lang/String" "COMPACT_STRINGS" "Z" (.int kc)) (hkc : ¬ kc = (0 : Int32)) (hq0 : ¬ c1 < (0 : Int32)) (hq1 : c1.toNatClampNeg ≤ 70) (n12 : a2 ≠ a1) (n1d : d1 ≠ a1) :
    MetFree l (⟨"java/lang/String", "<init>", "(Ljava/lang/AbstractStringBuilder;Ljava/lang/Void;)V"⟩ : MethodName) (head1 (Jvm.Cond.code (⟨"java/lang/String", "<init>", "(Ljava/lang/AbstractStringBuilder;Ljava/lang/Void;)V"⟩ : MethodName) jdk_42_method_150_code 5 none :: ws) ({ frames := 3, cells := 1, slots := 70, locals := 49 } : Room)) (fun a U => a = #[(.ref a1), (.ref a2), .null] ∧ Z.Warmed39 U.vm ∧ U.heap = h0) (fun _ _ _ _ _ => True) (fun _ U o U' => ∃ v L, o = .returned v ∧ QIA Z a1 a2 kc d1 z c1 h0 n0 v U'.heap L ∧ FrameEnd U o U' L ({ frames := 3, cells := 1, slots := 70, locals := 49 } : Room).cells ({ frames := 3, cells := 1, slots := 70, locals := 49 } : Room).slots) := by
  refine MetFree.of_bodySF (plainFor_of_name pn_java_lang_String) hisR ?_
  intro p e s m args below meth c s₁ Bd hml0 hP hK
  obtain ⟨rfl, hZ, hh⟩ := hP
  have hx := Bd.exec
  have hby := Bd.bytes
  have hml : c.maxLocals = 5 := hml0
  have hown : s.vm.findClass "java/lang/String" = some m.cls := findClass_of_methodNamed Bd.named
  have hnm := (name_of_methodNamed Bd.named Bd.method).1
  have X0 : Stand p l e ({ frames := 3, cells := 1, slots := 70, locals := 49 } : Room) s m #[(.ref a1), (.ref a2), .null] below meth c s₁ [] 0 0 := Stand.of_body Bd
  have e0 : s₁.heap = h0 := by rw [← hh, Bd.state]; rfl
  have N0 := Fr.nil n0
  have pre0 : ∀ tG, Steps p.tables e below (s₁.setTop (mkF m 0 #[.val (.ref a1), .val (.ref a2), .val .null, .unset, .unset] [])) tG → Steps p.tables e below (s₁.setTop (entryFrame m #[(.ref a1), (.ref a2), .null] 5)) tG := fun tG kG => castTop (ef_rmIA m a1 a2) kG
  obtain ⟨T579, X579, e579, st579⟩ := initO X0 hx hZ hown (own_w hw 35 rfl) (own_w hw 7 rfl) (own_w hw 8 rfl) e0 (g := (mkF m 1 #[.val (.ref a1), .val (.ref a2), .val .null, .unset, .unset] [(.ref a1)])) rfl (by rw [hml]; rfl) rfl (hb hby d36_1) (by decide) (W := 0) (by show 2 * 0 + _ ≤ _; exact Nat.le_of_eq rfl) (by decide)
  obtain ⟨cq580, kq580, q580a, q580b, q580c⟩ := isOf hZ e579 E_a2
  obtain ⟨_, _, ⟨T580, L580, k580, n580⟩, -, X580, ⟨Lc580, hQ580, l580, y580, z580⟩, st580⟩ := X579.virtualBack hx (y := (⟨"java/lang/AbstractStringBuilder", "getValue", "()[B"⟩ : MethodName)) (z := (⟨"java/lang/AbstractStringBuilder", "getValue", "()[B"⟩ : MethodName)) hown (mvT hZ (own_w hw 221 rfl)) (mvT hZ (own_w hw 222 rfl)) (notFace_of_selects (args := #[]) (mvT hZ (own_w hw 224 rfl))) (mvT hZ (own_w hw 224 rfl)) (mvT hZ (own_w hw 223 rfl)) (by decide) (backOf (W := 0) (rmGV l Z a0 hw [] a2 d1 h0 n0 Z0 F_value) hZ (own_w hw 225 rfl) (own_w hw 124 rfl) (by decide) (by decide)) q580a q580c (g := (mkF m 5 #[.val (.ref a1), .val (.ref a2), .val .null, .unset, .unset] [(.ref a2)])) rfl (by rw [hml]; rfl) (Steps.refl _) (argsL := []) (rest := []) (lenOf pd_28295bB rfl) rfl (by show 2 * 0 + _ ≤ _; exact Nat.le_of_eq rfl) (hb hby d36_5) (fun _ _ => ⟨rfl, e579, (by decide : 0 + 0 ≤ _), (by decide : 0 + 0 ≤ _)⟩)
  dsimp only [Pt.U, Pt.locs, Pt.cells, Pt.slots] at X580 l580 y580 z580 st580 hQ580
  subst l580 y580 z580
  obtain ⟨rfl, N580q, e580⟩ := hQ580
  have N580 := Fr.app N0 N580q
  obtain ⟨cq581, kq581, q581a, q581b, q581c⟩ := isOf hZ e580 E_a2
  obtain ⟨_, _, ⟨T581, L581, k581, n581⟩, -, X581, ⟨Lc581, hQ581, l581, y581, z581⟩, st581⟩ := X580.virtualBack hx (y := (⟨"java/lang/AbstractStringBuilder", "length", "()I"⟩ : MethodName)) (z := (⟨"java/lang/StringBuilder", "length", "()I"⟩ : MethodName)) hown (mvT hZ (own_w hw 226 rfl)) (mvT hZ (own_w hw 227 rfl)) (own_nf (a0 := #[]) (y' := (⟨"java/lang/AbstractStringBuilder", "isLatin1", "()Z"⟩ : MethodName)) rfl (mvT hZ (own_w hw 200 rfl))) (mvT hZ (own_w hw 229 rfl)) (mvT hZ (own_w hw 230 rfl)) (by decide) (backOf (W := 0) (rmSN l Z a0 hw [] a2 c1 h0 n0 Z0 E_a2 F_count) hZ (own_w hw 231 rfl) (own_w hw 116 rfl) (by decide) (by decide)) q581a q581c (g := (mkF m 10 #[.val (.ref a1), .val (.ref a2), .val .null, .val (.ref d1), .unset] [(.ref a2)])) rfl (by rw [hml]; rfl) (Steps.refl _) (argsL := []) (rest := []) (lenOf pd_2829I rfl) rfl (by show 2 * 0 + _ ≤ _; exact Nat.le_of_eq rfl) (hb hby d36_10) (fun _ _ => ⟨rfl, e580, (by decide : 0 + 0 ≤ _), (by decide : 0 + 0 ≤ _)⟩)
  dsimp only [Pt.U, Pt.locs, Pt.cells, Pt.slots] at X581 l581 y581 z581 st581 hQ581
  subst l581 y581 z581
  obtain ⟨rfl, N581q, e581⟩ := hQ581
  have N581 := Fr.app N580 N581q
  obtain ⟨cq582, kq582, q582a, q582b, q582c⟩ := isOf hZ e581 E_a2
  obtain ⟨_, _, ⟨T582, L582, k582, n582⟩, -, X582, ⟨Lc582, hQ582, l582, y582, z582⟩, st582⟩ := X581.virtualBack hx (y := (⟨"java/lang/AbstractStringBuilder", "isLatin1", "()Z"⟩ : MethodName)) (z := (⟨"java/lang/AbstractStringBuilder", "isLatin1", "()Z"⟩ : MethodName)) hown (mvT hZ (own_w hw 234 rfl)) (mvT hZ (own_w hw 198 rfl)) (notFace_of_selects (args := #[]) (mvT hZ (own_w hw 200 rfl))) (mvT hZ (own_w hw 200 rfl)) (mvT hZ (own_w hw 199 rfl)) (by decide) (backOf (W := 0) (rmIL l Z a0 hw [] a2 kc h0 n0 Z0 SC hkc F_coder) hZ (own_w hw 201 rfl) (own_w hw 124 rfl) (by decide) (by decide)) q582a q582c (g := (mkF m 16 #[.val (.ref a1), .val (.ref a2), .val .null, .val (.ref d1), .val (.int c1)] [(.ref a2)])) rfl (by rw [hml]; rfl) (Steps.refl _) (argsL := []) (rest := []) (lenOf pd_2829Z rfl) rfl (by show 2 * 0 + _ ≤ _; exact Nat.le_of_eq rfl) (hb hby d36_16) (fun _ _ => ⟨rfl, e581, (by decide : 0 + 0 ≤ _), (by decide : 0 + 0 ≤ _)⟩)
  dsimp only [Pt.U, Pt.locs, Pt.cells, Pt.slots] at X582 l582 y582 z582 st582 hQ582
  subst l582 y582 z582
  obtain ⟨rfl, N582q, e582⟩ := hQ582
  have N582 := Fr.app N581 N582q
  obtain ⟨T583, h583, X583, e583, W583, st583⟩ := putFN X582 hx hZ hown (own_w hw 38 rfl) Via.refl e582 FC E1 (Or.inr ⟨(own_w hw 39 rfl), rfl, hnm⟩) (own_w hw 26 rfl) (ty := .byte) (v' := (.int 0)) (by decide) rfl (by decide) (g := (mkF m 24 #[.val (.ref a1), .val (.ref a2), .val .null, .val (.ref d1), .val (.int c1)] [(.int 0), (.ref a1)])) rfl rfl (hb hby d36_24)
  have f584 : Exa Z h583 a1 "java/lang/String" := E1.wr W583
  have f585 : Fld Z h583 a1 "java/lang/String" "value" "[B" .null := FV.other W583 (Or.inr (slot_ne (Or.inr (own_w hw 37 rfl)) (Or.inr (own_w hw 39 rfl)) (by decide) (t := (.array .byte)) (t' := .byte) (by decide) (by decide)))
  have f587 : Exa Z h583 a2 "java/lang/StringBuilder" := E_a2.wr W583
  have f588 : Fld Z h583 a2 "java/lang/AbstractStringBuilder" "value" "[B" (.ref d1) := F_value.other W583 (Or.inl n12)
  have f589 : Fld Z h583 a2 "java/lang/AbstractStringBuilder" "coder" "B" (.int 0) := F_coder.other W583 (Or.inl n12)
  have f590 : Fld Z h583 a2 "java/lang/AbstractStringBuilder" "count" "I" (.int c1) := F_count.other W583 (Or.inl n12)
  have f591 : Sta Z h583 "java/lang/String" "COMPACT_STRINGS" "Z" (.int kc) := SC.wr W583
  have f592 : own_BA Z h583 d1 z := B_d1.other W583 n1d
  have f593 : Fld Z h583 a1 "java/lang/String" "coder" "B" (.int 0) := FC.same W583
  have N583 := Fr.snoc X583 N582 g1
  have Z583 : n0 ≤ h583.size := Nat.le_trans Z0 (Keep.of_wr W583).1
  have K583 : Keep h0 h583 [a1] := (Keep.refl h0 [a1]).wr W583 (Or.inl (List.mem_of_getElem? (i := 0) rfl))
  obtain ⟨_, _, ⟨T594, L594, k594, n594⟩, -, X594, ⟨Lc594, hQ594, l594, y594, z594⟩, st594⟩ := Jvm.LawKit.callS X583 hx (y := (⟨"java/util/Arrays", "copyOfRange", "([BII)[B"⟩ : MethodName)) hown (mvT hZ (own_w hw 235 rfl)) (mvT hZ (own_w hw 236 rfl)) (mvT hZ (own_w hw 237 rfl)) (mvT hZ (own_w hw 238 rfl)) (by decide) (backOf (W := 1) (rmCR l Z a0 hw [] d1 c1 z h583 n0 Z583 f592 hq0 hq1) hZ (own_w hw 238 rfl) (own_w hw 237 rfl) (by decide) (by decide)) (g := (mkF m 32 #[.val (.ref a1), .val (.ref a2), .val .null, .val (.ref d1), .val (.int c1)] [(.int c1), (.int 0), (.ref d1), (.ref a1)])) rfl (by rw [hml]; rfl) (argsL := [(.ref d1), (.int 0), (.int c1)]) (rest := [(.ref a1)]) (lenOf pd_285bBII295bB rfl) rfl (by show 2 * 0 + _ ≤ _; exact Nat.le_of_eq rfl) (hb hby d36_32) (fun _ _ => ⟨rfl, e583, (by decide : 0 + 1 ≤ _), (by decide : 0 + 70 ≤ _)⟩)
  dsimp only [Pt.U, Pt.locs, Pt.cells, Pt.slots] at X594 l594 y594 z594 st594 hQ594
  subst l594 y594 z594
  obtain ⟨c594, rfl, N594q, Kq594, lt594, BA594⟩ := hQ594
  have gg594_c594 : n0 ≤ c594 := Nat.le_trans Z583 lt594
  have sz594_c594 : h0.size ≤ c594 := Nat.le_trans K583.1 lt594
  have ne595 : a1 ≠ c594 := Nat.ne_of_lt (Nat.lt_of_lt_of_le f584.lt lt594)
  have ne596 : a2 ≠ c594 := Nat.ne_of_lt (Nat.lt_of_lt_of_le f587.lt lt594)
  have ne597 : d1 ≠ c594 := Nat.ne_of_lt (Nat.lt_of_lt_of_le f592.lt lt594)
  have N594 := Fr.app N583 N594q
  have Z594 : n0 ≤ T594.heap.size := Nat.le_trans Z583 Kq594.1
  have K594 : Keep h0 T594.heap [a1] := K583.trans Kq594 all0
  have f598 : Exa Z T594.heap a1 "java/lang/String" := f584.keep Kq594
  have f599 : Fld Z T594.heap a1 "java/lang/String" "value" "[B" .null := f585.keep Kq594 nin0
  have f600 : Fld Z T594.heap a1 "java/lang/String" "coder" "B" (.int 0) := f593.keep Kq594 nin0
  have f601 : Exa Z T594.heap a2 "java/lang/StringBuilder" := f587.keep Kq594
  have f602 : Fld Z T594.heap a2 "java/lang/AbstractStringBuilder" "value" "[B" (.ref d1) := f588.keep Kq594 nin0
  have f603 : Fld Z T594.heap a2 "java/lang/AbstractStringBuilder" "coder" "B" (.int 0) := f589.keep Kq594 nin0
  have f604 : Fld Z T594.heap a2 "java/lang/AbstractStringBuilder" "count" "I" (.int c1) := f590.keep Kq594 nin0
  have f605 : Sta Z T594.heap "java/lang/String" "COMPACT_STRINGS" "Z" (.int kc) := own_sta_keep f591 Kq594 ns0
  have f606 : own_BA Z T594.heap d1 z := f592.keep Kq594 nin0
  obtain ⟨T607, h607, X607, e607, W607, st607⟩ := putF X594 hx hZ hown (host := "") (Or.inl (own_w hw 36 rfl)) Via.refl rfl f599 f598 (Or.inr ⟨(own_w hw 37 rfl), rfl, hnm⟩) (own_w hw 26 rfl) (ty := (.array .byte)) (by decide) rfl rfl (g := (mkF m 35 #[.val (.ref a1), .val (.ref a2), .val .null, .val (.ref d1), .val (.int c1)] [(.ref c594), (.ref a1)])) rfl rfl (hb hby d36_35)
  have f608 : Exa Z h607 a1 "java/lang/String" := f598.wr W607
  have f610 : Fld Z h607 a1 "java/lang/String" "coder" "B" (.int 0) := f600.other W607 (Or.inr (slot_ne (Or.inr (own_w hw 39 rfl)) (Or.inr (own_w hw 37 rfl)) (by decide) (t := .byte) (t' := (.array .byte)) (by decide) (by decide)))
  have f611 : Exa Z h607 a2 "java/lang/StringBuilder" := f601.wr W607
  have f612 : Fld Z h607 a2 "java/lang/AbstractStringBuilder" "value" "[B" (.ref d1) := f602.other W607 (Or.inl n12)
  have f613 : Fld Z h607 a2 "java/lang/AbstractStringBuilder" "coder" "B" (.int 0) := f603.other W607 (Or.inl n12)
  have f614 : Fld Z h607 a2 "java/lang/AbstractStringBuilder" "count" "I" (.int c1) := f604.other W607 (Or.inl n12)
  have f615 : Sta Z h607 "java/lang/String" "COMPACT_STRINGS" "Z" (.int kc) := f605.wr W607
  have f616 : own_BA Z h607 d1 z := f606.other W607 n1d
  have f617 : own_BA Z h607 c594 c1 := BA594.other W607 (Ne.symm ne595)
  have f618 : Fld Z h607 a1 "java/lang/String" "value" "[B" (.ref c594) := f599.same W607
  have N607 := Fr.snoc X607 N594 g1
  have Z607 : n0 ≤ h607.size := Nat.le_trans Z594 (Keep.of_wr W607).1
  have K607 : Keep h0 h607 [a1] := K594.wr W607 (Or.inl (List.mem_of_getElem? (i := 0) rfl))
  obtain ⟨fs, hr, hrun, hended, hW, hsame⟩ := X607.leave (v := none) (fun _ => rfl)
  refine ⟨_, _, pre0 _ ?_, hrun, hended, _, _, rfl, ?_, ⟨_, rfl⟩, hW, hsame.mono (by decide) (by decide)⟩
  · refine own_aloadN X0.here hx (hb hby d36_0) rfl rfl ?_
    refine st579 _ ?_
    show Steps p.tables e below (T579.setTop (mkF m 4 #[.val (.ref a1), .val (.ref a2), .val .null, .unset, .unset] [])) _
    refine own_aloadN X579.here hx (hb hby d36_4) rfl rfl ?_
    refine st580.trans ?_
    show Steps p.tables e below (T580.setTop (mkF m 8 #[.val (.ref a1), .val (.ref a2), .val .null, .unset, .unset] [(.ref d1)])) _
    refine own_astoreN X580.here hx (hb hby d36_8) rfl (l' := #[.val (.ref a1), .val (.ref a2), .val .null, .val (.ref d1), .unset]) rfl ?_
    refine own_aloadN X580.here hx (hb hby d36_9) rfl rfl ?_
    refine st581.trans ?_
    show Steps p.tables e below (T581.setTop (mkF m 13 #[.val (.ref a1), .val (.ref a2), .val .null, .val (.ref d1), .unset] [(.int c1)])) _
    refine own_istore X581.here hx (hb hby d36_13) (l' := #[.val (.ref a1), .val (.ref a2), .val .null, .val (.ref d1), .val (.int c1)]) rfl ?_
    refine own_aloadN X581.here hx (hb hby d36_15) rfl rfl ?_
    refine st582.trans ?_
    show Steps p.tables e below (T582.setTop (mkF m 19 #[.val (.ref a1), .val (.ref a2), .val .null, .val (.ref d1), .val (.int c1)] [(.int 1)])) _
    refine own_ifNo X582.here hx (hb hby d36_19) ((if0 _ _).trans (feq (by decide : ¬ ((1 : Int32) = (0 : Int32)))).1) ?_
    refine own_aloadN X582.here hx (hb hby d36_22) rfl rfl ?_
    refine own_iconst X582.here hx (0 : Int32) (hb hby d36_23) rfl ?_
    refine st583 _ ?_
    show Steps p.tables e below (T583.setTop (mkF m 27 #[.val (.ref a1), .val (.ref a2), .val .null, .val (.ref d1), .val (.int c1)] [])) _
    refine own_aloadN X583.here hx (hb hby d36_27) rfl rfl ?_
    refine own_aloadN X583.here hx (hb hby d36_28) rfl rfl ?_
    refine own_iconst X583.here hx (0 : Int32) (hb hby d36_29) rfl ?_
    refine own_iload X583.here hx (hb hby d36_30) rfl ?_
    refine st594 _ ?_
    show Steps p.tables e below (T594.setTop (mkF m 35 #[.val (.ref a1), .val (.ref a2), .val .null, .val (.ref d1), .val (.int c1)] [(.ref c594), (.ref a1)])) _
    refine st607 _ ?_
    show Steps p.tables e below (T607.setTop (mkF m 38 #[.val (.ref a1), .val (.ref a2), .val .null, .val (.ref d1), .val (.int c1)] [])) _
    refine own_goto X607.here hx 38 97 rfl (hb hby d36_38) (by decide) (by decide) ?_
    exact X607.returnOut hx Bd.returns (hb hby d36_97) hr
  · show QIA Z a1 a2 kc d1 z c1 h0 n0 _ T607.heap _
    rw [e607]
    exact ⟨rfl, N607, K607, f608⟩
theorem ef_rmIB (m : MethodId) (x0 : Addr) (x1 : Addr) : entryFrame m #[(.ref x0), (.ref x1)] 2 = mkF m 0 #[.val (.ref x0), .val (.ref x1)] [] := by first | (simp [entryFrame, mkF, argsToLocals, Value.category]; done) | rfl
def QIB (Z : State) (a1 : Addr) (a2 : Addr) (kc : Int32) (d1 : Addr) (z : Int32) (c1 : Int32) (h0 : Heap) (n0 : Nat) (v : Option Value) (h : Heap) (L : List Loc) : Prop := v = none ∧ Fr n0 L ∧ Keep h0 h [a1] ∧ Exa Z h a1 "java/lang/String"
theorem d35_0 : decode jdk_42_method_53_code 0 = .ok (.aload_n 0, 1) := by decide +kernel
theorem d35_1 : decode jdk_42_method_53_code 1 = .ok (.aload_n 1, 1) := by decide +kernel
theorem d35_2 : decode jdk_42_method_53_code 2 = .ok (.aconst_null, 1) := by decide +kernel
theorem d35_3 : decode jdk_42_method_53_code 3 = .ok (.invokespecial 489, 3) := by decide +kernel
theorem pd_28Ljava2flang2fAbstractStringBuilder3bLjava2flang2fVoid3b29V : parseMethodDescriptor "(Ljava/lang/AbstractStringBuilder;Ljava/lang/Void;)V" = some ⟨[(.object "java/lang/AbstractStringBuilder"), (.object "java/lang/Void")], none⟩ := by decide +kernel
theorem d35_6 : decode jdk_42_method_53_code 6 = .ok (.return_, 1) := by decide +kernel
set_option maxRecDepth 65536 in
set_option maxHeartbeats 40000000 in
theorem rmIB (l : Launch) (Z : State) (a0 : Array Value) (hw : ∀ d ∈ tables_1, d.before a0 Z = true) (ws : List Jvm.Cond) (a1 : Addr) (a2 : Addr) (kc : Int32) (d1 : Addr) (z : Int32) (c1 : Int32) (h0 : Heap) (n0 : Nat) (Z0 : n0 ≤ h0.size) (E1 : Exa Z h0 a1 "java/lang/String") (g1 : n0 ≤ a1) (FV : Fld Z h0 a1 "java/lang/String" "value" "[B" .null) (FC : Fld Z h0 a1 "java/lang/String" "coder" "B" (.int 0)) (E_a2 : Exa Z h0 a2 "java/lang/StringBuilder") (g_a2 : n0 ≤ a2) (F_value : Fld Z h0 a2 "java/lang/AbstractStringBuilder" "value" "[B" (.ref d1)) (F_coder : Fld Z h0 a2 "java/lang/AbstractStringBuilder" "coder" "B" (.int 0)) (F_count : Fld Z h0 a2 "java/lang/AbstractStringBuilder" "count" "I" (.int c1)) (B_d1 : own_BA Z h0 d1 z) (g_d1 : n0 ≤ d1) (nD : a2 ≠ d1) (SC : Sta Z h0 "java/lang/String" "COMPACT_STRINGS" "Z" (.int kc)) (hkc : ¬ kc = (0 : Int32)) (hq0 : ¬ c1 < (0 : Int32)) (hq1 : c1.toNatClampNeg ≤ 70) (n12 : a2 ≠ a1) (n1d : d1 ≠ a1) :
    MetFree l (⟨"java/lang/String", "<init>", "(Ljava/lang/StringBuilder;)V"⟩ : MethodName) (head1 (Jvm.Cond.code (⟨"java/lang/String", "<init>", "(Ljava/lang/StringBuilder;)V"⟩ : MethodName) jdk_42_method_53_code 2 none :: ws) ({ frames := 4, cells := 1, slots := 70, locals := 65 } : Room)) (fun a U => a = #[(.ref a1), (.ref a2)] ∧ Z.Warmed39 U.vm ∧ U.heap = h0) (fun _ _ _ _ _ => True) (fun _ U o U' => ∃ v L, o = .returned v ∧ QIB Z a1 a2 kc d1 z c1 h0 n0 v U'.heap L ∧ FrameEnd U o U' L ({ frames := 4, cells := 1, slots := 70, locals := 65 } : Room).cells ({ frames := 4, cells := 1, slots := 70, locals := 65 } : Room).slots) := by
  refine MetFree.of_bodySF (plainFor_of_name pn_java_lang_String) hisR ?_
  intro p e s m args below meth c s₁ Bd hml0 hP hK
  obtain ⟨rfl, hZ, hh⟩ := hP
  have hx := Bd.exec
  have hby := Bd.bytes
  have hml : c.maxLocals = 2 := hml0
  have hown : s.vm.findClass "java/lang/String" = some m.cls := findClass_of_methodNamed Bd.named
  have hnm := (name_of_methodNamed Bd.named Bd.method).1
  have X0 : Stand p l e ({ frames := 4, cells := 1, slots := 70, locals := 65 } : Room) s m #[(.ref a1), (.ref a2)] below meth c s₁ [] 0 0 := Stand.of_body Bd
  have e0 : s₁.heap = h0 := by rw [← hh, Bd.state]; rfl
  have N0 := Fr.nil n0
  have pre0 : ∀ tG, Steps p.tables e below (s₁.setTop (mkF m 0 #[.val (.ref a1), .val (.ref a2)] [])) tG → Steps p.tables e below (s₁.setTop (entryFrame m #[(.ref a1), (.ref a2)] 2)) tG := fun tG kG => castTop (ef_rmIB m a1 a2) kG
  obtain ⟨_, _, ⟨T619, L619, k619, n619⟩, -, X619, ⟨Lc619, hQ619, l619, y619, z619⟩, st619⟩ := X0.specialBack hx (y := (⟨"java/lang/String", "<init>", "(Ljava/lang/AbstractStringBuilder;Ljava/lang/Void;)V"⟩ : MethodName)) rfl hown (mvT hZ (own_w hw 218 rfl)) (mvT hZ (own_w hw 219 rfl)) (mvT hZ (own_w hw 220 rfl)) (by decide) (backOf (W := 0) (rmIA l Z a0 hw [] a1 a2 kc d1 z c1 h0 n0 Z0 E1 g1 FV FC E_a2 g_a2 F_value F_coder F_count B_d1 g_d1 nD SC hkc hq0 hq1 n12 n1d) hZ (own_w hw 220 rfl) (own_w hw 18 rfl) (by decide) (by decide)) (g := (mkF m 3 #[.val (.ref a1), .val (.ref a2)] [.null, (.ref a2), (.ref a1)])) rfl (by rw [hml]; rfl) (Steps.refl _) (a := a1) (argsL := [(.ref a2), .null]) (rest := []) (lenOf pd_28Ljava2flang2fAbstractStringBuilder3bLjava2flang2fVoid3b29V rfl) rfl (by show 2 * 0 + _ ≤ _; exact Nat.le_of_eq rfl) (hb hby d35_3) (fun _ _ => ⟨rfl, e0, (by decide : 0 + 1 ≤ _), (by decide : 0 + 70 ≤ _)⟩)
  dsimp only [Pt.U, Pt.locs, Pt.cells, Pt.slots] at X619 l619 y619 z619 st619 hQ619
  subst l619 y619 z619
  obtain ⟨rfl, N619q, Kq619, E619x⟩ := hQ619
  have N619 := Fr.app N0 N619q
  have Z619 : n0 ≤ T619.heap.size := Nat.le_trans Z0 Kq619.1
  have K619 : Keep h0 T619.heap [a1] := (Keep.refl h0 [a1]).trans Kq619 (allS (Or.inl (List.mem_of_getElem? (i := 0) rfl)) all0)
  obtain ⟨fs, hr, hrun, hended, hW, hsame⟩ := X619.leave (v := none) (fun _ => rfl)
  refine ⟨_, _, pre0 _ ?_, hrun, hended, _, _, rfl, ?_, ⟨_, rfl⟩, hW, hsame.mono (by decide) (by decide)⟩
  · refine own_aloadN X0.here hx (hb hby d35_0) rfl rfl ?_
    refine own_aloadN X0.here hx (hb hby d35_1) rfl rfl ?_
    refine own_aconstNull X0.here hx (hb hby d35_2) ?_
    refine st619.trans ?_
    show Steps p.tables e below (T619.setTop (mkF m 6 #[.val (.ref a1), .val (.ref a2)] [])) _
    exact X619.returnOut hx Bd.returns (hb hby d35_6) hr
  · show QIB Z a1 a2 kc d1 z c1 h0 n0 _ T619.heap _
    exact ⟨rfl, N619, K619, E619x⟩
theorem ef_rmTS (m : MethodId) (x0 : Addr) : entryFrame m #[(.ref x0)] 1 = mkF m 0 #[.val (.ref x0)] [] := by first | (simp [entryFrame, mkF, argsToLocals, Value.category]; done) | rfl
def QTS (Z : State) (a1 : Addr) (kc : Int32) (d1 : Addr) (z : Int32) (c1 : Int32) (h0 : Heap) (n0 : Nat) (v : Option Value) (h : Heap) (L : List Loc) : Prop := ∃ b, v = some (.ref b) ∧ Fr n0 L ∧ Keep h0 h [] ∧ h0.size ≤ b ∧ Exa Z h b "java/lang/String"
theorem d34_0 : decode jdk_67_method_42_code 0 = .ok (.new 18, 3) := by decide +kernel
theorem d34_3 : decode jdk_67_method_42_code 3 = .ok (.dup, 1) := by decide +kernel
theorem d34_4 : decode jdk_67_method_42_code 4 = .ok (.aload_n 0, 1) := by decide +kernel
theorem d34_5 : decode jdk_67_method_42_code 5 = .ok (.invokespecial 137, 3) := by decide +kernel
theorem pd_28Ljava2flang2fStringBuilder3b29V : parseMethodDescriptor "(Ljava/lang/StringBuilder;)V" = some ⟨[(.object "java/lang/StringBuilder")], none⟩ := by decide +kernel
theorem d34_8 : decode jdk_67_method_42_code 8 = .ok (.areturn, 1) := by decide +kernel
set_option maxRecDepth 65536 in
set_option maxHeartbeats 40000000 in
theorem rmTS (l : Launch) (Z : State) (a0 : Array Value) (hw : ∀ d ∈ tables_1, d.before a0 Z = true) (ws : List Jvm.Cond) (a1 : Addr) (kc : Int32) (d1 : Addr) (z : Int32) (c1 : Int32) (h0 : Heap) (n0 : Nat) (Z0 : n0 ≤ h0.size) (E_a1 : Exa Z h0 a1 "java/lang/StringBuilder") (g_a1 : n0 ≤ a1) (F_value : Fld Z h0 a1 "java/lang/AbstractStringBuilder" "value" "[B" (.ref d1)) (F_coder : Fld Z h0 a1 "java/lang/AbstractStringBuilder" "coder" "B" (.int 0)) (F_count : Fld Z h0 a1 "java/lang/AbstractStringBuilder" "count" "I" (.int c1)) (B_d1 : own_BA Z h0 d1 z) (g_d1 : n0 ≤ d1) (nD : a1 ≠ d1) (SC : Sta Z h0 "java/lang/String" "COMPACT_STRINGS" "Z" (.int kc)) (hkc : ¬ kc = (0 : Int32)) (hq0 : ¬ c1 < (0 : Int32)) (hq1 : c1.toNatClampNeg ≤ 70) :
    MetFree l (⟨"java/lang/StringBuilder", "toString", "()Ljava/lang/String;"⟩ : MethodName) (head1 (Jvm.Cond.code (⟨"java/lang/StringBuilder", "toString", "()Ljava/lang/String;"⟩ : MethodName) jdk_67_method_42_code 1 (some (.object "java/lang/String")) :: ws) ({ frames := 5, cells := 2, slots := 74, locals := 79 } : Room)) (fun a U => a = #[(.ref a1)] ∧ Z.Warmed39 U.vm ∧ U.heap = h0) (fun _ _ _ _ _ => True) (fun _ U o U' => ∃ v L, o = .returned v ∧ QTS Z a1 kc d1 z c1 h0 n0 v U'.heap L ∧ FrameEnd U o U' L ({ frames := 5, cells := 2, slots := 74, locals := 79 } : Room).cells ({ frames := 5, cells := 2, slots := 74, locals := 79 } : Room).slots) := by
  refine MetFree.of_bodySF (plainFor_of_name pn_java_lang_StringBuilder) hisR ?_
  intro p e s m args below meth c s₁ Bd hml0 hP hK
  obtain ⟨rfl, hZ, hh⟩ := hP
  have hx := Bd.exec
  have hby := Bd.bytes
  have hml : c.maxLocals = 1 := hml0
  have hown : s.vm.findClass "java/lang/StringBuilder" = some m.cls := findClass_of_methodNamed Bd.named
  have hnm := (name_of_methodNamed Bd.named Bd.method).1
  have X0 : Stand p l e ({ frames := 5, cells := 2, slots := 74, locals := 79 } : Room) s m #[(.ref a1)] below meth c s₁ [] 0 0 := Stand.of_body Bd
  have e0 : s₁.heap = h0 := by rw [← hh, Bd.state]; rfl
  have N0 := Fr.nil n0
  have pre0 : ∀ tG, Steps p.tables e below (s₁.setTop (mkF m 0 #[.val (.ref a1)] [])) tG → Steps p.tables e below (s₁.setTop (entryFrame m #[(.ref a1)] 1)) tG := fun tG kG => castTop (ef_rmTS m a1) kG
  obtain ⟨T620, h620, X620, e620, E620, A620, D620, -, st620⟩ := newO X0 hx hZ hown (own_w hw 214 rfl) (own_w hw 26 rfl) (own_w hw 18 rfl) e0 (g := (mkF m 0 #[.val (.ref a1)] [])) rfl (hb hby d34_0) (by decide) (by decide)
  obtain ⟨b620, g620⟩ : ∃ z, z = h0.size := ⟨_, rfl⟩
  rw [← g620] at A620 D620 st620
  have E620' := E620
  have gg620 : n0 ≤ b620 := Nat.le_trans Z0 (Nat.le_of_eq g620.symm)
  have sz620 : h0.size ≤ b620 := Nat.le_trans (Keep.refl h0 []).1 (Nat.le_of_eq g620.symm)
  have ne621 : a1 ≠ b620 := Nat.ne_of_lt (Nat.lt_of_lt_of_le E_a1.lt (Nat.le_of_eq g620.symm))
  have ne622 : d1 ≠ b620 := Nat.ne_of_lt (Nat.lt_of_lt_of_le B_d1.lt (Nat.le_of_eq g620.symm))
  have Z620 : n0 ≤ h620.size := Nat.le_trans Z0 E620.1
  have K620 : Keep h0 h620 [] := (Keep.refl h0 []).ext E620
  have f623 : Exa Z h620 a1 "java/lang/StringBuilder" := E_a1.ext E620
  have f624 : Fld Z h620 a1 "java/lang/AbstractStringBuilder" "value" "[B" (.ref d1) := F_value.ext E620
  have f625 : Fld Z h620 a1 "java/lang/AbstractStringBuilder" "coder" "B" (.int 0) := F_coder.ext E620
  have f626 : Fld Z h620 a1 "java/lang/AbstractStringBuilder" "count" "I" (.int c1) := F_count.ext E620
  have f627 : Sta Z h620 "java/lang/String" "COMPACT_STRINGS" "Z" (.int kc) := SC.ext E620
  have f628 : own_BA Z h620 d1 z := B_d1.ext E620
  have f629 : Fld Z h620 b620 "java/lang/String" "value" "[B" .null := D620 (Or.inr (own_w hw 37 rfl)) (ty := (.array .byte)) (by decide)
  have f630 : Fld Z h620 b620 "java/lang/String" "coder" "B" (.int 0) := D620 (Or.inr (own_w hw 39 rfl)) (ty := .byte) (by decide)
  obtain ⟨_, _, ⟨T631, L631, k631, n631⟩, -, X631, ⟨Lc631, hQ631, l631, y631, z631⟩, st631⟩ := X620.specialBack hx (y := (⟨"java/lang/String", "<init>", "(Ljava/lang/StringBuilder;)V"⟩ : MethodName)) rfl hown (mvT hZ (own_w hw 215 rfl)) (mvT hZ (own_w hw 216 rfl)) (mvT hZ (own_w hw 217 rfl)) (by decide) (backOf (W := 1) (rmIB l Z a0 hw [] b620 a1 kc d1 z c1 h620 n0 Z620 A620 gg620 f629 f630 f623 g_a1 f624 f625 f626 f628 g_d1 nD f627 hkc hq0 hq1 ne621 ne622) hZ (own_w hw 217 rfl) (own_w hw 18 rfl) (by decide) (by decide)) (g := (mkF m 5 #[.val (.ref a1)] [(.ref a1), (.ref b620), (.ref b620)])) rfl (by rw [hml]; rfl) (Steps.refl _) (a := b620) (argsL := [(.ref a1)]) (rest := [(.ref b620)]) (lenOf pd_28Ljava2flang2fStringBuilder3b29V rfl) rfl (by show 2 * 0 + _ ≤ _; exact Nat.le_of_eq rfl) (hb hby d34_5) (fun _ _ => ⟨rfl, e620, (by decide : 1 + 1 ≤ _), (by decide : 4 + 70 ≤ _)⟩)
  dsimp only [Pt.U, Pt.locs, Pt.cells, Pt.slots] at X631 l631 y631 z631 st631 hQ631
  subst l631 y631 z631
  obtain ⟨rfl, N631q, Kq631, E631x⟩ := hQ631
  have N631 := Fr.app N0 N631q
  have Z631 : n0 ≤ T631.heap.size := Nat.le_trans Z620 Kq631.1
  have K631 : Keep h0 T631.heap [] := K620.trans Kq631 (allS (Or.inr sz620) all0)
  obtain ⟨fs, hr, hrun, hended, hW, hsame⟩ := X631.leave (v := some (.ref b620)) (fun h => by rw [Bd.returns] at h; cases h)
  refine ⟨_, _, pre0 _ ?_, hrun, hended, _, _, rfl, ?_, ⟨_, rfl⟩, hW, hsame.mono (by decide) (by decide)⟩
  · refine st620 _ ?_
    show Steps p.tables e below (T620.setTop (mkF m 3 #[.val (.ref a1)] [(.ref b620)])) _
    refine own_dup X620.here hx (hb hby d34_3) rfl ?_
    refine own_aloadN X620.here hx (hb hby d34_4) rfl rfl ?_
    refine st631.trans ?_
    show Steps p.tables e below (T631.setTop (mkF m 8 #[.val (.ref a1)] [(.ref b620)])) _
    jvm_step X631.here [X631.here.top, hx, (hb hby d34_8), X631.method', Bd.returns, Value.isRef, FieldType.isReference]
    first | (intro acts; rw [hr _ acts rfl rfl rfl]) | rw [hr _ _ rfl rfl rfl]
    exact Steps.refl _
  · show QTS Z a1 kc d1 z c1 h0 n0 _ T631.heap _
    exact ⟨b620, rfl, N631, K631, sz620, E631x⟩
def own_EL : List (String × Nat) := [("com/example/vesch/vesch/engine/Trace", 29)]
theorem own_sp : (∀ c ∈ " ".toList, c.toNat < 256) ∧ " ".toList.map (fun c => Value.int (Jvm.Lit.byteI c.toNat.toUInt16)) = [Value.int 32] := ⟨by decide, by decide⟩
theorem own_ew {Z : State} {a0 : Array Value} (hw : ∀ d ∈ tables_1, d.before a0 Z = true) : EW Z a0 own_EL := EW.cons (own_w hw 179 rfl) (by decide) EW.nil
theorem own_wS {Z : State} {a0 : Array Value} (hw : ∀ d ∈ tables_1, d.before a0 Z = true) : ∀ a ∈ Bundle.stringAtoms, a.before a0 Z = true := fun a ha => by
  simp only [Bundle.stringAtoms, Bundle.sN, List.mem_cons, List.not_mem_nil, or_false] at ha
  rcases ha with rfl | rfl | rfl | rfl | rfl | rfl | rfl
  · exact own_w hw 18 rfl
  · exact own_w hw 26 rfl
  · exact own_w hw 30 rfl
  · exact own_w hw 37 rfl
  · exact own_w hw 39 rfl
  · exact own_w hw 180 rfl
  · exact own_w hw 181 rfl
theorem ef_rmF1 (m : MethodId) (x0 : Addr) (x1 : Addr) : entryFrame m #[(.ref x0), (.ref x1)] 2 = mkF m 0 #[.val (.ref x0), .val (.ref x1)] [] := by first | (simp [entryFrame, mkF, argsToLocals, Value.category]; done) | rfl
def QF1 (Z : State) (a1 : Addr) (a2 : Addr) (h0 : Heap) (n0 : Nat) (v : Option Value) (h : Heap) (L : List Loc) : Prop := v = none ∧ Fr n0 L ∧ h = h0
theorem d8_0 : decode prog_54_method_3_code 0 = .ok (.aload_n 0, 1) := by decide +kernel
theorem d8_1 : decode prog_54_method_3_code 1 = .ok (.getfield 10, 3) := by decide +kernel
theorem d8_4 : decode prog_54_method_3_code 4 = .ok (.ifnull 14, 3) := by decide +kernel
theorem d8_18 : decode prog_54_method_3_code 18 = .ok (.return_, 1) := by decide +kernel
set_option maxRecDepth 65536 in
set_option maxHeartbeats 40000000 in
theorem rmF1 (l : Launch) (Z : State) (a0 : Array Value) (hw : ∀ d ∈ tables_1, d.before a0 Z = true) (ws : List Jvm.Cond) (a1 : Addr) (a2 : Addr) (h0 : Heap) (n0 : Nat) (Z0 : n0 ≤ h0.size) (FE : Fld Z h0 a1 "com/example/vesch/vesch/engine/Trace" "events" "Ljava/util/List;" .null) :
    MetFree l (⟨"com/example/vesch/vesch/engine/Trace", "add", "(Ljava/lang/String;)V"⟩ : MethodName) (head1 (Jvm.Cond.code (⟨"com/example/vesch/vesch/engine/Trace", "add", "(Ljava/lang/String;)V"⟩ : MethodName) prog_54_method_3_code 2 none :: ws) ({ frames := 0, cells := 0, slots := 0, locals := 0 } : Room)) (fun a U => a = #[(.ref a1), (.ref a2)] ∧ Z.Warmed39 U.vm ∧ U.heap = h0) (fun _ _ _ _ _ => True) (fun _ U o U' => ∃ v L, o = .returned v ∧ QF1 Z a1 a2 h0 n0 v U'.heap L ∧ FrameEnd U o U' L ({ frames := 0, cells := 0, slots := 0, locals := 0 } : Room).cells ({ frames := 0, cells := 0, slots := 0, locals := 0 } : Room).slots) := by
  refine MetFree.of_bodySF (plainFor_of_name pn_com_example_vesch_vesch_engine_Trace) hisR ?_
  intro p e s m args below meth c s₁ Bd hml0 hP hK
  obtain ⟨rfl, hZ, hh⟩ := hP
  have hx := Bd.exec
  have hby := Bd.bytes
  have hml : c.maxLocals = 2 := hml0
  have hown : s.vm.findClass "com/example/vesch/vesch/engine/Trace" = some m.cls := findClass_of_methodNamed Bd.named
  have hnm := (name_of_methodNamed Bd.named Bd.method).1
  have X0 : Stand p l e ({ frames := 0, cells := 0, slots := 0, locals := 0 } : Room) s m #[(.ref a1), (.ref a2)] below meth c s₁ [] 0 0 := Stand.of_body Bd
  have e0 : s₁.heap = h0 := by rw [← hh, Bd.state]; rfl
  have N0 := Fr.nil n0
  have pre0 : ∀ tG, Steps p.tables e below (s₁.setTop (mkF m 0 #[.val (.ref a1), .val (.ref a2)] [])) tG → Steps p.tables e below (s₁.setTop (entryFrame m #[(.ref a1), (.ref a2)] 2)) tG := fun tG kG => castTop (ef_rmF1 m a1 a2) kG
  obtain ⟨T632, X632, e632, st632⟩ := getF X0 hx hZ hown (host := "") (Or.inl (own_w hw 9 rfl)) Via.refl e0 FE (g := (mkF m 1 #[.val (.ref a1), .val (.ref a2)] [(.ref a1)])) rfl rfl (hb hby d8_1)
  obtain ⟨fs, hr, hrun, hended, hW, hsame⟩ := X632.leave (v := none) (fun _ => rfl)
  refine ⟨_, _, pre0 _ ?_, hrun, hended, _, _, rfl, ?_, ⟨_, rfl⟩, hW, hsame.mono (by decide) (by decide)⟩
  · refine own_aloadN X0.here hx (hb hby d8_0) rfl rfl ?_
    refine st632 _ ?_
    show Steps p.tables e below (T632.setTop (mkF m 4 #[.val (.ref a1), .val (.ref a2)] [.null])) _
    refine own_ifnullYes X632.here hx 4 18 rfl (hb hby d8_4) (by decide) (by decide) ?_
    exact X632.returnOut hx Bd.returns (hb hby d8_18) hr
  · show QF1 Z a1 a2 h0 n0 _ T632.heap _
    rw [e632]
    exact ⟨rfl, N0, rfl⟩
theorem ef_rmF2 (m : MethodId) (x0 : Addr) (x1 : Addr) (x2 : Int64) : entryFrame m #[(.ref x0), (.ref x1), (.long x2)] 4 = mkF m 0 #[.val (.ref x0), .val (.ref x1), .val (.long x2), .second] [] := by first | (simp [entryFrame, mkF, argsToLocals, Value.category]; done) | rfl
def QF2 (Z : State) (a1 : Addr) (a2 : Addr) (p3 : Int64) (h0 : Heap) (n0 : Nat) (v : Option Value) (h : Heap) (L : List Loc) : Prop := v = none ∧ Fr n0 L ∧ h = h0
theorem d9_0 : decode prog_54_method_4_code 0 = .ok (.aload_n 0, 1) := by decide +kernel
theorem d9_1 : decode prog_54_method_4_code 1 = .ok (.getfield 10, 3) := by decide +kernel
theorem d9_4 : decode prog_54_method_4_code 4 = .ok (.ifnull 36, 3) := by decide +kernel
theorem d9_40 : decode prog_54_method_4_code 40 = .ok (.return_, 1) := by decide +kernel
set_option maxRecDepth 65536 in
set_option maxHeartbeats 40000000 in
theorem rmF2 (l : Launch) (Z : State) (a0 : Array Value) (hw : ∀ d ∈ tables_1, d.before a0 Z = true) (ws : List Jvm.Cond) (a1 : Addr) (a2 : Addr) (p3 : Int64) (h0 : Heap) (n0 : Nat) (Z0 : n0 ≤ h0.size) (FE : Fld Z h0 a1 "com/example/vesch/vesch/engine/Trace" "events" "Ljava/util/List;" .null) :
    MetFree l (⟨"com/example/vesch/vesch/engine/Trace", "add", "(Ljava/lang/String;J)V"⟩ : MethodName) (head1 (Jvm.Cond.code (⟨"com/example/vesch/vesch/engine/Trace", "add", "(Ljava/lang/String;J)V"⟩ : MethodName) prog_54_method_4_code 4 none :: ws) ({ frames := 0, cells := 0, slots := 0, locals := 0 } : Room)) (fun a U => a = #[(.ref a1), (.ref a2), (.long p3)] ∧ Z.Warmed39 U.vm ∧ U.heap = h0) (fun _ _ _ _ _ => True) (fun _ U o U' => ∃ v L, o = .returned v ∧ QF2 Z a1 a2 p3 h0 n0 v U'.heap L ∧ FrameEnd U o U' L ({ frames := 0, cells := 0, slots := 0, locals := 0 } : Room).cells ({ frames := 0, cells := 0, slots := 0, locals := 0 } : Room).slots) := by
  refine MetFree.of_bodySF (plainFor_of_name pn_com_example_vesch_vesch_engine_Trace) hisR ?_
  intro p e s m args below meth c s₁ Bd hml0 hP hK
  obtain ⟨rfl, hZ, hh⟩ := hP
  have hx := Bd.exec
  have hby := Bd.bytes
  have hml : c.maxLocals = 4 := hml0
  have hown : s.vm.findClass "com/example/vesch/vesch/engine/Trace" = some m.cls := findClass_of_methodNamed Bd.named
  have hnm := (name_of_methodNamed Bd.named Bd.method).1
  have X0 : Stand p l e ({ frames := 0, cells := 0, slots := 0, locals := 0 } : Room) s m #[(.ref a1), (.ref a2), (.long p3)] below meth c s₁ [] 0 0 := Stand.of_body Bd
  have e0 : s₁.heap = h0 := by rw [← hh, Bd.state]; rfl
  have N0 := Fr.nil n0
  have pre0 : ∀ tG, Steps p.tables e below (s₁.setTop (mkF m 0 #[.val (.ref a1), .val (.ref a2), .val (.long p3), .second] [])) tG → Steps p.tables e below (s₁.setTop (entryFrame m #[(.ref a1), (.ref a2), (.long p3)] 4)) tG := fun tG kG => castTop (ef_rmF2 m a1 a2 p3) kG
  obtain ⟨T633, X633, e633, st633⟩ := getF X0 hx hZ hown (host := "") (Or.inl (own_w hw 9 rfl)) Via.refl e0 FE (g := (mkF m 1 #[.val (.ref a1), .val (.ref a2), .val (.long p3), .second] [(.ref a1)])) rfl rfl (hb hby d9_1)
  obtain ⟨fs, hr, hrun, hended, hW, hsame⟩ := X633.leave (v := none) (fun _ => rfl)
  refine ⟨_, _, pre0 _ ?_, hrun, hended, _, _, rfl, ?_, ⟨_, rfl⟩, hW, hsame.mono (by decide) (by decide)⟩
  · refine own_aloadN X0.here hx (hb hby d9_0) rfl rfl ?_
    refine st633 _ ?_
    show Steps p.tables e below (T633.setTop (mkF m 4 #[.val (.ref a1), .val (.ref a2), .val (.long p3), .second] [.null])) _
    refine own_ifnullYes X633.here hx 4 40 rfl (hb hby d9_4) (by decide) (by decide) ?_
    exact X633.returnOut hx Bd.returns (hb hby d9_40) hr
  · show QF2 Z a1 a2 p3 h0 n0 _ T633.heap _
    rw [e633]
    exact ⟨rfl, N0, rfl⟩
theorem ef_rmF3 (m : MethodId) (x0 : Addr) (x1 : Addr) (x2 : Int64) (x3 : Int64) : entryFrame m #[(.ref x0), (.ref x1), (.long x2), (.long x3)] 6 = mkF m 0 #[.val (.ref x0), .val (.ref x1), .val (.long x2), .second, .val (.long x3), .second] [] := by first | (simp [entryFrame, mkF, argsToLocals, Value.category]; done) | rfl
def QF3 (Z : State) (a1 : Addr) (a2 : Addr) (p3 : Int64) (p4 : Int64) (h0 : Heap) (n0 : Nat) (v : Option Value) (h : Heap) (L : List Loc) : Prop := v = none ∧ Fr n0 L ∧ h = h0
theorem d10_0 : decode prog_54_method_5_code 0 = .ok (.aload_n 0, 1) := by decide +kernel
theorem d10_1 : decode prog_54_method_5_code 1 = .ok (.getfield 10, 3) := by decide +kernel
theorem d10_4 : decode prog_54_method_5_code 4 = .ok (.ifnull 46, 3) := by decide +kernel
theorem d10_50 : decode prog_54_method_5_code 50 = .ok (.return_, 1) := by decide +kernel
set_option maxRecDepth 65536 in
set_option maxHeartbeats 40000000 in
theorem rmF3 (l : Launch) (Z : State) (a0 : Array Value) (hw : ∀ d ∈ tables_1, d.before a0 Z = true) (ws : List Jvm.Cond) (a1 : Addr) (a2 : Addr) (p3 : Int64) (p4 : Int64) (h0 : Heap) (n0 : Nat) (Z0 : n0 ≤ h0.size) (FE : Fld Z h0 a1 "com/example/vesch/vesch/engine/Trace" "events" "Ljava/util/List;" .null) :
    MetFree l (⟨"com/example/vesch/vesch/engine/Trace", "add", "(Ljava/lang/String;JJ)V"⟩ : MethodName) (head1 (Jvm.Cond.code (⟨"com/example/vesch/vesch/engine/Trace", "add", "(Ljava/lang/String;JJ)V"⟩ : MethodName) prog_54_method_5_code 6 none :: ws) ({ frames := 0, cells := 0, slots := 0, locals := 0 } : Room)) (fun a U => a = #[(.ref a1), (.ref a2), (.long p3), (.long p4)] ∧ Z.Warmed39 U.vm ∧ U.heap = h0) (fun _ _ _ _ _ => True) (fun _ U o U' => ∃ v L, o = .returned v ∧ QF3 Z a1 a2 p3 p4 h0 n0 v U'.heap L ∧ FrameEnd U o U' L ({ frames := 0, cells := 0, slots := 0, locals := 0 } : Room).cells ({ frames := 0, cells := 0, slots := 0, locals := 0 } : Room).slots) := by
  refine MetFree.of_bodySF (plainFor_of_name pn_com_example_vesch_vesch_engine_Trace) hisR ?_
  intro p e s m args below meth c s₁ Bd hml0 hP hK
  obtain ⟨rfl, hZ, hh⟩ := hP
  have hx := Bd.exec
  have hby := Bd.bytes
  have hml : c.maxLocals = 6 := hml0
  have hown : s.vm.findClass "com/example/vesch/vesch/engine/Trace" = some m.cls := findClass_of_methodNamed Bd.named
  have hnm := (name_of_methodNamed Bd.named Bd.method).1
  have X0 : Stand p l e ({ frames := 0, cells := 0, slots := 0, locals := 0 } : Room) s m #[(.ref a1), (.ref a2), (.long p3), (.long p4)] below meth c s₁ [] 0 0 := Stand.of_body Bd
  have e0 : s₁.heap = h0 := by rw [← hh, Bd.state]; rfl
  have N0 := Fr.nil n0
  have pre0 : ∀ tG, Steps p.tables e below (s₁.setTop (mkF m 0 #[.val (.ref a1), .val (.ref a2), .val (.long p3), .second, .val (.long p4), .second] [])) tG → Steps p.tables e below (s₁.setTop (entryFrame m #[(.ref a1), (.ref a2), (.long p3), (.long p4)] 6)) tG := fun tG kG => castTop (ef_rmF3 m a1 a2 p3 p4) kG
  obtain ⟨T634, X634, e634, st634⟩ := getF X0 hx hZ hown (host := "") (Or.inl (own_w hw 9 rfl)) Via.refl e0 FE (g := (mkF m 1 #[.val (.ref a1), .val (.ref a2), .val (.long p3), .second, .val (.long p4), .second] [(.ref a1)])) rfl rfl (hb hby d10_1)
  obtain ⟨fs, hr, hrun, hended, hW, hsame⟩ := X634.leave (v := none) (fun _ => rfl)
  refine ⟨_, _, pre0 _ ?_, hrun, hended, _, _, rfl, ?_, ⟨_, rfl⟩, hW, hsame.mono (by decide) (by decide)⟩
  · refine own_aloadN X0.here hx (hb hby d10_0) rfl rfl ?_
    refine st634 _ ?_
    show Steps p.tables e below (T634.setTop (mkF m 4 #[.val (.ref a1), .val (.ref a2), .val (.long p3), .second, .val (.long p4), .second] [.null])) _
    refine own_ifnullYes X634.here hx 4 50 rfl (hb hby d10_4) (by decide) (by decide) ?_
    exact X634.returnOut hx Bd.returns (hb hby d10_50) hr
  · show QF3 Z a1 a2 p3 p4 h0 n0 _ T634.heap _
    rw [e634]
    exact ⟨rfl, N0, rfl⟩
theorem ef_rmTA (m : MethodId) (x0 : Addr) (x1 : Addr) : entryFrame m #[(.ref x0), (.ref x1)] 2 = mkF m 0 #[.val (.ref x0), .val (.ref x1)] [] := by first | (simp [entryFrame, mkF, argsToLocals, Value.category]; done) | rfl
def QTA (Z : State) (a1 : Addr) (a2 : Addr) (b1 : Addr) (aD : Addr) (mc : Int32) (h0 : Heap) (n0 : Nat) (v : Option Value) (h : Heap) (L : List Loc) : Prop := v = none ∧ Fr n0 L ∧ Keep h0 h [b1] ∧ ∃ b, h0.size ≤ b ∧ own_OA Z h b 10 ∧ Exa Z h b1 "java/util/ArrayList" ∧ Fld Z h b1 "java/util/AbstractList" "modCount" "I" (.int (mc + (1 : Int32))) ∧ Fld Z h b1 "java/util/ArrayList" "elementData" "[Ljava/lang/Object;" (.ref b) ∧ Fld Z h b1 "java/util/ArrayList" "size" "I" (.int 1)
theorem d8_7 : decode prog_54_method_3_code 7 = .ok (.aload_n 0, 1) := by decide +kernel
theorem d8_8 : decode prog_54_method_3_code 8 = .ok (.getfield 10, 3) := by decide +kernel
theorem d8_11 : decode prog_54_method_3_code 11 = .ok (.aload_n 1, 1) := by decide +kernel
theorem d8_12 : decode prog_54_method_3_code 12 = .ok (.invokeinterface 16 2, 5) := by decide +kernel
theorem pd_28Ljava2flang2fObject3b29Z : parseMethodDescriptor "(Ljava/lang/Object;)Z" = some ⟨[(.object "java/lang/Object")], some .boolean⟩ := by decide +kernel
theorem d8_17 : decode prog_54_method_3_code 17 = .ok (.pop, 1) := by decide +kernel
set_option maxRecDepth 65536 in
set_option maxHeartbeats 40000000 in
theorem rmTA (l : Launch) (Z : State) (a0 : Array Value) (hw : ∀ d ∈ tables_1, d.before a0 Z = true) (ws : List Jvm.Cond) (a1 : Addr) (a2 : Addr) (b1 : Addr) (aD : Addr) (mc : Int32) (h0 : Heap) (n0 : Nat) (Z0 : n0 ≤ h0.size) (FE : Fld Z h0 a1 "com/example/vesch/vesch/engine/Trace" "events" "Ljava/util/List;" (.ref b1)) (E_b1 : Exa Z h0 b1 "java/util/ArrayList") (g_b1 : n0 ≤ b1) (F_modCount : Fld Z h0 b1 "java/util/AbstractList" "modCount" "I" (.int mc)) (F_elementData : Fld Z h0 b1 "java/util/ArrayList" "elementData" "[Ljava/lang/Object;" (.ref aD)) (F_size : Fld Z h0 b1 "java/util/ArrayList" "size" "I" (.int 0)) (SD : Sta Z h0 "java/util/ArrayList" "DEFAULTCAPACITY_EMPTY_ELEMENTDATA" "[Ljava/lang/Object;" (.ref aD)) (OD : own_OL Z h0 aD 0) (nD : b1 ≠ aD) (E_a2 : Exa Z h0 a2 "java/lang/String") :
    MetFree l (⟨"com/example/vesch/vesch/engine/Trace", "add", "(Ljava/lang/String;)V"⟩ : MethodName) (head1 (Jvm.Cond.code (⟨"com/example/vesch/vesch/engine/Trace", "add", "(Ljava/lang/String;)V"⟩ : MethodName) prog_54_method_3_code 2 none :: ws) ({ frames := 5, cells := 1, slots := 10, locals := 69 } : Room)) (fun a U => a = #[(.ref a1), (.ref a2)] ∧ Z.Warmed39 U.vm ∧ U.heap = h0) (fun _ _ _ _ _ => True) (fun _ U o U' => ∃ v L, o = .returned v ∧ QTA Z a1 a2 b1 aD mc h0 n0 v U'.heap L ∧ FrameEnd U o U' L ({ frames := 5, cells := 1, slots := 10, locals := 69 } : Room).cells ({ frames := 5, cells := 1, slots := 10, locals := 69 } : Room).slots) := by
  refine MetFree.of_bodySF (plainFor_of_name pn_com_example_vesch_vesch_engine_Trace) hisR ?_
  intro p e s m args below meth c s₁ Bd hml0 hP hK
  obtain ⟨rfl, hZ, hh⟩ := hP
  have hx := Bd.exec
  have hby := Bd.bytes
  have hml : c.maxLocals = 2 := hml0
  have hown : s.vm.findClass "com/example/vesch/vesch/engine/Trace" = some m.cls := findClass_of_methodNamed Bd.named
  have hnm := (name_of_methodNamed Bd.named Bd.method).1
  have X0 : Stand p l e ({ frames := 5, cells := 1, slots := 10, locals := 69 } : Room) s m #[(.ref a1), (.ref a2)] below meth c s₁ [] 0 0 := Stand.of_body Bd
  have e0 : s₁.heap = h0 := by rw [← hh, Bd.state]; rfl
  have N0 := Fr.nil n0
  have pre0 : ∀ tG, Steps p.tables e below (s₁.setTop (mkF m 0 #[.val (.ref a1), .val (.ref a2)] [])) tG → Steps p.tables e below (s₁.setTop (entryFrame m #[(.ref a1), (.ref a2)] 2)) tG := fun tG kG => castTop (ef_rmTA m a1 a2) kG
  obtain ⟨T635, X635, e635, st635⟩ := getF X0 hx hZ hown (host := "") (Or.inl (own_w hw 9 rfl)) Via.refl e0 FE (g := (mkF m 1 #[.val (.ref a1), .val (.ref a2)] [(.ref a1)])) rfl rfl (hb hby d8_1)
  obtain ⟨T636, X636, e636, st636⟩ := getF X635 hx hZ hown (host := "") (Or.inl (own_w hw 9 rfl)) Via.refl e635 FE (g := (mkF m 8 #[.val (.ref a1), .val (.ref a2)] [(.ref a1)])) rfl rfl (hb hby d8_8)
  obtain ⟨cq637, kq637, q637a, q637b, q637c⟩ := isOf hZ e636 E_b1
  obtain ⟨_, _, ⟨T637, L637, k637, n637⟩, -, X637, ⟨Lc637, hQ637, l637, y637, z637⟩, st637⟩ := X636.interfaceBack hx (xi := (⟨"java/util/List", "add", "(Ljava/lang/Object;)Z"⟩ : MethodName)) (y := (⟨"java/util/ArrayList", "add", "(Ljava/lang/Object;)Z"⟩ : MethodName)) hown (mvT hZ (own_w hw 79 rfl)) (mvT hZ (own_w hw 80 rfl)) (mvT hZ (own_w hw 81 rfl)) (mvT hZ (own_w hw 82 rfl)) (mvT hZ (own_w hw 83 rfl)) (mvT hZ (own_w hw 84 rfl)) (mvT hZ (own_w hw 85 rfl)) (mvT hZ (own_w hw 86 rfl)) (by decide) (backOf (W := 0) (rmA1G l Z a0 hw [] b1 a2 aD mc h0 n0 Z0 E_b1 g_b1 F_modCount F_elementData F_size SD OD nD E_a2) hZ (own_w hw 87 rfl) (own_w hw 57 rfl) (by decide) (by decide)) q637a q637b q637c (g := (mkF m 12 #[.val (.ref a1), .val (.ref a2)] [(.ref a2), (.ref b1)])) rfl (by rw [hml]; rfl) (Steps.refl _) (argsL := [(.ref a2)]) (rest := []) (lenOf pd_28Ljava2flang2fObject3b29Z rfl) rfl (by show 2 * 0 + _ ≤ _; exact Nat.le_of_eq rfl) (hb hby d8_12) (fun _ _ => ⟨rfl, e636, (by decide : 0 + 1 ≤ _), (by decide : 0 + 10 ≤ _)⟩)
  dsimp only [Pt.U, Pt.locs, Pt.cells, Pt.slots] at X637 l637 y637 z637 st637 hQ637
  subst l637 y637 z637
  obtain ⟨rfl, N637q, Kq637, c637, lt637, OA637, E637x, F637_modCount, F637_elementData, F637_size⟩ := hQ637
  have gg637_c637 : n0 ≤ c637 := Nat.le_trans Z0 lt637
  have sz637_c637 : h0.size ≤ c637 := Nat.le_trans (Keep.refl h0 [b1]).1 lt637
  have N637 := Fr.app N0 N637q
  have Z637 : n0 ≤ T637.heap.size := Nat.le_trans Z0 Kq637.1
  have K637 : Keep h0 T637.heap [b1] := (Keep.refl h0 [b1]).trans Kq637 (allS (Or.inl (List.mem_of_getElem? (i := 0) rfl)) all0)
  obtain ⟨fs, hr, hrun, hended, hW, hsame⟩ := X637.leave (v := none) (fun _ => rfl)
  refine ⟨_, _, pre0 _ ?_, hrun, hended, _, _, rfl, ?_, ⟨_, rfl⟩, hW, hsame.mono (by decide) (by decide)⟩
  · refine own_aloadN X0.here hx (hb hby d8_0) rfl rfl ?_
    refine st635 _ ?_
    show Steps p.tables e below (T635.setTop (mkF m 4 #[.val (.ref a1), .val (.ref a2)] [(.ref b1)])) _
    refine own_ifnullNo X635.here hx (hb hby d8_4) ?_
    refine own_aloadN X635.here hx (hb hby d8_7) rfl rfl ?_
    refine st636 _ ?_
    show Steps p.tables e below (T636.setTop (mkF m 11 #[.val (.ref a1), .val (.ref a2)] [(.ref b1)])) _
    refine own_aloadN X636.here hx (hb hby d8_11) rfl rfl ?_
    refine st637.trans ?_
    show Steps p.tables e below (T637.setTop (mkF m 17 #[.val (.ref a1), .val (.ref a2)] [(.int 1)])) _
    refine own_pop X637.here hx (hb hby d8_17) rfl ?_
    exact X637.returnOut hx Bd.returns (hb hby d8_18) hr
  · show QTA Z a1 a2 b1 aD mc h0 n0 _ T637.heap _
    exact ⟨rfl, N637, K637, c637, sz637_c637, OA637, E637x, F637_modCount, F637_elementData, F637_size⟩
theorem ef_rmTJ (m : MethodId) (x0 : Addr) (x1 : Addr) (x2 : Int64) : entryFrame m #[(.ref x0), (.ref x1), (.long x2)] 4 = mkF m 0 #[.val (.ref x0), .val (.ref x1), .val (.long x2), .second] [] := by first | (simp [entryFrame, mkF, argsToLocals, Value.category]; done) | rfl
def QTJ (Z : State) (a1 : Addr) (a2 : Addr) (p3 : Int64) (kc : Int32) (d2 : Addr) (b1 : Addr) (d1 : Addr) (mc : Int32) (k : Int32) (aO : Addr) (aT : Addr) (h0 : Heap) (n0 : Nat) (v : Option Value) (h : Heap) (L : List Loc) : Prop := v = none ∧ Fr n0 L ∧ Keep h0 h [b1, d1] ∧ own_OA Z h d1 10 ∧ Exa Z h b1 "java/util/ArrayList" ∧ Fld Z h b1 "java/util/AbstractList" "modCount" "I" (.int (mc + (1 : Int32))) ∧ Fld Z h b1 "java/util/ArrayList" "elementData" "[Ljava/lang/Object;" (.ref d1) ∧ Fld Z h b1 "java/util/ArrayList" "size" "I" (.int (k + (1 : Int32)))
theorem d9_7 : decode prog_54_method_4_code 7 = .ok (.aload_n 0, 1) := by decide +kernel
theorem d9_8 : decode prog_54_method_4_code 8 = .ok (.getfield 10, 3) := by decide +kernel
theorem d9_11 : decode prog_54_method_4_code 11 = .ok (.new 22, 3) := by decide +kernel
theorem d9_14 : decode prog_54_method_4_code 14 = .ok (.dup, 1) := by decide +kernel
theorem d9_15 : decode prog_54_method_4_code 15 = .ok (.invokespecial 24, 3) := by decide +kernel
theorem d9_18 : decode prog_54_method_4_code 18 = .ok (.aload_n 1, 1) := by decide +kernel
theorem d9_19 : decode prog_54_method_4_code 19 = .ok (.invokevirtual 25, 3) := by decide +kernel
theorem pd_28Ljava2flang2fString3b29Ljava2flang2fStringBuilder3b : parseMethodDescriptor "(Ljava/lang/String;)Ljava/lang/StringBuilder;" = some ⟨[(.object "java/lang/String")], some (.object "java/lang/StringBuilder")⟩ := by decide +kernel
theorem d9_22 : decode prog_54_method_4_code 22 = .ok (.ldc 29, 2) := by decide +kernel
theorem d9_24 : decode prog_54_method_4_code 24 = .ok (.invokevirtual 25, 3) := by decide +kernel
theorem d9_27 : decode prog_54_method_4_code 27 = .ok (.lload_n 2, 1) := by decide +kernel
theorem d9_28 : decode prog_54_method_4_code 28 = .ok (.invokevirtual 31, 3) := by decide +kernel
theorem pd_28J29Ljava2flang2fStringBuilder3b : parseMethodDescriptor "(J)Ljava/lang/StringBuilder;" = some ⟨[.long], some (.object "java/lang/StringBuilder")⟩ := by decide +kernel
theorem d9_31 : decode prog_54_method_4_code 31 = .ok (.invokevirtual 34, 3) := by decide +kernel
theorem pd_2829Ljava2flang2fString3b : parseMethodDescriptor "()Ljava/lang/String;" = some ⟨[], some (.object "java/lang/String")⟩ := by decide +kernel
theorem d9_34 : decode prog_54_method_4_code 34 = .ok (.invokeinterface 16 2, 5) := by decide +kernel
theorem d9_39 : decode prog_54_method_4_code 39 = .ok (.pop, 1) := by decide +kernel
set_option maxRecDepth 65536 in
set_option maxHeartbeats 40000000 in
theorem rmTJ (l : Launch) (Z : State) (a0 : Array Value) (hw : ∀ d ∈ tables_1, d.before a0 Z = true) (ws : List Jvm.Cond) (a1 : Addr) (a2 : Addr) (p3 : Int64) (kc : Int32) (d2 : Addr) (b1 : Addr) (d1 : Addr) (mc : Int32) (k : Int32) (aO : Addr) (aT : Addr) (h0 : Heap) (n0 : Nat) (Z0 : n0 ≤ h0.size) (FE : Fld Z h0 a1 "com/example/vesch/vesch/engine/Trace" "events" "Ljava/util/List;" (.ref b1)) (E_b1 : Exa Z h0 b1 "java/util/ArrayList") (g_b1 : n0 ≤ b1) (F_modCount : Fld Z h0 b1 "java/util/AbstractList" "modCount" "I" (.int mc)) (F_elementData : Fld Z h0 b1 "java/util/ArrayList" "elementData" "[Ljava/lang/Object;" (.ref d1)) (F_size : Fld Z h0 b1 "java/util/ArrayList" "size" "I" (.int k)) (OD : own_OA Z h0 d1 10) (nD : b1 ≠ d1) (gd : n0 ≤ d1) (hj0 : ¬ k < (0 : Int32)) (hj1 : k < (10 : Int32)) (SC : Sta Z h0 "java/lang/String" "COMPACT_STRINGS" "Z" (.int kc)) (hkc : ¬ kc = (0 : Int32)) (ES : Exa Z h0 a2 "java/lang/String") (FC : Fld Z h0 a2 "java/lang/String" "coder" "B" (.int 0)) (FV : Fld Z h0 a2 "java/lang/String" "value" "[B" (.ref d2)) (BS : own_BV Z h0 d2 1) (SO : Sta Z h0 "java/lang/Integer" "DigitOnes" "[B" (.ref aO)) (ST : Sta Z h0 "java/lang/Integer" "DigitTens" "[B" (.ref aT)) (BO : own_BV Z h0 aO 100) (BT : own_BV Z h0 aT 100) :
    MetFree l (⟨"com/example/vesch/vesch/engine/Trace", "add", "(Ljava/lang/String;J)V"⟩ : MethodName) (head1 (Jvm.Cond.code (⟨"com/example/vesch/vesch/engine/Trace", "add", "(Ljava/lang/String;J)V"⟩ : MethodName) prog_54_method_4_code 4 none :: ws) ({ frames := 6, cells := 9, slots := 312, locals := 93 } : Room)) (fun a U => a = #[(.ref a1), (.ref a2), (.long p3)] ∧ Z.Warmed39 U.vm ∧ U.heap = h0 ∧ CHv Z own_EL U.vm h0) (fun _ _ _ _ _ => True) (fun _ U o U' => ∃ v L, o = .returned v ∧ QTJ Z a1 a2 p3 kc d2 b1 d1 mc k aO aT h0 n0 v U'.heap L ∧ CHr Z own_EL U.vm U.heap U'.vm U'.heap ∧ ReturnedEndW U o U' L ({ frames := 6, cells := 9, slots := 312, locals := 93 } : Room).cells ({ frames := 6, cells := 9, slots := 312, locals := 93 } : Room).slots) := by
  refine MetFree.of_bodySF (plainFor_of_name pn_com_example_vesch_vesch_engine_Trace) hisR ?_
  intro p e s m args below meth c s₁ Bd hml0 hP hK
  obtain ⟨rfl, hZ, hh, CH0⟩ := hP
  have hx := Bd.exec
  have hby := Bd.bytes
  have hml : c.maxLocals = 4 := hml0
  have hown : s.vm.findClass "com/example/vesch/vesch/engine/Trace" = some m.cls := findClass_of_methodNamed Bd.named
  have hnm := (name_of_methodNamed Bd.named Bd.method).1
  have X0 : Stand p l e ({ frames := 6, cells := 9, slots := 312, locals := 93 } : Room) s m #[(.ref a1), (.ref a2), (.long p3)] below meth c s₁ [] 0 0 := Stand.of_body Bd
  have e0 : s₁.heap = h0 := by rw [← hh, Bd.state]; rfl
  have N0 := Fr.nil n0
  have pre0 : ∀ tG, Steps p.tables e below (s₁.setTop (mkF m 0 #[.val (.ref a1), .val (.ref a2), .val (.long p3), .second] [])) tG → Steps p.tables e below (s₁.setTop (entryFrame m #[(.ref a1), (.ref a2), (.long p3)] 4)) tG := fun tG kG => castTop (ef_rmTJ m a1 a2 p3) kG
  have hS0 : s.Since s.vm 0 := (State.WarmedH.refl s).since 0
  have hk0 : 0 ≤ h0.size := Nat.zero_le _
  have hs0 : ∀ x ∈ [b1, d1], Safe Z own_EL s.vm h0 x := allS (Safe.exa hZ.alike E_b1 (by decide) (by decide)) (allS (own_OA.safe hZ.alike OD) all0)
  obtain ⟨T638, X638, e638, st638⟩ := getF X0 hx hZ hown (host := "") (Or.inl (own_w hw 9 rfl)) Via.refl e0 FE (g := (mkF m 1 #[.val (.ref a1), .val (.ref a2), .val (.long p3), .second] [(.ref a1)])) rfl rfl (hb hby d9_1)
  obtain ⟨T639, X639, e639, st639⟩ := getF X638 hx hZ hown (host := "") (Or.inl (own_w hw 9 rfl)) Via.refl e638 FE (g := (mkF m 8 #[.val (.ref a1), .val (.ref a2), .val (.long p3), .second] [(.ref a1)])) rfl rfl (hb hby d9_8)
  obtain ⟨T640, h640, X640, e640, E640, A640, D640, -, st640⟩ := newO X639 hx hZ hown (own_w hw 114 rfl) (own_w hw 115 rfl) (own_w hw 116 rfl) e639 (g := (mkF m 11 #[.val (.ref a1), .val (.ref a2), .val (.long p3), .second] [(.ref b1)])) rfl (hb hby d9_11) (by decide) (by decide)
  obtain ⟨b640, g640⟩ : ∃ z, z = h0.size := ⟨_, rfl⟩
  rw [← g640] at A640 D640 st640
  have E640' := E640
  have gg640 : n0 ≤ b640 := Nat.le_trans Z0 (Nat.le_of_eq g640.symm)
  have sz640 : h0.size ≤ b640 := Nat.le_trans (Keep.refl h0 [b1, d1]).1 (Nat.le_of_eq g640.symm)
  have ne641 : b1 ≠ b640 := Nat.ne_of_lt (Nat.lt_of_lt_of_le E_b1.lt (Nat.le_of_eq g640.symm))
  have ne642 : d1 ≠ b640 := Nat.ne_of_lt (Nat.lt_of_lt_of_le OD.lt (Nat.le_of_eq g640.symm))
  have ne643 : a2 ≠ b640 := Nat.ne_of_lt (Nat.lt_of_lt_of_le FC.lt (Nat.le_of_eq g640.symm))
  have ne644 : d2 ≠ b640 := Nat.ne_of_lt (Nat.lt_of_lt_of_le BS.lt (Nat.le_of_eq g640.symm))
  have ne645 : aO ≠ b640 := Nat.ne_of_lt (Nat.lt_of_lt_of_le BO.lt (Nat.le_of_eq g640.symm))
  have ne646 : aT ≠ b640 := Nat.ne_of_lt (Nat.lt_of_lt_of_le BT.lt (Nat.le_of_eq g640.symm))
  have Z640 : n0 ≤ h640.size := Nat.le_trans Z0 E640.1
  have hk640 := Nat.le_trans hk0 E640.1
  have K640 : Keep h0 h640 [b1, d1] := (Keep.refl h0 [b1, d1]).ext E640
  have f647 : Exa Z h640 b1 "java/util/ArrayList" := E_b1.ext E640
  have f648 : Fld Z h640 b1 "java/util/AbstractList" "modCount" "I" (.int mc) := F_modCount.ext E640
  have f649 : Fld Z h640 b1 "java/util/ArrayList" "elementData" "[Ljava/lang/Object;" (.ref d1) := F_elementData.ext E640
  have f650 : Fld Z h640 b1 "java/util/ArrayList" "size" "I" (.int k) := F_size.ext E640
  have f651 : Sta Z h640 "java/lang/String" "COMPACT_STRINGS" "Z" (.int kc) := SC.ext E640
  have f652 : Fld Z h640 a2 "java/lang/String" "coder" "B" (.int 0) := FC.ext E640
  have f653 : Exa Z h640 a2 "java/lang/String" := ES.ext E640
  have f654 : Fld Z h640 a2 "java/lang/String" "value" "[B" (.ref d2) := FV.ext E640
  have f655 : Sta Z h640 "java/lang/Integer" "DigitOnes" "[B" (.ref aO) := SO.ext E640
  have f656 : Sta Z h640 "java/lang/Integer" "DigitTens" "[B" (.ref aT) := ST.ext E640
  have f657 : own_OA Z h640 d1 (10 : Int32) := OD.ext E640
  have f658 : own_BV Z h640 d2 (1 : Int32) := BS.ext E640
  have f659 : own_BV Z h640 aO (100 : Int32) := BO.ext E640
  have f660 : own_BV Z h640 aT (100 : Int32) := BT.ext E640
  have f661 : Fld Z h640 b640 "java/lang/AbstractStringBuilder" "value" "[B" .null := D640 (Or.inl (own_w hw 129 rfl)) (ty := (.array .byte)) (by decide)
  have f662 : Fld Z h640 b640 "java/lang/AbstractStringBuilder" "coder" "B" (.int 0) := D640 (Or.inl (own_w hw 131 rfl)) (ty := .byte) (by decide)
  have f663 : Fld Z h640 b640 "java/lang/AbstractStringBuilder" "count" "I" (.int 0) := D640 (Or.inl (own_w hw 153 rfl)) (ty := .int) (by decide)
  obtain ⟨_, _, ⟨T664, L664, k664, n664⟩, -, X664, ⟨Lc664, hQ664, l664, y664, z664⟩, st664⟩ := X640.specialBack hx (y := (⟨"java/lang/StringBuilder", "<init>", "()V"⟩ : MethodName)) rfl hown (mvT hZ (own_w hw 117 rfl)) (mvT hZ (own_w hw 118 rfl)) (mvT hZ (own_w hw 119 rfl)) (by decide) (backOf (W := 2) (rmSB l Z a0 hw [] b640 kc h640 n0 Z640 A640 gg640 f661 f662 f663 f651 hkc) hZ (own_w hw 119 rfl) (own_w hw 116 rfl) (by decide) (by decide)) (g := (mkF m 15 #[.val (.ref a1), .val (.ref a2), .val (.long p3), .second] [(.ref b640), (.ref b640), (.ref b1)])) rfl (by rw [hml]; rfl) (Steps.refl _) (a := b640) (argsL := []) (rest := [(.ref b640), (.ref b1)]) (lenOf pd_2829V rfl) rfl (by show 2 * 0 + _ ≤ _; exact Nat.le_of_eq rfl) (hb hby d9_15) (fun _ _ => ⟨rfl, e640, (by decide : 1 + 1 ≤ _), (by decide : 4 + 16 ≤ _)⟩)
  dsimp only [Pt.U, Pt.locs, Pt.cells, Pt.slots] at X664 l664 y664 z664 st664 hQ664
  subst l664 y664 z664
  obtain ⟨rfl, N664q, Kq664, c664, lt664, E664x, F664_value, F664_coder, F664_count, BA664⟩ := hQ664
  have gg664_c664 : n0 ≤ c664 := Nat.le_trans Z640 lt664
  have sz664_c664 : h0.size ≤ c664 := Nat.le_trans K640.1 lt664
  have ne665 : b1 ≠ c664 := Nat.ne_of_lt (Nat.lt_of_lt_of_le f647.lt lt664)
  have ne666 : a2 ≠ c664 := Nat.ne_of_lt (Nat.lt_of_lt_of_le f652.lt lt664)
  have ne667 : d1 ≠ c664 := Nat.ne_of_lt (Nat.lt_of_lt_of_le f657.lt lt664)
  have ne668 : d2 ≠ c664 := Nat.ne_of_lt (Nat.lt_of_lt_of_le f658.lt lt664)
  have ne669 : aO ≠ c664 := Nat.ne_of_lt (Nat.lt_of_lt_of_le f659.lt lt664)
  have ne670 : aT ≠ c664 := Nat.ne_of_lt (Nat.lt_of_lt_of_le f660.lt lt664)
  have ne671 : b640 ≠ c664 := Nat.ne_of_lt (Nat.lt_of_lt_of_le A640.lt lt664)
  have N664 := Fr.app N0 N664q
  have Z664 : n0 ≤ T664.heap.size := Nat.le_trans Z640 Kq664.1
  have hk664 := Nat.le_trans hk640 Kq664.1
  have K664 : Keep h0 T664.heap [b1, d1] := K640.trans Kq664 (allS (Or.inr sz640) all0)
  have f672 : Exa Z T664.heap b1 "java/util/ArrayList" := f647.keep Kq664
  have f673 : Fld Z T664.heap b1 "java/util/AbstractList" "modCount" "I" (.int mc) := f648.keep Kq664 (ninS ne641 nin0)
  have f674 : Fld Z T664.heap b1 "java/util/ArrayList" "elementData" "[Ljava/lang/Object;" (.ref d1) := f649.keep Kq664 (ninS ne641 nin0)
  have f675 : Fld Z T664.heap b1 "java/util/ArrayList" "size" "I" (.int k) := f650.keep Kq664 (ninS ne641 nin0)
  have f676 : Sta Z T664.heap "java/lang/String" "COMPACT_STRINGS" "Z" (.int kc) := own_sta_keep f651 Kq664 (nsS A640.nostat ns0)
  have f677 : Fld Z T664.heap a2 "java/lang/String" "coder" "B" (.int 0) := f652.keep Kq664 (ninS ne643 nin0)
  have f678 : Exa Z T664.heap a2 "java/lang/String" := f653.keep Kq664
  have f679 : Fld Z T664.heap a2 "java/lang/String" "value" "[B" (.ref d2) := f654.keep Kq664 (ninS ne643 nin0)
  have f680 : Sta Z T664.heap "java/lang/Integer" "DigitOnes" "[B" (.ref aO) := own_sta_keep f655 Kq664 (nsS A640.nostat ns0)
  have f681 : Sta Z T664.heap "java/lang/Integer" "DigitTens" "[B" (.ref aT) := own_sta_keep f656 Kq664 (nsS A640.nostat ns0)
  have f682 : Exa Z T664.heap b640 "java/lang/StringBuilder" := A640.keep Kq664
  have f686 : own_OA Z T664.heap d1 (10 : Int32) := f657.keep Kq664 (ninS ne642 nin0)
  have f687 : own_BV Z T664.heap d2 (1 : Int32) := f658.keep Kq664 (ninS ne644 nin0)
  have f688 : own_BV Z T664.heap aO (100 : Int32) := f659.keep Kq664 (ninS ne645 nin0)
  have f689 : own_BV Z T664.heap aT (100 : Int32) := f660.keep Kq664 (ninS ne646 nin0)
  have hzI : (16 : Int32).toInt = 16 ∨ (16 : Int32).toInt = 34 := Or.inl (by decide)
  have caI : 0 ≤ (0 : Int32).toInt := by decide
  have cbI : (0 : Int32).toInt ≤ 0 := by decide
  obtain ⟨cq690, kq690, q690a, q690b, q690c⟩ := isOf hZ rfl E664x
  obtain ⟨_, _, ⟨T690, L690, k690, n690⟩, -, X690, ⟨Lc690, hQ690, l690, y690, z690⟩, st690⟩ := X664.virtualBack hx (y := (⟨"java/lang/StringBuilder", "append", "(Ljava/lang/String;)Ljava/lang/StringBuilder;"⟩ : MethodName)) (z := (⟨"java/lang/StringBuilder", "append", "(Ljava/lang/String;)Ljava/lang/StringBuilder;"⟩ : MethodName)) hown (mvT hZ (own_w hw 132 rfl)) (mvT hZ (own_w hw 133 rfl)) (notFace_of_selects (args := #[]) (mvT hZ (own_w hw 135 rfl))) (mvT hZ (own_w hw 135 rfl)) (mvT hZ (own_w hw 134 rfl)) (by decide) (backOf (W := 1) (rmSA l Z a0 hw [] b640 a2 kc c664 d2 (16 : Int32) (0 : Int32) T664.heap n0 Z664 E664x gg640 F664_value F664_coder F664_count BA664 gg664_c664 ne671 f676 hkc f678 f677 f679 f687 hzI caI (by omega) ne643 ne644) hZ (own_w hw 136 rfl) (own_w hw 116 rfl) (by decide) (by decide)) q690a q690c (g := (mkF m 19 #[.val (.ref a1), .val (.ref a2), .val (.long p3), .second] [(.ref a2), (.ref b640), (.ref b1)])) rfl (by rw [hml]; rfl) (Steps.refl _) (argsL := [(.ref a2)]) (rest := [(.ref b1)]) (lenOf pd_28Ljava2flang2fString3b29Ljava2flang2fStringBuilder3b rfl) rfl (by show 2 * 0 + _ ≤ _; exact Nat.le_of_eq rfl) (hb hby d9_19) (fun _ _ => ⟨rfl, rfl, (by decide : 2 + 1 ≤ _), (by decide : 20 + 70 ≤ _)⟩)
  dsimp only [Pt.U, Pt.locs, Pt.cells, Pt.slots] at X690 l690 y690 z690 st690 hQ690
  subst l690 y690 z690
  obtain ⟨rfl, N690q, Kq690, c690, dj690, gd690, nd690, E690x, F690_value, F690_coder, F690_count, BA690⟩ := hQ690
  have sz690_c690 : h0.size ≤ c690 := own_rsz dj690 sz664_c664 K664.1
  have ne691 : b1 ≠ c690 := own_rne dj690 ne665 f672.lt
  have ne692 : b640 ≠ c690 := own_rne dj690 ne671 E664x.lt
  have ne693 : d1 ≠ c690 := own_rne dj690 ne667 f686.lt
  have ne694 : aO ≠ c690 := own_rne dj690 ne669 f688.lt
  have ne695 : aT ≠ c690 := own_rne dj690 ne670 f689.lt
  have N690 := Fr.app N664 N690q
  have Z690 : n0 ≤ T690.heap.size := Nat.le_trans Z664 Kq690.1
  have hk690 := Nat.le_trans hk664 Kq690.1
  have K690 : Keep h0 T690.heap [b1, d1] := K664.trans Kq690 (allS (Or.inr sz640) (allS (Or.inr sz664_c664) all0))
  have f696 : Exa Z T690.heap b1 "java/util/ArrayList" := f672.keep Kq690
  have f697 : Fld Z T690.heap b1 "java/util/AbstractList" "modCount" "I" (.int mc) := f673.keep Kq690 (ninS ne641 (ninS ne665 nin0))
  have f698 : Fld Z T690.heap b1 "java/util/ArrayList" "elementData" "[Ljava/lang/Object;" (.ref d1) := f674.keep Kq690 (ninS ne641 (ninS ne665 nin0))
  have f699 : Fld Z T690.heap b1 "java/util/ArrayList" "size" "I" (.int k) := f675.keep Kq690 (ninS ne641 (ninS ne665 nin0))
  have f700 : Sta Z T690.heap "java/lang/String" "COMPACT_STRINGS" "Z" (.int kc) := own_sta_keep f676 Kq690 (nsS E664x.nostat (nsS BA664.nostat ns0))
  have f701 : Sta Z T690.heap "java/lang/Integer" "DigitOnes" "[B" (.ref aO) := own_sta_keep f680 Kq690 (nsS E664x.nostat (nsS BA664.nostat ns0))
  have f702 : Sta Z T690.heap "java/lang/Integer" "DigitTens" "[B" (.ref aT) := own_sta_keep f681 Kq690 (nsS E664x.nostat (nsS BA664.nostat ns0))
  have f703 : own_OA Z T690.heap d1 (10 : Int32) := f686.keep Kq690 (ninS ne642 (ninS ne667 nin0))
  have f704 : own_BV Z T690.heap aO (100 : Int32) := f688.keep Kq690 (ninS ne645 (ninS ne669 nin0))
  have f705 : own_BV Z T690.heap aT (100 : Int32) := f689.keep Kq690 (ninS ne646 (ninS ne670 nin0))
  have hm690 : ((0 : Int32) + (1 : Int32)).toInt = (0 : Int32).toInt + 1 := own_plus1 caI (by omega)
  have ca690 : 0 ≤ ((0 : Int32) + (1 : Int32)).toInt := by omega
  have cb690 : ((0 : Int32) + (1 : Int32)).toInt ≤ 1 := by omega
  have hz690 : (own_cap (16 : Int32) ((0 : Int32) + (1 : Int32))).toInt = 16 ∨ (own_cap (16 : Int32) ((0 : Int32) + (1 : Int32))).toInt = 34 := own_capB hzI ca690 (by omega)
  have G707 : ∀ tG, Steps p.tables e below (T690.setTop (mkF m 22 #[.val (.ref a1), .val (.ref a2), .val (.long p3), .second] [(.ref b640), (.ref b1)])) tG → Steps p.tables e below (s₁.setTop (mkF m 0 #[.val (.ref a1), .val (.ref a2), .val (.long p3), .second] [])) tG := by
    intro tG kG
    refine own_aloadN X0.here hx (hb hby d9_0) rfl rfl ?_
    refine st638 _ ?_
    show Steps p.tables e below (T638.setTop (mkF m 4 #[.val (.ref a1), .val (.ref a2), .val (.long p3), .second] [(.ref b1)])) _
    refine own_ifnullNo X638.here hx (hb hby d9_4) ?_
    refine own_aloadN X638.here hx (hb hby d9_7) rfl rfl ?_
    refine st639 _ ?_
    show Steps p.tables e below (T639.setTop (mkF m 11 #[.val (.ref a1), .val (.ref a2), .val (.long p3), .second] [(.ref b1)])) _
    refine st640 _ ?_
    show Steps p.tables e below (T640.setTop (mkF m 14 #[.val (.ref a1), .val (.ref a2), .val (.long p3), .second] [(.ref b640), (.ref b1)])) _
    refine own_dup X640.here hx (hb hby d9_14) rfl ?_
    refine st664.trans ?_
    show Steps p.tables e below (T664.setTop (mkF m 18 #[.val (.ref a1), .val (.ref a2), .val (.long p3), .second] [(.ref b640), (.ref b1)])) _
    refine own_aloadN X664.here hx (hb hby d9_18) rfl rfl ?_
    refine st690.trans ?_
    exact kG
  have CB706 := CHv.keep K690 hs0 CH0
  have sd706 := Safe.keep K690 hs0 CH0 (Safe.new sz690_c690)
  have sl706 := BA690.lt
  obtain ⟨b706, T706, h706, kk706, d706, kd706, X706, e706, E706, hS706, hk706, hZ, hown, A706, FC706, FV706, AV706, -, -, CR706, -, NE706, st706⟩ := ldcCH (s := s) (vm0 := s.vm) X690 hx hZ hown (own_w hw 179 rfl) (own_wS hw) rfl hS0 hk690 (own_ew hw) (List.mem_of_getElem? (i := 0) rfl) CB706 (vs := [.int 32]) (z := (1 : Int32)) own_sp (by decide) (by decide) (g := (mkF m 22 #[.val (.ref a1), .val (.ref a2), .val (.long p3), .second] [(.ref b640), (.ref b1)])) rfl (hb hby d9_22) (n := 4) (by decide) (by decide) (by decide : 3 + 2 ≤ _) (by decide : 90 + (4 + 4) ≤ _)
  have Z706 : n0 ≤ h706.size := Nat.le_trans Z690 E706.1
  have CT706 := CHr.trans (CHr.keep K690 hs0 CH0) CR706
  have K706 : Keep h0 h706 [b1, d1] := K690.ext E706
  have f708 : Exa Z h706 b1 "java/util/ArrayList" := f696.ext E706
  have f709 : Fld Z h706 b1 "java/util/AbstractList" "modCount" "I" (.int mc) := f697.ext E706
  have f710 : Fld Z h706 b1 "java/util/ArrayList" "elementData" "[Ljava/lang/Object;" (.ref d1) := f698.ext E706
  have f711 : Fld Z h706 b1 "java/util/ArrayList" "size" "I" (.int k) := f699.ext E706
  have f712 : Sta Z h706 "java/lang/String" "COMPACT_STRINGS" "Z" (.int kc) := f700.ext E706
  have f713 : Sta Z h706 "java/lang/Integer" "DigitOnes" "[B" (.ref aO) := f701.ext E706
  have f714 : Sta Z h706 "java/lang/Integer" "DigitTens" "[B" (.ref aT) := f702.ext E706
  have f715 : Exa Z h706 b640 "java/lang/StringBuilder" := E690x.ext E706
  have f716 : Fld Z h706 b640 "java/lang/AbstractStringBuilder" "value" "[B" (.ref c690) := F690_value.ext E706
  have f717 : Fld Z h706 b640 "java/lang/AbstractStringBuilder" "coder" "B" (.int 0) := F690_coder.ext E706
  have f718 : Fld Z h706 b640 "java/lang/AbstractStringBuilder" "count" "I" (.int ((0 : Int32) + (1 : Int32))) := F690_count.ext E706
  have f719 : own_OA Z h706 d1 (10 : Int32) := f703.ext E706
  have f720 : own_BV Z h706 aO (100 : Int32) := f704.ext E706
  have f721 : own_BV Z h706 aT (100 : Int32) := f705.ext E706
  have f722 : own_BA Z h706 c690 (own_cap (16 : Int32) ((0 : Int32) + (1 : Int32))) := BA690.ext E706
  have hs706 : ∀ x ∈ [b640, c690, b1, d1], Safe Z own_EL T706.vm h706 x := allS (Safe.exa hZ.alike f715 (by decide) (by decide)) (allS (CHr.safe CR706 sl706 sd706) (allS (Safe.exa hZ.alike f708 (by decide) (by decide)) (allS (own_OA.safe hZ.alike f719) all0)))
  have nl706 := NE706 _ (hs706 _ (List.mem_of_getElem? (i := 0) rfl))
  have V706 : own_BV Z h706 d706 1 := ⟨kd706, _, AV706, rfl⟩
  obtain ⟨cq723, kq723, q723a, q723b, q723c⟩ := isOf hZ e706 f715
  obtain ⟨_, _, ⟨T723, L723, k723, n723⟩, -, X723, ⟨Lc723, hQ723, l723, y723, z723⟩, st723⟩ := X706.virtualBack hx (y := (⟨"java/lang/StringBuilder", "append", "(Ljava/lang/String;)Ljava/lang/StringBuilder;"⟩ : MethodName)) (z := (⟨"java/lang/StringBuilder", "append", "(Ljava/lang/String;)Ljava/lang/StringBuilder;"⟩ : MethodName)) hown (mvT hZ (own_w hw 132 rfl)) (mvT hZ (own_w hw 133 rfl)) (notFace_of_selects (args := #[]) (mvT hZ (own_w hw 135 rfl))) (mvT hZ (own_w hw 135 rfl)) (mvT hZ (own_w hw 134 rfl)) (by decide) (backOf (W := 1) (rmSA l Z a0 hw [] b640 b706 kc c690 d706 (own_cap (16 : Int32) ((0 : Int32) + (1 : Int32))) ((0 : Int32) + (1 : Int32)) h706 n0 Z706 f715 gg640 f716 f717 f718 f722 gd690 nd690 f712 hkc A706 FC706 FV706 V706 hz690 ca690 (by omega) (Ne.symm nl706.1) (Ne.symm nl706.2)) hZ (own_w hw 136 rfl) (own_w hw 116 rfl) (by decide) (by decide)) q723a q723c (g := (mkF m 24 #[.val (.ref a1), .val (.ref a2), .val (.long p3), .second] [(.ref b706), (.ref b640), (.ref b1)])) rfl (by rw [hml]; rfl) (Steps.refl _) (argsL := [(.ref b706)]) (rest := [(.ref b1)]) (lenOf pd_28Ljava2flang2fString3b29Ljava2flang2fStringBuilder3b rfl) rfl (by show 2 * 0 + _ ≤ _; exact Nat.le_of_eq rfl) (hb hby d9_24) (fun _ _ => ⟨rfl, e706, (by decide : 5 + 1 ≤ _), (by decide : 98 + 70 ≤ _)⟩)
  dsimp only [Pt.U, Pt.locs, Pt.cells, Pt.slots] at X723 l723 y723 z723 st723 hQ723
  subst l723 y723 z723
  obtain ⟨rfl, N723q, Kq723, c723, dj723, gd723, nd723, E723x, F723_value, F723_coder, F723_count, BA723⟩ := hQ723
  have sz723_c723 : h0.size ≤ c723 := own_rsz dj723 sz690_c690 K706.1
  have sA723_c723 : c723 ∈ [b640, c690, b1, d1] ∨ h706.size ≤ c723 := own_rside dj723 (Or.inl (List.mem_of_getElem? (i := 1) rfl)) (Keep.refl h706 [b640, c690, b1, d1]).1
  have ne724 : b1 ≠ c723 := own_rne dj723 ne691 f708.lt
  have ne725 : b640 ≠ c723 := own_rne dj723 nd690 f715.lt
  have ne726 : d1 ≠ c723 := own_rne dj723 ne693 f719.lt
  have ne727 : aO ≠ c723 := own_rne dj723 ne694 f720.lt
  have ne728 : aT ≠ c723 := own_rne dj723 ne695 f721.lt
  have N723 := Fr.app N690 N723q
  have Z723 : n0 ≤ T723.heap.size := Nat.le_trans Z706 Kq723.1
  have hk723 := Nat.le_trans hk706 Kq723.1
  have K723 : Keep h0 T723.heap [b1, d1] := K706.trans Kq723 (allS (Or.inr sz640) (allS (Or.inr sz690_c690) all0))
  have KA723 : Keep h706 T723.heap [b640, c690, b1, d1] := (Keep.refl h706 [b640, c690, b1, d1]).trans Kq723 (allS (Or.inl (List.mem_of_getElem? (i := 0) rfl)) (allS (Or.inl (List.mem_of_getElem? (i := 1) rfl)) all0))
  have f729 : Exa Z T723.heap b1 "java/util/ArrayList" := f708.keep Kq723
  have f730 : Fld Z T723.heap b1 "java/util/AbstractList" "modCount" "I" (.int mc) := f709.keep Kq723 (ninS ne641 (ninS ne691 nin0))
  have f731 : Fld Z T723.heap b1 "java/util/ArrayList" "elementData" "[Ljava/lang/Object;" (.ref d1) := f710.keep Kq723 (ninS ne641 (ninS ne691 nin0))
  have f732 : Fld Z T723.heap b1 "java/util/ArrayList" "size" "I" (.int k) := f711.keep Kq723 (ninS ne641 (ninS ne691 nin0))
  have f733 : Sta Z T723.heap "java/lang/String" "COMPACT_STRINGS" "Z" (.int kc) := own_sta_keep f712 Kq723 (nsS f715.nostat (nsS f722.nostat ns0))
  have f734 : Sta Z T723.heap "java/lang/Integer" "DigitOnes" "[B" (.ref aO) := own_sta_keep f713 Kq723 (nsS f715.nostat (nsS f722.nostat ns0))
  have f735 : Sta Z T723.heap "java/lang/Integer" "DigitTens" "[B" (.ref aT) := own_sta_keep f714 Kq723 (nsS f715.nostat (nsS f722.nostat ns0))
  have f736 : own_OA Z T723.heap d1 (10 : Int32) := f719.keep Kq723 (ninS ne642 (ninS ne693 nin0))
  have f737 : own_BV Z T723.heap aO (100 : Int32) := f720.keep Kq723 (ninS ne645 (ninS ne694 nin0))
  have f738 : own_BV Z T723.heap aT (100 : Int32) := f721.keep Kq723 (ninS ne646 (ninS ne695 nin0))
  have hm723 : (((0 : Int32) + (1 : Int32)) + (1 : Int32)).toInt = ((0 : Int32) + (1 : Int32)).toInt + 1 := own_plus1 ca690 (by omega)
  have ca723 : 0 ≤ (((0 : Int32) + (1 : Int32)) + (1 : Int32)).toInt := by omega
  have cb723 : (((0 : Int32) + (1 : Int32)) + (1 : Int32)).toInt ≤ 2 := by omega
  have hz723 : (own_cap (own_cap (16 : Int32) ((0 : Int32) + (1 : Int32))) (((0 : Int32) + (1 : Int32)) + (1 : Int32))).toInt = 16 ∨ (own_cap (own_cap (16 : Int32) ((0 : Int32) + (1 : Int32))) (((0 : Int32) + (1 : Int32)) + (1 : Int32))).toInt = 34 := own_capB hz690 ca723 (by omega)
  obtain ⟨cq739, kq739, q739a, q739b, q739c⟩ := isOf hZ rfl E723x
  obtain ⟨_, _, ⟨T739, L739, k739, n739⟩, -, X739, ⟨Lc739, hQ739, l739, y739, z739⟩, st739⟩ := X723.virtualBack hx (y := (⟨"java/lang/StringBuilder", "append", "(J)Ljava/lang/StringBuilder;"⟩ : MethodName)) (z := (⟨"java/lang/StringBuilder", "append", "(J)Ljava/lang/StringBuilder;"⟩ : MethodName)) hown (mvT hZ (own_w hw 182 rfl)) (mvT hZ (own_w hw 183 rfl)) (notFace_of_selects (args := #[]) (mvT hZ (own_w hw 185 rfl))) (mvT hZ (own_w hw 185 rfl)) (mvT hZ (own_w hw 184 rfl)) (by decide) (backOf (W := 1) (rmSJ l Z a0 hw [] b640 p3 kc c723 (own_cap (own_cap (16 : Int32) ((0 : Int32) + (1 : Int32))) (((0 : Int32) + (1 : Int32)) + (1 : Int32))) (((0 : Int32) + (1 : Int32)) + (1 : Int32)) aO aT T723.heap n0 Z723 E723x gg640 F723_value F723_coder F723_count BA723 gd723 nd723 f733 hkc f734 f735 f737 f738 hz723 ca723 (by omega) ne645 ne646 ne727 ne728) hZ (own_w hw 186 rfl) (own_w hw 116 rfl) (by decide) (by decide)) q739a q739c (g := (mkF m 28 #[.val (.ref a1), .val (.ref a2), .val (.long p3), .second] [(.long p3), (.ref b640), (.ref b1)])) rfl (by rw [hml]; rfl) (Steps.refl _) (argsL := [(.long p3)]) (rest := [(.ref b1)]) (lenOf pd_28J29Ljava2flang2fStringBuilder3b rfl) rfl (by show 2 * 0 + _ ≤ _; exact Nat.le_of_eq rfl) (hb hby d9_28) (fun _ _ => ⟨rfl, rfl, (by decide : 6 + 1 ≤ _), (by decide : 168 + 70 ≤ _)⟩)
  dsimp only [Pt.U, Pt.locs, Pt.cells, Pt.slots] at X739 l739 y739 z739 st739 hQ739
  subst l739 y739 z739
  obtain ⟨rfl, N739q, Kq739, k739x, kb739, c739, dj739, gd739, nd739, E739x, F739_value, F739_coder, F739_count, BA739⟩ := hQ739
  have sz739_c739 : h0.size ≤ c739 := own_rsz dj739 sz723_c723 K723.1
  have sA739_c739 : c739 ∈ [b640, c690, b1, d1] ∨ h706.size ≤ c739 := own_rside dj739 sA723_c723 KA723.1
  have ne740 : b1 ≠ c739 := own_rne dj739 ne724 f729.lt
  have ne741 : d1 ≠ c739 := own_rne dj739 ne726 f736.lt
  have ne742 : aO ≠ c739 := own_rne dj739 ne727 f737.lt
  have ne743 : aT ≠ c739 := own_rne dj739 ne728 f738.lt
  have ne744 : b640 ≠ c739 := own_rne dj739 nd723 E723x.lt
  have N739 := Fr.app N723 N739q
  have Z739 : n0 ≤ T739.heap.size := Nat.le_trans Z723 Kq739.1
  have hk739 := Nat.le_trans hk723 Kq739.1
  have K739 : Keep h0 T739.heap [b1, d1] := K723.trans Kq739 (allS (Or.inr sz640) (allS (Or.inr sz723_c723) all0))
  have KA739 : Keep h706 T739.heap [b640, c690, b1, d1] := KA723.trans Kq739 (allS (Or.inl (List.mem_of_getElem? (i := 0) rfl)) (allS sA723_c723 all0))
  have f745 : Exa Z T739.heap b1 "java/util/ArrayList" := f729.keep Kq739
  have f746 : Fld Z T739.heap b1 "java/util/AbstractList" "modCount" "I" (.int mc) := f730.keep Kq739 (ninS ne641 (ninS ne724 nin0))
  have f747 : Fld Z T739.heap b1 "java/util/ArrayList" "elementData" "[Ljava/lang/Object;" (.ref d1) := f731.keep Kq739 (ninS ne641 (ninS ne724 nin0))
  have f748 : Fld Z T739.heap b1 "java/util/ArrayList" "size" "I" (.int k) := f732.keep Kq739 (ninS ne641 (ninS ne724 nin0))
  have f749 : Sta Z T739.heap "java/lang/String" "COMPACT_STRINGS" "Z" (.int kc) := own_sta_keep f733 Kq739 (nsS E723x.nostat (nsS BA723.nostat ns0))
  have f750 : Sta Z T739.heap "java/lang/Integer" "DigitOnes" "[B" (.ref aO) := own_sta_keep f734 Kq739 (nsS E723x.nostat (nsS BA723.nostat ns0))
  have f751 : Sta Z T739.heap "java/lang/Integer" "DigitTens" "[B" (.ref aT) := own_sta_keep f735 Kq739 (nsS E723x.nostat (nsS BA723.nostat ns0))
  have f752 : own_OA Z T739.heap d1 (10 : Int32) := f736.keep Kq739 (ninS ne642 (ninS ne726 nin0))
  have f753 : own_BV Z T739.heap aO (100 : Int32) := f737.keep Kq739 (ninS ne645 (ninS ne727 nin0))
  have f754 : own_BV Z T739.heap aT (100 : Int32) := f738.keep Kq739 (ninS ne646 (ninS ne728 nin0))
  have hm739 : ((((0 : Int32) + (1 : Int32)) + (1 : Int32)) + k739x).toInt = (((0 : Int32) + (1 : Int32)) + (1 : Int32)).toInt + k739x.toInt := own_plusk ca723 (by omega) kb739.1 kb739.2
  have ca739 : 0 ≤ ((((0 : Int32) + (1 : Int32)) + (1 : Int32)) + k739x).toInt := by omega
  have cb739 : ((((0 : Int32) + (1 : Int32)) + (1 : Int32)) + k739x).toInt ≤ 22 := by omega
  have hz739 : (own_cap (own_cap (own_cap (16 : Int32) ((0 : Int32) + (1 : Int32))) (((0 : Int32) + (1 : Int32)) + (1 : Int32))) ((((0 : Int32) + (1 : Int32)) + (1 : Int32)) + k739x)).toInt = 16 ∨ (own_cap (own_cap (own_cap (16 : Int32) ((0 : Int32) + (1 : Int32))) (((0 : Int32) + (1 : Int32)) + (1 : Int32))) ((((0 : Int32) + (1 : Int32)) + (1 : Int32)) + k739x)).toInt = 34 := own_capB hz723 ca739 (by omega)
  obtain ⟨cq755, kq755, q755a, q755b, q755c⟩ := isOf hZ rfl E739x
  obtain ⟨_, _, ⟨T755, L755, k755, n755⟩, -, X755, ⟨Lc755, hQ755, l755, y755, z755⟩, st755⟩ := X739.virtualBack hx (y := (⟨"java/lang/StringBuilder", "toString", "()Ljava/lang/String;"⟩ : MethodName)) (z := (⟨"java/lang/StringBuilder", "toString", "()Ljava/lang/String;"⟩ : MethodName)) hown (mvT hZ (own_w hw 209 rfl)) (mvT hZ (own_w hw 210 rfl)) (notFace_of_selects (args := #[]) (mvT hZ (own_w hw 212 rfl))) (mvT hZ (own_w hw 212 rfl)) (mvT hZ (own_w hw 211 rfl)) (by decide) (backOf (W := 1) (rmTS l Z a0 hw [] b640 kc c739 (own_cap (own_cap (own_cap (16 : Int32) ((0 : Int32) + (1 : Int32))) (((0 : Int32) + (1 : Int32)) + (1 : Int32))) ((((0 : Int32) + (1 : Int32)) + (1 : Int32)) + k739x)) ((((0 : Int32) + (1 : Int32)) + (1 : Int32)) + k739x) T739.heap n0 Z739 E739x gg640 F739_value F739_coder F739_count BA739 gd739 nd739 f749 hkc (own_nn ca739) (own_clampB ca739 (by omega))) hZ (own_w hw 213 rfl) (own_w hw 116 rfl) (by decide) (by decide)) q755a q755c (g := (mkF m 31 #[.val (.ref a1), .val (.ref a2), .val (.long p3), .second] [(.ref b640), (.ref b1)])) rfl (by rw [hml]; rfl) (Steps.refl _) (argsL := []) (rest := [(.ref b1)]) (lenOf pd_2829Ljava2flang2fString3b rfl) rfl (by show 2 * 0 + _ ≤ _; exact Nat.le_of_eq rfl) (hb hby d9_31) (fun _ _ => ⟨rfl, rfl, (by decide : 7 + 2 ≤ _), (by decide : 238 + 74 ≤ _)⟩)
  dsimp only [Pt.U, Pt.locs, Pt.cells, Pt.slots] at X755 l755 y755 z755 st755 hQ755
  subst l755 y755 z755
  obtain ⟨c755, rfl, N755q, Kq755, lt755, E755x⟩ := hQ755
  have gg755_c755 : n0 ≤ c755 := Nat.le_trans Z739 lt755
  have sz755_c755 : h0.size ≤ c755 := Nat.le_trans K739.1 lt755
  have sA755_c755 : c755 ∈ [b640, c690, b1, d1] ∨ h706.size ≤ c755 := Or.inr (Nat.le_trans KA739.1 lt755)
  have ne756 : b1 ≠ c755 := Nat.ne_of_lt (Nat.lt_of_lt_of_le f745.lt lt755)
  have ne757 : d1 ≠ c755 := Nat.ne_of_lt (Nat.lt_of_lt_of_le f752.lt lt755)
  have N755 := Fr.app N739 N755q
  have Z755 : n0 ≤ T755.heap.size := Nat.le_trans Z739 Kq755.1
  have hk755 := Nat.le_trans hk739 Kq755.1
  have K755 : Keep h0 T755.heap [b1, d1] := K739.trans Kq755 all0
  have KA755 : Keep h706 T755.heap [b640, c690, b1, d1] := KA739.trans Kq755 all0
  have f758 : Exa Z T755.heap b1 "java/util/ArrayList" := f745.keep Kq755
  have f759 : Fld Z T755.heap b1 "java/util/AbstractList" "modCount" "I" (.int mc) := f746.keep Kq755 nin0
  have f760 : Fld Z T755.heap b1 "java/util/ArrayList" "elementData" "[Ljava/lang/Object;" (.ref d1) := f747.keep Kq755 nin0
  have f761 : Fld Z T755.heap b1 "java/util/ArrayList" "size" "I" (.int k) := f748.keep Kq755 nin0
  have f762 : own_OA Z T755.heap d1 (10 : Int32) := f752.keep Kq755 nin0
  obtain ⟨cq763, kq763, q763a, q763b, q763c⟩ := isOf hZ rfl f758
  obtain ⟨_, _, ⟨T763, L763, k763, n763⟩, -, X763, ⟨Lc763, hQ763, l763, y763, z763⟩, st763⟩ := X755.interfaceBack hx (xi := (⟨"java/util/List", "add", "(Ljava/lang/Object;)Z"⟩ : MethodName)) (y := (⟨"java/util/ArrayList", "add", "(Ljava/lang/Object;)Z"⟩ : MethodName)) hown (mvT hZ (own_w hw 79 rfl)) (mvT hZ (own_w hw 80 rfl)) (mvT hZ (own_w hw 81 rfl)) (mvT hZ (own_w hw 82 rfl)) (mvT hZ (own_w hw 83 rfl)) (mvT hZ (own_w hw 84 rfl)) (mvT hZ (own_w hw 85 rfl)) (mvT hZ (own_w hw 86 rfl)) (by decide) (backOf (W := 0) (rmA1R l Z a0 hw [] b1 c755 d1 mc k T755.heap n0 Z755 f758 g_b1 f759 f760 f761 f762 nD gd E755x hj0 hj1) hZ (own_w hw 87 rfl) (own_w hw 57 rfl) (by decide) (by decide)) q763a q763b q763c (g := (mkF m 34 #[.val (.ref a1), .val (.ref a2), .val (.long p3), .second] [(.ref c755), (.ref b1)])) rfl (by rw [hml]; rfl) (Steps.refl _) (argsL := [(.ref c755)]) (rest := []) (lenOf pd_28Ljava2flang2fObject3b29Z rfl) rfl (by show 2 * 0 + _ ≤ _; exact Nat.le_of_eq rfl) (hb hby d9_34) (fun _ _ => ⟨rfl, rfl, (by decide : 9 + 0 ≤ _), (by decide : 312 + 0 ≤ _)⟩)
  dsimp only [Pt.U, Pt.locs, Pt.cells, Pt.slots] at X763 l763 y763 z763 st763 hQ763
  subst l763 y763 z763
  obtain ⟨rfl, N763q, Kq763, OA763, E763x, F763_modCount, F763_elementData, F763_size⟩ := hQ763
  have N763 := Fr.app N755 N763q
  have Z763 : n0 ≤ T763.heap.size := Nat.le_trans Z755 Kq763.1
  have hk763 := Nat.le_trans hk755 Kq763.1
  have K763 : Keep h0 T763.heap [b1, d1] := K755.trans Kq763 (allS (Or.inl (List.mem_of_getElem? (i := 0) rfl)) (allS (Or.inl (List.mem_of_getElem? (i := 1) rfl)) all0))
  have KA763 : Keep h706 T763.heap [b640, c690, b1, d1] := KA755.trans Kq763 (allS (Or.inl (List.mem_of_getElem? (i := 2) rfl)) (allS (Or.inl (List.mem_of_getElem? (i := 3) rfl)) all0))
  have f764 : Exa Z T763.heap b1 "java/util/ArrayList" := f758.keep Kq763
  have f768 : Exa Z T763.heap c755 "java/lang/String" := E755x.keep Kq763
  obtain ⟨fs, hr, hrun, hended, hW⟩ := Stand.leaveW (s := s) (vm₁ := T706.vm) X763 hS706 hk763 (v := none) (fun _ => rfl)
  refine ⟨_, _, pre0 _ ?_, hrun, hended, _, _, rfl, ?_, ?_, hW.1, hW.2.1, hW.2.2.1, hW.2.2.2.mono (by decide) (by decide)⟩
  · refine G707 _ ?_
    refine st706 _ ?_
    show Steps p.tables e below (T706.setTop (mkF m 24 #[.val (.ref a1), .val (.ref a2), .val (.long p3), .second] [(.ref b706), (.ref b640), (.ref b1)])) _
    refine st723.trans ?_
    show Steps p.tables e below (T723.setTop (mkF m 27 #[.val (.ref a1), .val (.ref a2), .val (.long p3), .second] [(.ref b640), (.ref b1)])) _
    refine own_lloadN X723.here hx (hb hby d9_27) rfl ?_
    refine st739.trans ?_
    show Steps p.tables e below (T739.setTop (mkF m 31 #[.val (.ref a1), .val (.ref a2), .val (.long p3), .second] [(.ref b640), (.ref b1)])) _
    refine st755.trans ?_
    show Steps p.tables e below (T755.setTop (mkF m 34 #[.val (.ref a1), .val (.ref a2), .val (.long p3), .second] [(.ref c755), (.ref b1)])) _
    refine st763.trans ?_
    show Steps p.tables e below (T763.setTop (mkF m 39 #[.val (.ref a1), .val (.ref a2), .val (.long p3), .second] [(.int 1)])) _
    refine own_pop X763.here hx (hb hby d9_39) rfl ?_
    exact X763.returnOut hx Bd.returns (hb hby d9_40) hr
  · show QTJ Z a1 a2 p3 kc d2 b1 d1 mc k aO aT h0 n0 _ T763.heap _
    exact ⟨rfl, N763, K763, OA763, E763x, F763_modCount, F763_elementData, F763_size⟩
  · show CHr Z own_EL s.vm s.heap T763.vm T763.heap
    rw [hh]
    have CL := CHr.trans CT706 (CHr.keep KA763 hs706 CR706.1)
    exact CHr.trans CL (CHv.at (s := s) (vm0 := T706.vm) X763 hZ (own_ew hw) CL.1)
theorem ef_rmTK (m : MethodId) (x0 : Addr) (x1 : Addr) (x2 : Int64) (x3 : Int64) : entryFrame m #[(.ref x0), (.ref x1), (.long x2), (.long x3)] 6 = mkF m 0 #[.val (.ref x0), .val (.ref x1), .val (.long x2), .second, .val (.long x3), .second] [] := by first | (simp [entryFrame, mkF, argsToLocals, Value.category]; done) | rfl
def QTK (Z : State) (a1 : Addr) (a2 : Addr) (p3 : Int64) (p4 : Int64) (kc : Int32) (d2 : Addr) (b1 : Addr) (d1 : Addr) (mc : Int32) (k : Int32) (aO : Addr) (aT : Addr) (h0 : Heap) (n0 : Nat) (v : Option Value) (h : Heap) (L : List Loc) : Prop := v = none ∧ Fr n0 L ∧ Keep h0 h [b1, d1] ∧ own_OA Z h d1 10 ∧ Exa Z h b1 "java/util/ArrayList" ∧ Fld Z h b1 "java/util/AbstractList" "modCount" "I" (.int (mc + (1 : Int32))) ∧ Fld Z h b1 "java/util/ArrayList" "elementData" "[Ljava/lang/Object;" (.ref d1) ∧ Fld Z h b1 "java/util/ArrayList" "size" "I" (.int (k + (1 : Int32)))
theorem d10_7 : decode prog_54_method_5_code 7 = .ok (.aload_n 0, 1) := by decide +kernel
theorem d10_8 : decode prog_54_method_5_code 8 = .ok (.getfield 10, 3) := by decide +kernel
theorem d10_11 : decode prog_54_method_5_code 11 = .ok (.new 22, 3) := by decide +kernel
theorem d10_14 : decode prog_54_method_5_code 14 = .ok (.dup, 1) := by decide +kernel
theorem d10_15 : decode prog_54_method_5_code 15 = .ok (.invokespecial 24, 3) := by decide +kernel
theorem d10_18 : decode prog_54_method_5_code 18 = .ok (.aload_n 1, 1) := by decide +kernel
theorem d10_19 : decode prog_54_method_5_code 19 = .ok (.invokevirtual 25, 3) := by decide +kernel
theorem d10_22 : decode prog_54_method_5_code 22 = .ok (.ldc 29, 2) := by decide +kernel
theorem d10_24 : decode prog_54_method_5_code 24 = .ok (.invokevirtual 25, 3) := by decide +kernel
theorem d10_27 : decode prog_54_method_5_code 27 = .ok (.lload_n 2, 1) := by decide +kernel
theorem d10_28 : decode prog_54_method_5_code 28 = .ok (.invokevirtual 31, 3) := by decide +kernel
theorem d10_31 : decode prog_54_method_5_code 31 = .ok (.ldc 29, 2) := by decide +kernel
theorem d10_33 : decode prog_54_method_5_code 33 = .ok (.invokevirtual 25, 3) := by decide +kernel
theorem d10_36 : decode prog_54_method_5_code 36 = .ok (.lload 4, 2) := by decide +kernel
theorem d10_38 : decode prog_54_method_5_code 38 = .ok (.invokevirtual 31, 3) := by decide +kernel
theorem d10_41 : decode prog_54_method_5_code 41 = .ok (.invokevirtual 34, 3) := by decide +kernel
theorem d10_44 : decode prog_54_method_5_code 44 = .ok (.invokeinterface 16 2, 5) := by decide +kernel
theorem d10_49 : decode prog_54_method_5_code 49 = .ok (.pop, 1) := by decide +kernel
set_option maxRecDepth 65536 in
set_option maxHeartbeats 40000000 in
theorem rmTK (l : Launch) (Z : State) (a0 : Array Value) (hw : ∀ d ∈ tables_1, d.before a0 Z = true) (ws : List Jvm.Cond) (a1 : Addr) (a2 : Addr) (p3 : Int64) (p4 : Int64) (kc : Int32) (d2 : Addr) (b1 : Addr) (d1 : Addr) (mc : Int32) (k : Int32) (aO : Addr) (aT : Addr) (h0 : Heap) (n0 : Nat) (Z0 : n0 ≤ h0.size) (FE : Fld Z h0 a1 "com/example/vesch/vesch/engine/Trace" "events" "Ljava/util/List;" (.ref b1)) (E_b1 : Exa Z h0 b1 "java/util/ArrayList") (g_b1 : n0 ≤ b1) (F_modCount : Fld Z h0 b1 "java/util/AbstractList" "modCount" "I" (.int mc)) (F_elementData : Fld Z h0 b1 "java/util/ArrayList" "elementData" "[Ljava/lang/Object;" (.ref d1)) (F_size : Fld Z h0 b1 "java/util/ArrayList" "size" "I" (.int k)) (OD : own_OA Z h0 d1 10) (nD : b1 ≠ d1) (gd : n0 ≤ d1) (hj0 : ¬ k < (0 : Int32)) (hj1 : k < (10 : Int32)) (SC : Sta Z h0 "java/lang/String" "COMPACT_STRINGS" "Z" (.int kc)) (hkc : ¬ kc = (0 : Int32)) (ES : Exa Z h0 a2 "java/lang/String") (FC : Fld Z h0 a2 "java/lang/String" "coder" "B" (.int 0)) (FV : Fld Z h0 a2 "java/lang/String" "value" "[B" (.ref d2)) (BS : own_BV Z h0 d2 1) (SO : Sta Z h0 "java/lang/Integer" "DigitOnes" "[B" (.ref aO)) (ST : Sta Z h0 "java/lang/Integer" "DigitTens" "[B" (.ref aT)) (BO : own_BV Z h0 aO 100) (BT : own_BV Z h0 aT 100) :
    MetFree l (⟨"com/example/vesch/vesch/engine/Trace", "add", "(Ljava/lang/String;JJ)V"⟩ : MethodName) (head1 (Jvm.Cond.code (⟨"com/example/vesch/vesch/engine/Trace", "add", "(Ljava/lang/String;JJ)V"⟩ : MethodName) prog_54_method_5_code 6 none :: ws) ({ frames := 6, cells := 13, slots := 460, locals := 93 } : Room)) (fun a U => a = #[(.ref a1), (.ref a2), (.long p3), (.long p4)] ∧ Z.Warmed39 U.vm ∧ U.heap = h0 ∧ CHv Z own_EL U.vm h0) (fun _ _ _ _ _ => True) (fun _ U o U' => ∃ v L, o = .returned v ∧ QTK Z a1 a2 p3 p4 kc d2 b1 d1 mc k aO aT h0 n0 v U'.heap L ∧ CHr Z own_EL U.vm U.heap U'.vm U'.heap ∧ ReturnedEndW U o U' L ({ frames := 6, cells := 13, slots := 460, locals := 93 } : Room).cells ({ frames := 6, cells := 13, slots := 460, locals := 93 } : Room).slots) := by
  refine MetFree.of_bodySF (plainFor_of_name pn_com_example_vesch_vesch_engine_Trace) hisR ?_
  intro p e s m args below meth c s₁ Bd hml0 hP hK
  obtain ⟨rfl, hZ, hh, CH0⟩ := hP
  have hx := Bd.exec
  have hby := Bd.bytes
  have hml : c.maxLocals = 6 := hml0
  have hown : s.vm.findClass "com/example/vesch/vesch/engine/Trace" = some m.cls := findClass_of_methodNamed Bd.named
  have hnm := (name_of_methodNamed Bd.named Bd.method).1
  have X0 : Stand p l e ({ frames := 6, cells := 13, slots := 460, locals := 93 } : Room) s m #[(.ref a1), (.ref a2), (.long p3), (.long p4)] below meth c s₁ [] 0 0 := Stand.of_body Bd
  have e0 : s₁.heap = h0 := by rw [← hh, Bd.state]; rfl
  have N0 := Fr.nil n0
  have pre0 : ∀ tG, Steps p.tables e below (s₁.setTop (mkF m 0 #[.val (.ref a1), .val (.ref a2), .val (.long p3), .second, .val (.long p4), .second] [])) tG → Steps p.tables e below (s₁.setTop (entryFrame m #[(.ref a1), (.ref a2), (.long p3), (.long p4)] 6)) tG := fun tG kG => castTop (ef_rmTK m a1 a2 p3 p4) kG
  have hS0 : s.Since s.vm 0 := (State.WarmedH.refl s).since 0
  have hk0 : 0 ≤ h0.size := Nat.zero_le _
  have hs0 : ∀ x ∈ [b1, d1], Safe Z own_EL s.vm h0 x := allS (Safe.exa hZ.alike E_b1 (by decide) (by decide)) (allS (own_OA.safe hZ.alike OD) all0)
  obtain ⟨T770, X770, e770, st770⟩ := getF X0 hx hZ hown (host := "") (Or.inl (own_w hw 9 rfl)) Via.refl e0 FE (g := (mkF m 1 #[.val (.ref a1), .val (.ref a2), .val (.long p3), .second, .val (.long p4), .second] [(.ref a1)])) rfl rfl (hb hby d10_1)
  obtain ⟨T771, X771, e771, st771⟩ := getF X770 hx hZ hown (host := "") (Or.inl (own_w hw 9 rfl)) Via.refl e770 FE (g := (mkF m 8 #[.val (.ref a1), .val (.ref a2), .val (.long p3), .second, .val (.long p4), .second] [(.ref a1)])) rfl rfl (hb hby d10_8)
  obtain ⟨T772, h772, X772, e772, E772, A772, D772, -, st772⟩ := newO X771 hx hZ hown (own_w hw 114 rfl) (own_w hw 115 rfl) (own_w hw 116 rfl) e771 (g := (mkF m 11 #[.val (.ref a1), .val (.ref a2), .val (.long p3), .second, .val (.long p4), .second] [(.ref b1)])) rfl (hb hby d10_11) (by decide) (by decide)
  obtain ⟨b772, g772⟩ : ∃ z, z = h0.size := ⟨_, rfl⟩
  rw [← g772] at A772 D772 st772
  have E772' := E772
  have gg772 : n0 ≤ b772 := Nat.le_trans Z0 (Nat.le_of_eq g772.symm)
  have sz772 : h0.size ≤ b772 := Nat.le_trans (Keep.refl h0 [b1, d1]).1 (Nat.le_of_eq g772.symm)
  have ne773 : b1 ≠ b772 := Nat.ne_of_lt (Nat.lt_of_lt_of_le E_b1.lt (Nat.le_of_eq g772.symm))
  have ne774 : d1 ≠ b772 := Nat.ne_of_lt (Nat.lt_of_lt_of_le OD.lt (Nat.le_of_eq g772.symm))
  have ne775 : a2 ≠ b772 := Nat.ne_of_lt (Nat.lt_of_lt_of_le FC.lt (Nat.le_of_eq g772.symm))
  have ne776 : d2 ≠ b772 := Nat.ne_of_lt (Nat.lt_of_lt_of_le BS.lt (Nat.le_of_eq g772.symm))
  have ne777 : aO ≠ b772 := Nat.ne_of_lt (Nat.lt_of_lt_of_le BO.lt (Nat.le_of_eq g772.symm))
  have ne778 : aT ≠ b772 := Nat.ne_of_lt (Nat.lt_of_lt_of_le BT.lt (Nat.le_of_eq g772.symm))
  have Z772 : n0 ≤ h772.size := Nat.le_trans Z0 E772.1
  have hk772 := Nat.le_trans hk0 E772.1
  have K772 : Keep h0 h772 [b1, d1] := (Keep.refl h0 [b1, d1]).ext E772
  have f779 : Exa Z h772 b1 "java/util/ArrayList" := E_b1.ext E772
  have f780 : Fld Z h772 b1 "java/util/AbstractList" "modCount" "I" (.int mc) := F_modCount.ext E772
  have f781 : Fld Z h772 b1 "java/util/ArrayList" "elementData" "[Ljava/lang/Object;" (.ref d1) := F_elementData.ext E772
  have f782 : Fld Z h772 b1 "java/util/ArrayList" "size" "I" (.int k) := F_size.ext E772
  have f783 : Sta Z h772 "java/lang/String" "COMPACT_STRINGS" "Z" (.int kc) := SC.ext E772
  have f784 : Fld Z h772 a2 "java/lang/String" "coder" "B" (.int 0) := FC.ext E772
  have f785 : Exa Z h772 a2 "java/lang/String" := ES.ext E772
  have f786 : Fld Z h772 a2 "java/lang/String" "value" "[B" (.ref d2) := FV.ext E772
  have f787 : Sta Z h772 "java/lang/Integer" "DigitOnes" "[B" (.ref aO) := SO.ext E772
  have f788 : Sta Z h772 "java/lang/Integer" "DigitTens" "[B" (.ref aT) := ST.ext E772
  have f789 : own_OA Z h772 d1 (10 : Int32) := OD.ext E772
  have f790 : own_BV Z h772 d2 (1 : Int32) := BS.ext E772
  have f791 : own_BV Z h772 aO (100 : Int32) := BO.ext E772
  have f792 : own_BV Z h772 aT (100 : Int32) := BT.ext E772
  have f793 : Fld Z h772 b772 "java/lang/AbstractStringBuilder" "value" "[B" .null := D772 (Or.inl (own_w hw 129 rfl)) (ty := (.array .byte)) (by decide)
  have f794 : Fld Z h772 b772 "java/lang/AbstractStringBuilder" "coder" "B" (.int 0) := D772 (Or.inl (own_w hw 131 rfl)) (ty := .byte) (by decide)
  have f795 : Fld Z h772 b772 "java/lang/AbstractStringBuilder" "count" "I" (.int 0) := D772 (Or.inl (own_w hw 153 rfl)) (ty := .int) (by decide)
  obtain ⟨_, _, ⟨T796, L796, k796, n796⟩, -, X796, ⟨Lc796, hQ796, l796, y796, z796⟩, st796⟩ := X772.specialBack hx (y := (⟨"java/lang/StringBuilder", "<init>", "()V"⟩ : MethodName)) rfl hown (mvT hZ (own_w hw 117 rfl)) (mvT hZ (own_w hw 118 rfl)) (mvT hZ (own_w hw 119 rfl)) (by decide) (backOf (W := 2) (rmSB l Z a0 hw [] b772 kc h772 n0 Z772 A772 gg772 f793 f794 f795 f783 hkc) hZ (own_w hw 119 rfl) (own_w hw 116 rfl) (by decide) (by decide)) (g := (mkF m 15 #[.val (.ref a1), .val (.ref a2), .val (.long p3), .second, .val (.long p4), .second] [(.ref b772), (.ref b772), (.ref b1)])) rfl (by rw [hml]; rfl) (Steps.refl _) (a := b772) (argsL := []) (rest := [(.ref b772), (.ref b1)]) (lenOf pd_2829V rfl) rfl (by show 2 * 0 + _ ≤ _; exact Nat.le_of_eq rfl) (hb hby d10_15) (fun _ _ => ⟨rfl, e772, (by decide : 1 + 1 ≤ _), (by decide : 4 + 16 ≤ _)⟩)
  dsimp only [Pt.U, Pt.locs, Pt.cells, Pt.slots] at X796 l796 y796 z796 st796 hQ796
  subst l796 y796 z796
  obtain ⟨rfl, N796q, Kq796, c796, lt796, E796x, F796_value, F796_coder, F796_count, BA796⟩ := hQ796
  have gg796_c796 : n0 ≤ c796 := Nat.le_trans Z772 lt796
  have sz796_c796 : h0.size ≤ c796 := Nat.le_trans K772.1 lt796
  have ne797 : b1 ≠ c796 := Nat.ne_of_lt (Nat.lt_of_lt_of_le f779.lt lt796)
  have ne798 : a2 ≠ c796 := Nat.ne_of_lt (Nat.lt_of_lt_of_le f784.lt lt796)
  have ne799 : d1 ≠ c796 := Nat.ne_of_lt (Nat.lt_of_lt_of_le f789.lt lt796)
  have ne800 : d2 ≠ c796 := Nat.ne_of_lt (Nat.lt_of_lt_of_le f790.lt lt796)
  have ne801 : aO ≠ c796 := Nat.ne_of_lt (Nat.lt_of_lt_of_le f791.lt lt796)
  have ne802 : aT ≠ c796 := Nat.ne_of_lt (Nat.lt_of_lt_of_le f792.lt lt796)
  have ne803 : b772 ≠ c796 := Nat.ne_of_lt (Nat.lt_of_lt_of_le A772.lt lt796)
  have N796 := Fr.app N0 N796q
  have Z796 : n0 ≤ T796.heap.size := Nat.le_trans Z772 Kq796.1
  have hk796 := Nat.le_trans hk772 Kq796.1
  have K796 : Keep h0 T796.heap [b1, d1] := K772.trans Kq796 (allS (Or.inr sz772) all0)
  have f804 : Exa Z T796.heap b1 "java/util/ArrayList" := f779.keep Kq796
  have f805 : Fld Z T796.heap b1 "java/util/AbstractList" "modCount" "I" (.int mc) := f780.keep Kq796 (ninS ne773 nin0)
  have f806 : Fld Z T796.heap b1 "java/util/ArrayList" "elementData" "[Ljava/lang/Object;" (.ref d1) := f781.keep Kq796 (ninS ne773 nin0)
  have f807 : Fld Z T796.heap b1 "java/util/ArrayList" "size" "I" (.int k) := f782.keep Kq796 (ninS ne773 nin0)
  have f808 : Sta Z T796.heap "java/lang/String" "COMPACT_STRINGS" "Z" (.int kc) := own_sta_keep f783 Kq796 (nsS A772.nostat ns0)
  have f809 : Fld Z T796.heap a2 "java/lang/String" "coder" "B" (.int 0) := f784.keep Kq796 (ninS ne775 nin0)
  have f810 : Exa Z T796.heap a2 "java/lang/String" := f785.keep Kq796
  have f811 : Fld Z T796.heap a2 "java/lang/String" "value" "[B" (.ref d2) := f786.keep Kq796 (ninS ne775 nin0)
  have f812 : Sta Z T796.heap "java/lang/Integer" "DigitOnes" "[B" (.ref aO) := own_sta_keep f787 Kq796 (nsS A772.nostat ns0)
  have f813 : Sta Z T796.heap "java/lang/Integer" "DigitTens" "[B" (.ref aT) := own_sta_keep f788 Kq796 (nsS A772.nostat ns0)
  have f814 : Exa Z T796.heap b772 "java/lang/StringBuilder" := A772.keep Kq796
  have f818 : own_OA Z T796.heap d1 (10 : Int32) := f789.keep Kq796 (ninS ne774 nin0)
  have f819 : own_BV Z T796.heap d2 (1 : Int32) := f790.keep Kq796 (ninS ne776 nin0)
  have f820 : own_BV Z T796.heap aO (100 : Int32) := f791.keep Kq796 (ninS ne777 nin0)
  have f821 : own_BV Z T796.heap aT (100 : Int32) := f792.keep Kq796 (ninS ne778 nin0)
  have hzI : (16 : Int32).toInt = 16 ∨ (16 : Int32).toInt = 34 := Or.inl (by decide)
  have caI : 0 ≤ (0 : Int32).toInt := by decide
  have cbI : (0 : Int32).toInt ≤ 0 := by decide
  obtain ⟨cq822, kq822, q822a, q822b, q822c⟩ := isOf hZ rfl E796x
  obtain ⟨_, _, ⟨T822, L822, k822, n822⟩, -, X822, ⟨Lc822, hQ822, l822, y822, z822⟩, st822⟩ := X796.virtualBack hx (y := (⟨"java/lang/StringBuilder", "append", "(Ljava/lang/String;)Ljava/lang/StringBuilder;"⟩ : MethodName)) (z := (⟨"java/lang/StringBuilder", "append", "(Ljava/lang/String;)Ljava/lang/StringBuilder;"⟩ : MethodName)) hown (mvT hZ (own_w hw 132 rfl)) (mvT hZ (own_w hw 133 rfl)) (notFace_of_selects (args := #[]) (mvT hZ (own_w hw 135 rfl))) (mvT hZ (own_w hw 135 rfl)) (mvT hZ (own_w hw 134 rfl)) (by decide) (backOf (W := 1) (rmSA l Z a0 hw [] b772 a2 kc c796 d2 (16 : Int32) (0 : Int32) T796.heap n0 Z796 E796x gg772 F796_value F796_coder F796_count BA796 gg796_c796 ne803 f808 hkc f810 f809 f811 f819 hzI caI (by omega) ne775 ne776) hZ (own_w hw 136 rfl) (own_w hw 116 rfl) (by decide) (by decide)) q822a q822c (g := (mkF m 19 #[.val (.ref a1), .val (.ref a2), .val (.long p3), .second, .val (.long p4), .second] [(.ref a2), (.ref b772), (.ref b1)])) rfl (by rw [hml]; rfl) (Steps.refl _) (argsL := [(.ref a2)]) (rest := [(.ref b1)]) (lenOf pd_28Ljava2flang2fString3b29Ljava2flang2fStringBuilder3b rfl) rfl (by show 2 * 0 + _ ≤ _; exact Nat.le_of_eq rfl) (hb hby d10_19) (fun _ _ => ⟨rfl, rfl, (by decide : 2 + 1 ≤ _), (by decide : 20 + 70 ≤ _)⟩)
  dsimp only [Pt.U, Pt.locs, Pt.cells, Pt.slots] at X822 l822 y822 z822 st822 hQ822
  subst l822 y822 z822
  obtain ⟨rfl, N822q, Kq822, c822, dj822, gd822, nd822, E822x, F822_value, F822_coder, F822_count, BA822⟩ := hQ822
  have sz822_c822 : h0.size ≤ c822 := own_rsz dj822 sz796_c796 K796.1
  have ne823 : b1 ≠ c822 := own_rne dj822 ne797 f804.lt
  have ne824 : b772 ≠ c822 := own_rne dj822 ne803 E796x.lt
  have ne825 : d1 ≠ c822 := own_rne dj822 ne799 f818.lt
  have ne826 : aO ≠ c822 := own_rne dj822 ne801 f820.lt
  have ne827 : aT ≠ c822 := own_rne dj822 ne802 f821.lt
  have N822 := Fr.app N796 N822q
  have Z822 : n0 ≤ T822.heap.size := Nat.le_trans Z796 Kq822.1
  have hk822 := Nat.le_trans hk796 Kq822.1
  have K822 : Keep h0 T822.heap [b1, d1] := K796.trans Kq822 (allS (Or.inr sz772) (allS (Or.inr sz796_c796) all0))
  have f828 : Exa Z T822.heap b1 "java/util/ArrayList" := f804.keep Kq822
  have f829 : Fld Z T822.heap b1 "java/util/AbstractList" "modCount" "I" (.int mc) := f805.keep Kq822 (ninS ne773 (ninS ne797 nin0))
  have f830 : Fld Z T822.heap b1 "java/util/ArrayList" "elementData" "[Ljava/lang/Object;" (.ref d1) := f806.keep Kq822 (ninS ne773 (ninS ne797 nin0))
  have f831 : Fld Z T822.heap b1 "java/util/ArrayList" "size" "I" (.int k) := f807.keep Kq822 (ninS ne773 (ninS ne797 nin0))
  have f832 : Sta Z T822.heap "java/lang/String" "COMPACT_STRINGS" "Z" (.int kc) := own_sta_keep f808 Kq822 (nsS E796x.nostat (nsS BA796.nostat ns0))
  have f833 : Sta Z T822.heap "java/lang/Integer" "DigitOnes" "[B" (.ref aO) := own_sta_keep f812 Kq822 (nsS E796x.nostat (nsS BA796.nostat ns0))
  have f834 : Sta Z T822.heap "java/lang/Integer" "DigitTens" "[B" (.ref aT) := own_sta_keep f813 Kq822 (nsS E796x.nostat (nsS BA796.nostat ns0))
  have f835 : own_OA Z T822.heap d1 (10 : Int32) := f818.keep Kq822 (ninS ne774 (ninS ne799 nin0))
  have f836 : own_BV Z T822.heap aO (100 : Int32) := f820.keep Kq822 (ninS ne777 (ninS ne801 nin0))
  have f837 : own_BV Z T822.heap aT (100 : Int32) := f821.keep Kq822 (ninS ne778 (ninS ne802 nin0))
  have hm822 : ((0 : Int32) + (1 : Int32)).toInt = (0 : Int32).toInt + 1 := own_plus1 caI (by omega)
  have ca822 : 0 ≤ ((0 : Int32) + (1 : Int32)).toInt := by omega
  have cb822 : ((0 : Int32) + (1 : Int32)).toInt ≤ 1 := by omega
  have hz822 : (own_cap (16 : Int32) ((0 : Int32) + (1 : Int32))).toInt = 16 ∨ (own_cap (16 : Int32) ((0 : Int32) + (1 : Int32))).toInt = 34 := own_capB hzI ca822 (by omega)
  have G839 : ∀ tG, Steps p.tables e below (T822.setTop (mkF m 22 #[.val (.ref a1), .val (.ref a2), .val (.long p3), .second, .val (.long p4), .second] [(.ref b772), (.ref b1)])) tG → Steps p.tables e below (s₁.setTop (mkF m 0 #[.val (.ref a1), .val (.ref a2), .val (.long p3), .second, .val (.long p4), .second] [])) tG := by
    intro tG kG
    refine own_aloadN X0.here hx (hb hby d10_0) rfl rfl ?_
    refine st770 _ ?_
    show Steps p.tables e below (T770.setTop (mkF m 4 #[.val (.ref a1), .val (.ref a2), .val (.long p3), .second, .val (.long p4), .second] [(.ref b1)])) _
    refine own_ifnullNo X770.here hx (hb hby d10_4) ?_
    refine own_aloadN X770.here hx (hb hby d10_7) rfl rfl ?_
    refine st771 _ ?_
    show Steps p.tables e below (T771.setTop (mkF m 11 #[.val (.ref a1), .val (.ref a2), .val (.long p3), .second, .val (.long p4), .second] [(.ref b1)])) _
    refine st772 _ ?_
    show Steps p.tables e below (T772.setTop (mkF m 14 #[.val (.ref a1), .val (.ref a2), .val (.long p3), .second, .val (.long p4), .second] [(.ref b772), (.ref b1)])) _
    refine own_dup X772.here hx (hb hby d10_14) rfl ?_
    refine st796.trans ?_
    show Steps p.tables e below (T796.setTop (mkF m 18 #[.val (.ref a1), .val (.ref a2), .val (.long p3), .second, .val (.long p4), .second] [(.ref b772), (.ref b1)])) _
    refine own_aloadN X796.here hx (hb hby d10_18) rfl rfl ?_
    refine st822.trans ?_
    exact kG
  have CB838 := CHv.keep K822 hs0 CH0
  have sd838 := Safe.keep K822 hs0 CH0 (Safe.new sz822_c822)
  have sl838 := BA822.lt
  obtain ⟨b838, T838, h838, kk838, d838, kd838, X838, e838, E838, hS838, hk838, hZ, hown, A838, FC838, FV838, AV838, -, -, CR838, -, NE838, st838⟩ := ldcCH (s := s) (vm0 := s.vm) X822 hx hZ hown (own_w hw 179 rfl) (own_wS hw) rfl hS0 hk822 (own_ew hw) (List.mem_of_getElem? (i := 0) rfl) CB838 (vs := [.int 32]) (z := (1 : Int32)) own_sp (by decide) (by decide) (g := (mkF m 22 #[.val (.ref a1), .val (.ref a2), .val (.long p3), .second, .val (.long p4), .second] [(.ref b772), (.ref b1)])) rfl (hb hby d10_22) (n := 4) (by decide) (by decide) (by decide : 3 + 2 ≤ _) (by decide : 90 + (4 + 4) ≤ _)
  have Z838 : n0 ≤ h838.size := Nat.le_trans Z822 E838.1
  have CT838 := CHr.trans (CHr.keep K822 hs0 CH0) CR838
  have K838 : Keep h0 h838 [b1, d1] := K822.ext E838
  have f840 : Exa Z h838 b1 "java/util/ArrayList" := f828.ext E838
  have f841 : Fld Z h838 b1 "java/util/AbstractList" "modCount" "I" (.int mc) := f829.ext E838
  have f842 : Fld Z h838 b1 "java/util/ArrayList" "elementData" "[Ljava/lang/Object;" (.ref d1) := f830.ext E838
  have f843 : Fld Z h838 b1 "java/util/ArrayList" "size" "I" (.int k) := f831.ext E838
  have f844 : Sta Z h838 "java/lang/String" "COMPACT_STRINGS" "Z" (.int kc) := f832.ext E838
  have f845 : Sta Z h838 "java/lang/Integer" "DigitOnes" "[B" (.ref aO) := f833.ext E838
  have f846 : Sta Z h838 "java/lang/Integer" "DigitTens" "[B" (.ref aT) := f834.ext E838
  have f847 : Exa Z h838 b772 "java/lang/StringBuilder" := E822x.ext E838
  have f848 : Fld Z h838 b772 "java/lang/AbstractStringBuilder" "value" "[B" (.ref c822) := F822_value.ext E838
  have f849 : Fld Z h838 b772 "java/lang/AbstractStringBuilder" "coder" "B" (.int 0) := F822_coder.ext E838
  have f850 : Fld Z h838 b772 "java/lang/AbstractStringBuilder" "count" "I" (.int ((0 : Int32) + (1 : Int32))) := F822_count.ext E838
  have f851 : own_OA Z h838 d1 (10 : Int32) := f835.ext E838
  have f852 : own_BV Z h838 aO (100 : Int32) := f836.ext E838
  have f853 : own_BV Z h838 aT (100 : Int32) := f837.ext E838
  have f854 : own_BA Z h838 c822 (own_cap (16 : Int32) ((0 : Int32) + (1 : Int32))) := BA822.ext E838
  have hs838 : ∀ x ∈ [b772, c822, b1, d1], Safe Z own_EL T838.vm h838 x := allS (Safe.exa hZ.alike f847 (by decide) (by decide)) (allS (CHr.safe CR838 sl838 sd838) (allS (Safe.exa hZ.alike f840 (by decide) (by decide)) (allS (own_OA.safe hZ.alike f851) all0)))
  have nl838 := NE838 _ (hs838 _ (List.mem_of_getElem? (i := 0) rfl))
  have V838 : own_BV Z h838 d838 1 := ⟨kd838, _, AV838, rfl⟩
  obtain ⟨cq855, kq855, q855a, q855b, q855c⟩ := isOf hZ e838 f847
  obtain ⟨_, _, ⟨T855, L855, k855, n855⟩, -, X855, ⟨Lc855, hQ855, l855, y855, z855⟩, st855⟩ := X838.virtualBack hx (y := (⟨"java/lang/StringBuilder", "append", "(Ljava/lang/String;)Ljava/lang/StringBuilder;"⟩ : MethodName)) (z := (⟨"java/lang/StringBuilder", "append", "(Ljava/lang/String;)Ljava/lang/StringBuilder;"⟩ : MethodName)) hown (mvT hZ (own_w hw 132 rfl)) (mvT hZ (own_w hw 133 rfl)) (notFace_of_selects (args := #[]) (mvT hZ (own_w hw 135 rfl))) (mvT hZ (own_w hw 135 rfl)) (mvT hZ (own_w hw 134 rfl)) (by decide) (backOf (W := 1) (rmSA l Z a0 hw [] b772 b838 kc c822 d838 (own_cap (16 : Int32) ((0 : Int32) + (1 : Int32))) ((0 : Int32) + (1 : Int32)) h838 n0 Z838 f847 gg772 f848 f849 f850 f854 gd822 nd822 f844 hkc A838 FC838 FV838 V838 hz822 ca822 (by omega) (Ne.symm nl838.1) (Ne.symm nl838.2)) hZ (own_w hw 136 rfl) (own_w hw 116 rfl) (by decide) (by decide)) q855a q855c (g := (mkF m 24 #[.val (.ref a1), .val (.ref a2), .val (.long p3), .second, .val (.long p4), .second] [(.ref b838), (.ref b772), (.ref b1)])) rfl (by rw [hml]; rfl) (Steps.refl _) (argsL := [(.ref b838)]) (rest := [(.ref b1)]) (lenOf pd_28Ljava2flang2fString3b29Ljava2flang2fStringBuilder3b rfl) rfl (by show 2 * 0 + _ ≤ _; exact Nat.le_of_eq rfl) (hb hby d10_24) (fun _ _ => ⟨rfl, e838, (by decide : 5 + 1 ≤ _), (by decide : 98 + 70 ≤ _)⟩)
  dsimp only [Pt.U, Pt.locs, Pt.cells, Pt.slots] at X855 l855 y855 z855 st855 hQ855
  subst l855 y855 z855
  obtain ⟨rfl, N855q, Kq855, c855, dj855, gd855, nd855, E855x, F855_value, F855_coder, F855_count, BA855⟩ := hQ855
  have sz855_c855 : h0.size ≤ c855 := own_rsz dj855 sz822_c822 K838.1
  have sA855_c855 : c855 ∈ [b772, c822, b1, d1] ∨ h838.size ≤ c855 := own_rside dj855 (Or.inl (List.mem_of_getElem? (i := 1) rfl)) (Keep.refl h838 [b772, c822, b1, d1]).1
  have ne856 : b1 ≠ c855 := own_rne dj855 ne823 f840.lt
  have ne857 : b772 ≠ c855 := own_rne dj855 nd822 f847.lt
  have ne858 : d1 ≠ c855 := own_rne dj855 ne825 f851.lt
  have ne859 : aO ≠ c855 := own_rne dj855 ne826 f852.lt
  have ne860 : aT ≠ c855 := own_rne dj855 ne827 f853.lt
  have N855 := Fr.app N822 N855q
  have Z855 : n0 ≤ T855.heap.size := Nat.le_trans Z838 Kq855.1
  have hk855 := Nat.le_trans hk838 Kq855.1
  have K855 : Keep h0 T855.heap [b1, d1] := K838.trans Kq855 (allS (Or.inr sz772) (allS (Or.inr sz822_c822) all0))
  have KA855 : Keep h838 T855.heap [b772, c822, b1, d1] := (Keep.refl h838 [b772, c822, b1, d1]).trans Kq855 (allS (Or.inl (List.mem_of_getElem? (i := 0) rfl)) (allS (Or.inl (List.mem_of_getElem? (i := 1) rfl)) all0))
  have f861 : Exa Z T855.heap b1 "java/util/ArrayList" := f840.keep Kq855
  have f862 : Fld Z T855.heap b1 "java/util/AbstractList" "modCount" "I" (.int mc) := f841.keep Kq855 (ninS ne773 (ninS ne823 nin0))
  have f863 : Fld Z T855.heap b1 "java/util/ArrayList" "elementData" "[Ljava/lang/Object;" (.ref d1) := f842.keep Kq855 (ninS ne773 (ninS ne823 nin0))
  have f864 : Fld Z T855.heap b1 "java/util/ArrayList" "size" "I" (.int k) := f843.keep Kq855 (ninS ne773 (ninS ne823 nin0))
  have f865 : Sta Z T855.heap "java/lang/String" "COMPACT_STRINGS" "Z" (.int kc) := own_sta_keep f844 Kq855 (nsS f847.nostat (nsS f854.nostat ns0))
  have f866 : Sta Z T855.heap "java/lang/Integer" "DigitOnes" "[B" (.ref aO) := own_sta_keep f845 Kq855 (nsS f847.nostat (nsS f854.nostat ns0))
  have f867 : Sta Z T855.heap "java/lang/Integer" "DigitTens" "[B" (.ref aT) := own_sta_keep f846 Kq855 (nsS f847.nostat (nsS f854.nostat ns0))
  have f868 : own_OA Z T855.heap d1 (10 : Int32) := f851.keep Kq855 (ninS ne774 (ninS ne825 nin0))
  have f869 : own_BV Z T855.heap aO (100 : Int32) := f852.keep Kq855 (ninS ne777 (ninS ne826 nin0))
  have f870 : own_BV Z T855.heap aT (100 : Int32) := f853.keep Kq855 (ninS ne778 (ninS ne827 nin0))
  have hm855 : (((0 : Int32) + (1 : Int32)) + (1 : Int32)).toInt = ((0 : Int32) + (1 : Int32)).toInt + 1 := own_plus1 ca822 (by omega)
  have ca855 : 0 ≤ (((0 : Int32) + (1 : Int32)) + (1 : Int32)).toInt := by omega
  have cb855 : (((0 : Int32) + (1 : Int32)) + (1 : Int32)).toInt ≤ 2 := by omega
  have hz855 : (own_cap (own_cap (16 : Int32) ((0 : Int32) + (1 : Int32))) (((0 : Int32) + (1 : Int32)) + (1 : Int32))).toInt = 16 ∨ (own_cap (own_cap (16 : Int32) ((0 : Int32) + (1 : Int32))) (((0 : Int32) + (1 : Int32)) + (1 : Int32))).toInt = 34 := own_capB hz822 ca855 (by omega)
  obtain ⟨cq871, kq871, q871a, q871b, q871c⟩ := isOf hZ rfl E855x
  obtain ⟨_, _, ⟨T871, L871, k871, n871⟩, -, X871, ⟨Lc871, hQ871, l871, y871, z871⟩, st871⟩ := X855.virtualBack hx (y := (⟨"java/lang/StringBuilder", "append", "(J)Ljava/lang/StringBuilder;"⟩ : MethodName)) (z := (⟨"java/lang/StringBuilder", "append", "(J)Ljava/lang/StringBuilder;"⟩ : MethodName)) hown (mvT hZ (own_w hw 182 rfl)) (mvT hZ (own_w hw 183 rfl)) (notFace_of_selects (args := #[]) (mvT hZ (own_w hw 185 rfl))) (mvT hZ (own_w hw 185 rfl)) (mvT hZ (own_w hw 184 rfl)) (by decide) (backOf (W := 1) (rmSJ l Z a0 hw [] b772 p3 kc c855 (own_cap (own_cap (16 : Int32) ((0 : Int32) + (1 : Int32))) (((0 : Int32) + (1 : Int32)) + (1 : Int32))) (((0 : Int32) + (1 : Int32)) + (1 : Int32)) aO aT T855.heap n0 Z855 E855x gg772 F855_value F855_coder F855_count BA855 gd855 nd855 f865 hkc f866 f867 f869 f870 hz855 ca855 (by omega) ne777 ne778 ne859 ne860) hZ (own_w hw 186 rfl) (own_w hw 116 rfl) (by decide) (by decide)) q871a q871c (g := (mkF m 28 #[.val (.ref a1), .val (.ref a2), .val (.long p3), .second, .val (.long p4), .second] [(.long p3), (.ref b772), (.ref b1)])) rfl (by rw [hml]; rfl) (Steps.refl _) (argsL := [(.long p3)]) (rest := [(.ref b1)]) (lenOf pd_28J29Ljava2flang2fStringBuilder3b rfl) rfl (by show 2 * 0 + _ ≤ _; exact Nat.le_of_eq rfl) (hb hby d10_28) (fun _ _ => ⟨rfl, rfl, (by decide : 6 + 1 ≤ _), (by decide : 168 + 70 ≤ _)⟩)
  dsimp only [Pt.U, Pt.locs, Pt.cells, Pt.slots] at X871 l871 y871 z871 st871 hQ871
  subst l871 y871 z871
  obtain ⟨rfl, N871q, Kq871, k871x, kb871, c871, dj871, gd871, nd871, E871x, F871_value, F871_coder, F871_count, BA871⟩ := hQ871
  have sz871_c871 : h0.size ≤ c871 := own_rsz dj871 sz855_c855 K855.1
  have sA871_c871 : c871 ∈ [b772, c822, b1, d1] ∨ h838.size ≤ c871 := own_rside dj871 sA855_c855 KA855.1
  have ne872 : b1 ≠ c871 := own_rne dj871 ne856 f861.lt
  have ne873 : d1 ≠ c871 := own_rne dj871 ne858 f868.lt
  have ne874 : aO ≠ c871 := own_rne dj871 ne859 f869.lt
  have ne875 : aT ≠ c871 := own_rne dj871 ne860 f870.lt
  have ne876 : b772 ≠ c871 := own_rne dj871 nd855 E855x.lt
  have N871 := Fr.app N855 N871q
  have Z871 : n0 ≤ T871.heap.size := Nat.le_trans Z855 Kq871.1
  have hk871 := Nat.le_trans hk855 Kq871.1
  have K871 : Keep h0 T871.heap [b1, d1] := K855.trans Kq871 (allS (Or.inr sz772) (allS (Or.inr sz855_c855) all0))
  have KA871 : Keep h838 T871.heap [b772, c822, b1, d1] := KA855.trans Kq871 (allS (Or.inl (List.mem_of_getElem? (i := 0) rfl)) (allS sA855_c855 all0))
  have f877 : Exa Z T871.heap b1 "java/util/ArrayList" := f861.keep Kq871
  have f878 : Fld Z T871.heap b1 "java/util/AbstractList" "modCount" "I" (.int mc) := f862.keep Kq871 (ninS ne773 (ninS ne856 nin0))
  have f879 : Fld Z T871.heap b1 "java/util/ArrayList" "elementData" "[Ljava/lang/Object;" (.ref d1) := f863.keep Kq871 (ninS ne773 (ninS ne856 nin0))
  have f880 : Fld Z T871.heap b1 "java/util/ArrayList" "size" "I" (.int k) := f864.keep Kq871 (ninS ne773 (ninS ne856 nin0))
  have f881 : Sta Z T871.heap "java/lang/String" "COMPACT_STRINGS" "Z" (.int kc) := own_sta_keep f865 Kq871 (nsS E855x.nostat (nsS BA855.nostat ns0))
  have f882 : Sta Z T871.heap "java/lang/Integer" "DigitOnes" "[B" (.ref aO) := own_sta_keep f866 Kq871 (nsS E855x.nostat (nsS BA855.nostat ns0))
  have f883 : Sta Z T871.heap "java/lang/Integer" "DigitTens" "[B" (.ref aT) := own_sta_keep f867 Kq871 (nsS E855x.nostat (nsS BA855.nostat ns0))
  have f884 : own_OA Z T871.heap d1 (10 : Int32) := f868.keep Kq871 (ninS ne774 (ninS ne858 nin0))
  have f885 : own_BV Z T871.heap aO (100 : Int32) := f869.keep Kq871 (ninS ne777 (ninS ne859 nin0))
  have f886 : own_BV Z T871.heap aT (100 : Int32) := f870.keep Kq871 (ninS ne778 (ninS ne860 nin0))
  have hm871 : ((((0 : Int32) + (1 : Int32)) + (1 : Int32)) + k871x).toInt = (((0 : Int32) + (1 : Int32)) + (1 : Int32)).toInt + k871x.toInt := own_plusk ca855 (by omega) kb871.1 kb871.2
  have ca871 : 0 ≤ ((((0 : Int32) + (1 : Int32)) + (1 : Int32)) + k871x).toInt := by omega
  have cb871 : ((((0 : Int32) + (1 : Int32)) + (1 : Int32)) + k871x).toInt ≤ 22 := by omega
  have hz871 : (own_cap (own_cap (own_cap (16 : Int32) ((0 : Int32) + (1 : Int32))) (((0 : Int32) + (1 : Int32)) + (1 : Int32))) ((((0 : Int32) + (1 : Int32)) + (1 : Int32)) + k871x)).toInt = 16 ∨ (own_cap (own_cap (own_cap (16 : Int32) ((0 : Int32) + (1 : Int32))) (((0 : Int32) + (1 : Int32)) + (1 : Int32))) ((((0 : Int32) + (1 : Int32)) + (1 : Int32)) + k871x)).toInt = 34 := own_capB hz855 ca871 (by omega)
  have G888 : ∀ tG, Steps p.tables e below (T871.setTop (mkF m 31 #[.val (.ref a1), .val (.ref a2), .val (.long p3), .second, .val (.long p4), .second] [(.ref b772), (.ref b1)])) tG → Steps p.tables e below (s₁.setTop (mkF m 0 #[.val (.ref a1), .val (.ref a2), .val (.long p3), .second, .val (.long p4), .second] [])) tG := by
    intro tG kG
    refine G839 _ ?_
    refine st838 _ ?_
    show Steps p.tables e below (T838.setTop (mkF m 24 #[.val (.ref a1), .val (.ref a2), .val (.long p3), .second, .val (.long p4), .second] [(.ref b838), (.ref b772), (.ref b1)])) _
    refine st855.trans ?_
    show Steps p.tables e below (T855.setTop (mkF m 27 #[.val (.ref a1), .val (.ref a2), .val (.long p3), .second, .val (.long p4), .second] [(.ref b772), (.ref b1)])) _
    refine own_lloadN X855.here hx (hb hby d10_27) rfl ?_
    refine st871.trans ?_
    exact kG
  have CB887 := CHv.keep KA871 hs838 CR838.1
  have sd887 := Safe.keep KA871 hs838 CR838.1 (Or.elim sA871_c871 (hs838 _) Safe.new)
  have sl887 := BA871.lt
  obtain ⟨b887, T887, h887, kk887, d887, kd887, X887, e887, E887, hS887, hk887, hZ, hown, A887, FC887, FV887, AV887, -, -, CR887, -, NE887, st887⟩ := ldcCH (s := s) (vm0 := T838.vm) X871 hx hZ hown (own_w hw 179 rfl) (own_wS hw) rfl hS838 hk871 (own_ew hw) (List.mem_of_getElem? (i := 0) rfl) CB887 (vs := [.int 32]) (z := (1 : Int32)) own_sp (by decide) (by decide) (g := (mkF m 31 #[.val (.ref a1), .val (.ref a2), .val (.long p3), .second, .val (.long p4), .second] [(.ref b772), (.ref b1)])) rfl (hb hby d10_31) (n := 4) (by decide) (by decide) (by decide : 7 + 2 ≤ _) (by decide : 238 + (4 + 4) ≤ _)
  have Z887 : n0 ≤ h887.size := Nat.le_trans Z871 E887.1
  have CT887 := CHr.trans (CHr.trans CT838 (CHr.keep KA871 hs838 CR838.1)) CR887
  have K887 : Keep h0 h887 [b1, d1] := K871.ext E887
  have f889 : Exa Z h887 b1 "java/util/ArrayList" := f877.ext E887
  have f890 : Fld Z h887 b1 "java/util/AbstractList" "modCount" "I" (.int mc) := f878.ext E887
  have f891 : Fld Z h887 b1 "java/util/ArrayList" "elementData" "[Ljava/lang/Object;" (.ref d1) := f879.ext E887
  have f892 : Fld Z h887 b1 "java/util/ArrayList" "size" "I" (.int k) := f880.ext E887
  have f893 : Sta Z h887 "java/lang/String" "COMPACT_STRINGS" "Z" (.int kc) := f881.ext E887
  have f894 : Sta Z h887 "java/lang/Integer" "DigitOnes" "[B" (.ref aO) := f882.ext E887
  have f895 : Sta Z h887 "java/lang/Integer" "DigitTens" "[B" (.ref aT) := f883.ext E887
  have f896 : Exa Z h887 b772 "java/lang/StringBuilder" := E871x.ext E887
  have f897 : Fld Z h887 b772 "java/lang/AbstractStringBuilder" "value" "[B" (.ref c871) := F871_value.ext E887
  have f898 : Fld Z h887 b772 "java/lang/AbstractStringBuilder" "coder" "B" (.int 0) := F871_coder.ext E887
  have f899 : Fld Z h887 b772 "java/lang/AbstractStringBuilder" "count" "I" (.int ((((0 : Int32) + (1 : Int32)) + (1 : Int32)) + k871x)) := F871_count.ext E887
  have f900 : own_OA Z h887 d1 (10 : Int32) := f884.ext E887
  have f901 : own_BV Z h887 aO (100 : Int32) := f885.ext E887
  have f902 : own_BV Z h887 aT (100 : Int32) := f886.ext E887
  have f903 : own_BA Z h887 c871 (own_cap (own_cap (own_cap (16 : Int32) ((0 : Int32) + (1 : Int32))) (((0 : Int32) + (1 : Int32)) + (1 : Int32))) ((((0 : Int32) + (1 : Int32)) + (1 : Int32)) + k871x)) := BA871.ext E887
  have hs887 : ∀ x ∈ [b772, c871, b1, d1], Safe Z own_EL T887.vm h887 x := allS (Safe.exa hZ.alike f896 (by decide) (by decide)) (allS (CHr.safe CR887 sl887 sd887) (allS (Safe.exa hZ.alike f889 (by decide) (by decide)) (allS (own_OA.safe hZ.alike f900) all0)))
  have nl887 := NE887 _ (hs887 _ (List.mem_of_getElem? (i := 0) rfl))
  have V887 : own_BV Z h887 d887 1 := ⟨kd887, _, AV887, rfl⟩
  obtain ⟨cq904, kq904, q904a, q904b, q904c⟩ := isOf hZ e887 f896
  obtain ⟨_, _, ⟨T904, L904, k904, n904⟩, -, X904, ⟨Lc904, hQ904, l904, y904, z904⟩, st904⟩ := X887.virtualBack hx (y := (⟨"java/lang/StringBuilder", "append", "(Ljava/lang/String;)Ljava/lang/StringBuilder;"⟩ : MethodName)) (z := (⟨"java/lang/StringBuilder", "append", "(Ljava/lang/String;)Ljava/lang/StringBuilder;"⟩ : MethodName)) hown (mvT hZ (own_w hw 132 rfl)) (mvT hZ (own_w hw 133 rfl)) (notFace_of_selects (args := #[]) (mvT hZ (own_w hw 135 rfl))) (mvT hZ (own_w hw 135 rfl)) (mvT hZ (own_w hw 134 rfl)) (by decide) (backOf (W := 1) (rmSA l Z a0 hw [] b772 b887 kc c871 d887 (own_cap (own_cap (own_cap (16 : Int32) ((0 : Int32) + (1 : Int32))) (((0 : Int32) + (1 : Int32)) + (1 : Int32))) ((((0 : Int32) + (1 : Int32)) + (1 : Int32)) + k871x)) ((((0 : Int32) + (1 : Int32)) + (1 : Int32)) + k871x) h887 n0 Z887 f896 gg772 f897 f898 f899 f903 gd871 nd871 f893 hkc A887 FC887 FV887 V887 hz871 ca871 (by omega) (Ne.symm nl887.1) (Ne.symm nl887.2)) hZ (own_w hw 136 rfl) (own_w hw 116 rfl) (by decide) (by decide)) q904a q904c (g := (mkF m 33 #[.val (.ref a1), .val (.ref a2), .val (.long p3), .second, .val (.long p4), .second] [(.ref b887), (.ref b772), (.ref b1)])) rfl (by rw [hml]; rfl) (Steps.refl _) (argsL := [(.ref b887)]) (rest := [(.ref b1)]) (lenOf pd_28Ljava2flang2fString3b29Ljava2flang2fStringBuilder3b rfl) rfl (by show 2 * 0 + _ ≤ _; exact Nat.le_of_eq rfl) (hb hby d10_33) (fun _ _ => ⟨rfl, e887, (by decide : 9 + 1 ≤ _), (by decide : 246 + 70 ≤ _)⟩)
  dsimp only [Pt.U, Pt.locs, Pt.cells, Pt.slots] at X904 l904 y904 z904 st904 hQ904
  subst l904 y904 z904
  obtain ⟨rfl, N904q, Kq904, c904, dj904, gd904, nd904, E904x, F904_value, F904_coder, F904_count, BA904⟩ := hQ904
  have sz904_c904 : h0.size ≤ c904 := own_rsz dj904 sz871_c871 K887.1
  have sA904_c904 : c904 ∈ [b772, c871, b1, d1] ∨ h887.size ≤ c904 := own_rside dj904 (Or.inl (List.mem_of_getElem? (i := 1) rfl)) (Keep.refl h887 [b772, c871, b1, d1]).1
  have ne905 : b1 ≠ c904 := own_rne dj904 ne872 f889.lt
  have ne906 : b772 ≠ c904 := own_rne dj904 nd871 f896.lt
  have ne907 : d1 ≠ c904 := own_rne dj904 ne873 f900.lt
  have ne908 : aO ≠ c904 := own_rne dj904 ne874 f901.lt
  have ne909 : aT ≠ c904 := own_rne dj904 ne875 f902.lt
  have N904 := Fr.app N871 N904q
  have Z904 : n0 ≤ T904.heap.size := Nat.le_trans Z887 Kq904.1
  have hk904 := Nat.le_trans hk887 Kq904.1
  have K904 : Keep h0 T904.heap [b1, d1] := K887.trans Kq904 (allS (Or.inr sz772) (allS (Or.inr sz871_c871) all0))
  have KA904 : Keep h887 T904.heap [b772, c871, b1, d1] := (Keep.refl h887 [b772, c871, b1, d1]).trans Kq904 (allS (Or.inl (List.mem_of_getElem? (i := 0) rfl)) (allS (Or.inl (List.mem_of_getElem? (i := 1) rfl)) all0))
  have f910 : Exa Z T904.heap b1 "java/util/ArrayList" := f889.keep Kq904
  have f911 : Fld Z T904.heap b1 "java/util/AbstractList" "modCount" "I" (.int mc) := f890.keep Kq904 (ninS ne773 (ninS ne872 nin0))
  have f912 : Fld Z T904.heap b1 "java/util/ArrayList" "elementData" "[Ljava/lang/Object;" (.ref d1) := f891.keep Kq904 (ninS ne773 (ninS ne872 nin0))
  have f913 : Fld Z T904.heap b1 "java/util/ArrayList" "size" "I" (.int k) := f892.keep Kq904 (ninS ne773 (ninS ne872 nin0))
  have f914 : Sta Z T904.heap "java/lang/String" "COMPACT_STRINGS" "Z" (.int kc) := own_sta_keep f893 Kq904 (nsS f896.nostat (nsS f903.nostat ns0))
  have f915 : Sta Z T904.heap "java/lang/Integer" "DigitOnes" "[B" (.ref aO) := own_sta_keep f894 Kq904 (nsS f896.nostat (nsS f903.nostat ns0))
  have f916 : Sta Z T904.heap "java/lang/Integer" "DigitTens" "[B" (.ref aT) := own_sta_keep f895 Kq904 (nsS f896.nostat (nsS f903.nostat ns0))
  have f917 : own_OA Z T904.heap d1 (10 : Int32) := f900.keep Kq904 (ninS ne774 (ninS ne873 nin0))
  have f918 : own_BV Z T904.heap aO (100 : Int32) := f901.keep Kq904 (ninS ne777 (ninS ne874 nin0))
  have f919 : own_BV Z T904.heap aT (100 : Int32) := f902.keep Kq904 (ninS ne778 (ninS ne875 nin0))
  have hm904 : (((((0 : Int32) + (1 : Int32)) + (1 : Int32)) + k871x) + (1 : Int32)).toInt = ((((0 : Int32) + (1 : Int32)) + (1 : Int32)) + k871x).toInt + 1 := own_plus1 ca871 (by omega)
  have ca904 : 0 ≤ (((((0 : Int32) + (1 : Int32)) + (1 : Int32)) + k871x) + (1 : Int32)).toInt := by omega
  have cb904 : (((((0 : Int32) + (1 : Int32)) + (1 : Int32)) + k871x) + (1 : Int32)).toInt ≤ 23 := by omega
  have hz904 : (own_cap (own_cap (own_cap (own_cap (16 : Int32) ((0 : Int32) + (1 : Int32))) (((0 : Int32) + (1 : Int32)) + (1 : Int32))) ((((0 : Int32) + (1 : Int32)) + (1 : Int32)) + k871x)) (((((0 : Int32) + (1 : Int32)) + (1 : Int32)) + k871x) + (1 : Int32))).toInt = 16 ∨ (own_cap (own_cap (own_cap (own_cap (16 : Int32) ((0 : Int32) + (1 : Int32))) (((0 : Int32) + (1 : Int32)) + (1 : Int32))) ((((0 : Int32) + (1 : Int32)) + (1 : Int32)) + k871x)) (((((0 : Int32) + (1 : Int32)) + (1 : Int32)) + k871x) + (1 : Int32))).toInt = 34 := own_capB hz871 ca904 (by omega)
  obtain ⟨cq920, kq920, q920a, q920b, q920c⟩ := isOf hZ rfl E904x
  obtain ⟨_, _, ⟨T920, L920, k920, n920⟩, -, X920, ⟨Lc920, hQ920, l920, y920, z920⟩, st920⟩ := X904.virtualBack hx (y := (⟨"java/lang/StringBuilder", "append", "(J)Ljava/lang/StringBuilder;"⟩ : MethodName)) (z := (⟨"java/lang/StringBuilder", "append", "(J)Ljava/lang/StringBuilder;"⟩ : MethodName)) hown (mvT hZ (own_w hw 182 rfl)) (mvT hZ (own_w hw 183 rfl)) (notFace_of_selects (args := #[]) (mvT hZ (own_w hw 185 rfl))) (mvT hZ (own_w hw 185 rfl)) (mvT hZ (own_w hw 184 rfl)) (by decide) (backOf (W := 1) (rmSJ l Z a0 hw [] b772 p4 kc c904 (own_cap (own_cap (own_cap (own_cap (16 : Int32) ((0 : Int32) + (1 : Int32))) (((0 : Int32) + (1 : Int32)) + (1 : Int32))) ((((0 : Int32) + (1 : Int32)) + (1 : Int32)) + k871x)) (((((0 : Int32) + (1 : Int32)) + (1 : Int32)) + k871x) + (1 : Int32))) (((((0 : Int32) + (1 : Int32)) + (1 : Int32)) + k871x) + (1 : Int32)) aO aT T904.heap n0 Z904 E904x gg772 F904_value F904_coder F904_count BA904 gd904 nd904 f914 hkc f915 f916 f918 f919 hz904 ca904 (by omega) ne777 ne778 ne908 ne909) hZ (own_w hw 186 rfl) (own_w hw 116 rfl) (by decide) (by decide)) q920a q920c (g := (mkF m 38 #[.val (.ref a1), .val (.ref a2), .val (.long p3), .second, .val (.long p4), .second] [(.long p4), (.ref b772), (.ref b1)])) rfl (by rw [hml]; rfl) (Steps.refl _) (argsL := [(.long p4)]) (rest := [(.ref b1)]) (lenOf pd_28J29Ljava2flang2fStringBuilder3b rfl) rfl (by show 2 * 0 + _ ≤ _; exact Nat.le_of_eq rfl) (hb hby d10_38) (fun _ _ => ⟨rfl, rfl, (by decide : 10 + 1 ≤ _), (by decide : 316 + 70 ≤ _)⟩)
  dsimp only [Pt.U, Pt.locs, Pt.cells, Pt.slots] at X920 l920 y920 z920 st920 hQ920
  subst l920 y920 z920
  obtain ⟨rfl, N920q, Kq920, k920x, kb920, c920, dj920, gd920, nd920, E920x, F920_value, F920_coder, F920_count, BA920⟩ := hQ920
  have sz920_c920 : h0.size ≤ c920 := own_rsz dj920 sz904_c904 K904.1
  have sA920_c920 : c920 ∈ [b772, c871, b1, d1] ∨ h887.size ≤ c920 := own_rside dj920 sA904_c904 KA904.1
  have ne921 : b1 ≠ c920 := own_rne dj920 ne905 f910.lt
  have ne922 : d1 ≠ c920 := own_rne dj920 ne907 f917.lt
  have ne923 : aO ≠ c920 := own_rne dj920 ne908 f918.lt
  have ne924 : aT ≠ c920 := own_rne dj920 ne909 f919.lt
  have ne925 : b772 ≠ c920 := own_rne dj920 nd904 E904x.lt
  have N920 := Fr.app N904 N920q
  have Z920 : n0 ≤ T920.heap.size := Nat.le_trans Z904 Kq920.1
  have hk920 := Nat.le_trans hk904 Kq920.1
  have K920 : Keep h0 T920.heap [b1, d1] := K904.trans Kq920 (allS (Or.inr sz772) (allS (Or.inr sz904_c904) all0))
  have KA920 : Keep h887 T920.heap [b772, c871, b1, d1] := KA904.trans Kq920 (allS (Or.inl (List.mem_of_getElem? (i := 0) rfl)) (allS sA904_c904 all0))
  have f926 : Exa Z T920.heap b1 "java/util/ArrayList" := f910.keep Kq920
  have f927 : Fld Z T920.heap b1 "java/util/AbstractList" "modCount" "I" (.int mc) := f911.keep Kq920 (ninS ne773 (ninS ne905 nin0))
  have f928 : Fld Z T920.heap b1 "java/util/ArrayList" "elementData" "[Ljava/lang/Object;" (.ref d1) := f912.keep Kq920 (ninS ne773 (ninS ne905 nin0))
  have f929 : Fld Z T920.heap b1 "java/util/ArrayList" "size" "I" (.int k) := f913.keep Kq920 (ninS ne773 (ninS ne905 nin0))
  have f930 : Sta Z T920.heap "java/lang/String" "COMPACT_STRINGS" "Z" (.int kc) := own_sta_keep f914 Kq920 (nsS E904x.nostat (nsS BA904.nostat ns0))
  have f931 : Sta Z T920.heap "java/lang/Integer" "DigitOnes" "[B" (.ref aO) := own_sta_keep f915 Kq920 (nsS E904x.nostat (nsS BA904.nostat ns0))
  have f932 : Sta Z T920.heap "java/lang/Integer" "DigitTens" "[B" (.ref aT) := own_sta_keep f916 Kq920 (nsS E904x.nostat (nsS BA904.nostat ns0))
  have f933 : own_OA Z T920.heap d1 (10 : Int32) := f917.keep Kq920 (ninS ne774 (ninS ne907 nin0))
  have f934 : own_BV Z T920.heap aO (100 : Int32) := f918.keep Kq920 (ninS ne777 (ninS ne908 nin0))
  have f935 : own_BV Z T920.heap aT (100 : Int32) := f919.keep Kq920 (ninS ne778 (ninS ne909 nin0))
  have hm920 : ((((((0 : Int32) + (1 : Int32)) + (1 : Int32)) + k871x) + (1 : Int32)) + k920x).toInt = (((((0 : Int32) + (1 : Int32)) + (1 : Int32)) + k871x) + (1 : Int32)).toInt + k920x.toInt := own_plusk ca904 (by omega) kb920.1 kb920.2
  have ca920 : 0 ≤ ((((((0 : Int32) + (1 : Int32)) + (1 : Int32)) + k871x) + (1 : Int32)) + k920x).toInt := by omega
  have cb920 : ((((((0 : Int32) + (1 : Int32)) + (1 : Int32)) + k871x) + (1 : Int32)) + k920x).toInt ≤ 43 := by omega
  obtain ⟨cq936, kq936, q936a, q936b, q936c⟩ := isOf hZ rfl E920x
  obtain ⟨_, _, ⟨T936, L936, k936, n936⟩, -, X936, ⟨Lc936, hQ936, l936, y936, z936⟩, st936⟩ := X920.virtualBack hx (y := (⟨"java/lang/StringBuilder", "toString", "()Ljava/lang/String;"⟩ : MethodName)) (z := (⟨"java/lang/StringBuilder", "toString", "()Ljava/lang/String;"⟩ : MethodName)) hown (mvT hZ (own_w hw 209 rfl)) (mvT hZ (own_w hw 210 rfl)) (notFace_of_selects (args := #[]) (mvT hZ (own_w hw 212 rfl))) (mvT hZ (own_w hw 212 rfl)) (mvT hZ (own_w hw 211 rfl)) (by decide) (backOf (W := 1) (rmTS l Z a0 hw [] b772 kc c920 (own_cap (own_cap (own_cap (own_cap (own_cap (16 : Int32) ((0 : Int32) + (1 : Int32))) (((0 : Int32) + (1 : Int32)) + (1 : Int32))) ((((0 : Int32) + (1 : Int32)) + (1 : Int32)) + k871x)) (((((0 : Int32) + (1 : Int32)) + (1 : Int32)) + k871x) + (1 : Int32))) ((((((0 : Int32) + (1 : Int32)) + (1 : Int32)) + k871x) + (1 : Int32)) + k920x)) ((((((0 : Int32) + (1 : Int32)) + (1 : Int32)) + k871x) + (1 : Int32)) + k920x) T920.heap n0 Z920 E920x gg772 F920_value F920_coder F920_count BA920 gd920 nd920 f930 hkc (own_nn ca920) (own_clampB ca920 (by omega))) hZ (own_w hw 213 rfl) (own_w hw 116 rfl) (by decide) (by decide)) q936a q936c (g := (mkF m 41 #[.val (.ref a1), .val (.ref a2), .val (.long p3), .second, .val (.long p4), .second] [(.ref b772), (.ref b1)])) rfl (by rw [hml]; rfl) (Steps.refl _) (argsL := []) (rest := [(.ref b1)]) (lenOf pd_2829Ljava2flang2fString3b rfl) rfl (by show 2 * 0 + _ ≤ _; exact Nat.le_of_eq rfl) (hb hby d10_41) (fun _ _ => ⟨rfl, rfl, (by decide : 11 + 2 ≤ _), (by decide : 386 + 74 ≤ _)⟩)
  dsimp only [Pt.U, Pt.locs, Pt.cells, Pt.slots] at X936 l936 y936 z936 st936 hQ936
  subst l936 y936 z936
  obtain ⟨c936, rfl, N936q, Kq936, lt936, E936x⟩ := hQ936
  have gg936_c936 : n0 ≤ c936 := Nat.le_trans Z920 lt936
  have sz936_c936 : h0.size ≤ c936 := Nat.le_trans K920.1 lt936
  have sA936_c936 : c936 ∈ [b772, c871, b1, d1] ∨ h887.size ≤ c936 := Or.inr (Nat.le_trans KA920.1 lt936)
  have ne937 : b1 ≠ c936 := Nat.ne_of_lt (Nat.lt_of_lt_of_le f926.lt lt936)
  have ne938 : d1 ≠ c936 := Nat.ne_of_lt (Nat.lt_of_lt_of_le f933.lt lt936)
  have N936 := Fr.app N920 N936q
  have Z936 : n0 ≤ T936.heap.size := Nat.le_trans Z920 Kq936.1
  have hk936 := Nat.le_trans hk920 Kq936.1
  have K936 : Keep h0 T936.heap [b1, d1] := K920.trans Kq936 all0
  have KA936 : Keep h887 T936.heap [b772, c871, b1, d1] := KA920.trans Kq936 all0
  have f939 : Exa Z T936.heap b1 "java/util/ArrayList" := f926.keep Kq936
  have f940 : Fld Z T936.heap b1 "java/util/AbstractList" "modCount" "I" (.int mc) := f927.keep Kq936 nin0
  have f941 : Fld Z T936.heap b1 "java/util/ArrayList" "elementData" "[Ljava/lang/Object;" (.ref d1) := f928.keep Kq936 nin0
  have f942 : Fld Z T936.heap b1 "java/util/ArrayList" "size" "I" (.int k) := f929.keep Kq936 nin0
  have f943 : own_OA Z T936.heap d1 (10 : Int32) := f933.keep Kq936 nin0
  obtain ⟨cq944, kq944, q944a, q944b, q944c⟩ := isOf hZ rfl f939
  obtain ⟨_, _, ⟨T944, L944, k944, n944⟩, -, X944, ⟨Lc944, hQ944, l944, y944, z944⟩, st944⟩ := X936.interfaceBack hx (xi := (⟨"java/util/List", "add", "(Ljava/lang/Object;)Z"⟩ : MethodName)) (y := (⟨"java/util/ArrayList", "add", "(Ljava/lang/Object;)Z"⟩ : MethodName)) hown (mvT hZ (own_w hw 79 rfl)) (mvT hZ (own_w hw 80 rfl)) (mvT hZ (own_w hw 81 rfl)) (mvT hZ (own_w hw 82 rfl)) (mvT hZ (own_w hw 83 rfl)) (mvT hZ (own_w hw 84 rfl)) (mvT hZ (own_w hw 85 rfl)) (mvT hZ (own_w hw 86 rfl)) (by decide) (backOf (W := 0) (rmA1R l Z a0 hw [] b1 c936 d1 mc k T936.heap n0 Z936 f939 g_b1 f940 f941 f942 f943 nD gd E936x hj0 hj1) hZ (own_w hw 87 rfl) (own_w hw 57 rfl) (by decide) (by decide)) q944a q944b q944c (g := (mkF m 44 #[.val (.ref a1), .val (.ref a2), .val (.long p3), .second, .val (.long p4), .second] [(.ref c936), (.ref b1)])) rfl (by rw [hml]; rfl) (Steps.refl _) (argsL := [(.ref c936)]) (rest := []) (lenOf pd_28Ljava2flang2fObject3b29Z rfl) rfl (by show 2 * 0 + _ ≤ _; exact Nat.le_of_eq rfl) (hb hby d10_44) (fun _ _ => ⟨rfl, rfl, (by decide : 13 + 0 ≤ _), (by decide : 460 + 0 ≤ _)⟩)
  dsimp only [Pt.U, Pt.locs, Pt.cells, Pt.slots] at X944 l944 y944 z944 st944 hQ944
  subst l944 y944 z944
  obtain ⟨rfl, N944q, Kq944, OA944, E944x, F944_modCount, F944_elementData, F944_size⟩ := hQ944
  have N944 := Fr.app N936 N944q
  have Z944 : n0 ≤ T944.heap.size := Nat.le_trans Z936 Kq944.1
  have hk944 := Nat.le_trans hk936 Kq944.1
  have K944 : Keep h0 T944.heap [b1, d1] := K936.trans Kq944 (allS (Or.inl (List.mem_of_getElem? (i := 0) rfl)) (allS (Or.inl (List.mem_of_getElem? (i := 1) rfl)) all0))
  have KA944 : Keep h887 T944.heap [b772, c871, b1, d1] := KA936.trans Kq944 (allS (Or.inl (List.mem_of_getElem? (i := 2) rfl)) (allS (Or.inl (List.mem_of_getElem? (i := 3) rfl)) all0))
  have f945 : Exa Z T944.heap b1 "java/util/ArrayList" := f939.keep Kq944
  have f949 : Exa Z T944.heap c936 "java/lang/String" := E936x.keep Kq944
  obtain ⟨fs, hr, hrun, hended, hW⟩ := Stand.leaveW (s := s) (vm₁ := T887.vm) X944 hS887 hk944 (v := none) (fun _ => rfl)
  refine ⟨_, _, pre0 _ ?_, hrun, hended, _, _, rfl, ?_, ?_, hW.1, hW.2.1, hW.2.2.1, hW.2.2.2.mono (by decide) (by decide)⟩
  · refine G888 _ ?_
    refine st887 _ ?_
    show Steps p.tables e below (T887.setTop (mkF m 33 #[.val (.ref a1), .val (.ref a2), .val (.long p3), .second, .val (.long p4), .second] [(.ref b887), (.ref b772), (.ref b1)])) _
    refine st904.trans ?_
    show Steps p.tables e below (T904.setTop (mkF m 36 #[.val (.ref a1), .val (.ref a2), .val (.long p3), .second, .val (.long p4), .second] [(.ref b772), (.ref b1)])) _
    refine own_lload X904.here hx (hb hby d10_36) rfl ?_
    refine st920.trans ?_
    show Steps p.tables e below (T920.setTop (mkF m 41 #[.val (.ref a1), .val (.ref a2), .val (.long p3), .second, .val (.long p4), .second] [(.ref b772), (.ref b1)])) _
    refine st936.trans ?_
    show Steps p.tables e below (T936.setTop (mkF m 44 #[.val (.ref a1), .val (.ref a2), .val (.long p3), .second, .val (.long p4), .second] [(.ref c936), (.ref b1)])) _
    refine st944.trans ?_
    show Steps p.tables e below (T944.setTop (mkF m 49 #[.val (.ref a1), .val (.ref a2), .val (.long p3), .second, .val (.long p4), .second] [(.int 1)])) _
    refine own_pop X944.here hx (hb hby d10_49) rfl ?_
    exact X944.returnOut hx Bd.returns (hb hby d10_50) hr
  · show QTK Z a1 a2 p3 p4 kc d2 b1 d1 mc k aO aT h0 n0 _ T944.heap _
    exact ⟨rfl, N944, K944, OA944, E944x, F944_modCount, F944_elementData, F944_size⟩
  · show CHr Z own_EL s.vm s.heap T944.vm T944.heap
    rw [hh]
    have CL := CHr.trans CT887 (CHr.keep KA944 hs887 CR887.1)
    exact CHr.trans CL (CHv.at (s := s) (vm0 := T887.vm) X944 hZ (own_ew hw) CL.1)
theorem ef_rm0 (m : MethodId) (x0 : Int32) (x1 : Int32) (x2 : Int64) (x3 : Int64) : entryFrame m #[(.int x0), (.int x1), (.long x2), (.long x3)] maxLocals = mkF m 0 #[.val (.int x0), .val (.int x1), .val (.long x2), .second, .val (.long x3), .second, .unset, .unset, .unset, .unset, .unset, .unset] [] := by first | (simp [entryFrame, mkF, argsToLocals, Value.category, maxLocals]; done) | rfl
theorem pn_com_example_vesch_vesch_engine_TraceIsOnPinLaw : plainName "com/example/vesch/vesch/engine/TraceIsOnPinLaw" = true := by first | (simp [plainName, overriddenIn]; done) | decide +kernel
def Q0 (Z : State) (p1 : Int32) (p2 : Int32) (p3 : Int64) (p4 : Int64) (kc : Int32) (aD : Addr) (aO : Addr) (aT : Addr) (h0 : Heap) (n0 : Nat) (v : Option Value) (h : Heap) (L : List Loc) : Prop := v = some (.int (1 : Int32)) ∧ Fr n0 L
theorem pd_28Z29V : parseMethodDescriptor "(Z)V" = some ⟨[.boolean], none⟩ := by decide +kernel
theorem pd_28C29Ljava2flang2fString3b : parseMethodDescriptor "(C)Ljava/lang/String;" = some ⟨[.char], some (.object "java/lang/String")⟩ := by decide +kernel
theorem pd_28Ljava2flang2fString3bJ29V : parseMethodDescriptor "(Ljava/lang/String;J)V" = some ⟨[(.object "java/lang/String"), .long], none⟩ := by decide +kernel
theorem pd_28Ljava2flang2fString3bJJ29V : parseMethodDescriptor "(Ljava/lang/String;JJ)V" = some ⟨[(.object "java/lang/String"), .long, .long], none⟩ := by decide +kernel
set_option maxRecDepth 65536 in
set_option maxHeartbeats 40000000 in
theorem rm0 (l : Launch) (Z : State) (a0 : Array Value) (hw : ∀ d ∈ tables_1, d.before a0 Z = true) (ws : List Jvm.Cond) (p1 : Int32) (p2 : Int32) (p3 : Int64) (p4 : Int64) (kc : Int32) (aD : Addr) (aO : Addr) (aT : Addr) (h0 : Heap) (n0 : Nat) (Z0 : n0 ≤ h0.size) (SC : Sta Z h0 "java/lang/String" "COMPACT_STRINGS" "Z" (.int kc)) (hkc : ¬ kc = (0 : Int32)) (SD : Sta Z h0 "java/util/ArrayList" "DEFAULTCAPACITY_EMPTY_ELEMENTDATA" "[Ljava/lang/Object;" (.ref aD)) (OD : own_OL Z h0 aD 0) (SO : Sta Z h0 "java/lang/Integer" "DigitOnes" "[B" (.ref aO)) (ST : Sta Z h0 "java/lang/Integer" "DigitTens" "[B" (.ref aT)) (BO : own_BV Z h0 aO 100) (BT : own_BV Z h0 aT 100) (CHZ : CHv Z own_EL Z.vm h0) :
    MetFree l x (head1 (Jvm.Cond.code x code maxLocals ret :: ws) room_1) (fun a U => a = #[(.int p1), (.int p2), (.long p3), (.long p4)] ∧ Z.Warmed39 U.vm ∧ U.heap = h0 ∧ U = Z) (fun _ _ _ _ _ => True) (fun _ U o U' => ∃ v L, o = .returned v ∧ Q0 Z p1 p2 p3 p4 kc aD aO aT h0 n0 v U'.heap L ∧ ReturnedEndW U o U' L 48 1664) := by
  refine MetFree.of_bodySF (plainFor_of_name pn_com_example_vesch_vesch_engine_TraceIsOnPinLaw) hisR ?_
  intro p e s m args below meth c s₁ Bd hml0 hP hK
  obtain ⟨rfl, hZ, hh, hU⟩ := hP
  have hx := Bd.exec
  have hby := Bd.bytes
  have hml : c.maxLocals = 12 := hml0
  have hown : s.vm.findClass "com/example/vesch/vesch/engine/TraceIsOnPinLaw" = some m.cls := findClass_of_methodNamed Bd.named
  have hnm := (name_of_methodNamed Bd.named Bd.method).1
  have X0 : Stand p l e room_1 s m #[(.int p1), (.int p2), (.long p3), (.long p4)] below meth c s₁ [] 0 0 := Stand.of_body Bd
  have e0 : s₁.heap = h0 := by rw [← hh, Bd.state]; rfl
  have N0 := Fr.nil n0
  have pre0 : ∀ tG, Steps p.tables e below (s₁.setTop (mkF m 0 #[.val (.int p1), .val (.int p2), .val (.long p3), .second, .val (.long p4), .second, .unset, .unset, .unset, .unset, .unset, .unset] [])) tG → Steps p.tables e below (s₁.setTop (entryFrame m #[(.int p1), (.int p2), (.long p3), (.long p4)] maxLocals)) tG := fun tG kG => castTop (ef_rm0 m p1 p2 p3 p4) kG
  have hS0 : s.Since s.vm 0 := (State.WarmedH.refl s).since 0
  have hk0 : 0 ≤ h0.size := Nat.zero_le _
  have CH0 : CHv Z own_EL s.vm h0 := by rw [hU]; exact CHZ
  have G951 : ∀ tG, Steps p.tables e below (s₁.setTop (mkF m 3 #[.val (.int p1), .val (.int p2), .val (.long p3), .second, .val (.long p4), .second, .unset, .unset, .unset, .unset, .unset, .unset] [(.int (p1 &&& (1 : Int32)))])) tG → Steps p.tables e below (s₁.setTop (mkF m 0 #[.val (.int p1), .val (.int p2), .val (.long p3), .second, .val (.long p4), .second, .unset, .unset, .unset, .unset, .unset, .unset] [])) tG := by
    intro tG kG
    refine own_iloadN X0.here hx (hb hby at_0) rfl ?_
    refine own_iconst X0.here hx (1 : Int32) (hb hby at_1) rfl ?_
    refine own_iand X0.here hx (hb hby at_2) ?_
    exact kG
  by_cases hc3 : (p1 &&& (1 : Int32)) = (0 : Int32)
  · obtain ⟨T952, h952, X952, e952, E952, A952, D952, -, st952⟩ := newO X0 hx hZ hown (own_w hw 0 rfl) (own_w hw 1 rfl) (own_w hw 2 rfl) e0 (g := (mkF m 13 #[.val (.int p1), .val (.int p2), .val (.long p3), .second, .val (.long p4), .second, .val (.int 0), .unset, .unset, .unset, .unset, .unset] [])) rfl (hb hby at_13) (by decide) (by decide)
    obtain ⟨b952, g952⟩ : ∃ z, z = h0.size := ⟨_, rfl⟩
    rw [← g952] at A952 D952 st952
    have E952' := E952
    have gg952 : n0 ≤ b952 := Nat.le_trans Z0 (Nat.le_of_eq g952.symm)
    have sz952 : h0.size ≤ b952 := Nat.le_trans (Keep.refl h0 []).1 (Nat.le_of_eq g952.symm)
    have ne953 : aD ≠ b952 := Nat.ne_of_lt (Nat.lt_of_lt_of_le OD.lt (Nat.le_of_eq g952.symm))
    have ne954 : aO ≠ b952 := Nat.ne_of_lt (Nat.lt_of_lt_of_le BO.lt (Nat.le_of_eq g952.symm))
    have ne955 : aT ≠ b952 := Nat.ne_of_lt (Nat.lt_of_lt_of_le BT.lt (Nat.le_of_eq g952.symm))
    have Z952 : n0 ≤ h952.size := Nat.le_trans Z0 E952.1
    have hk952 := Nat.le_trans hk0 E952.1
    have K952 : Keep h0 h952 [] := (Keep.refl h0 []).ext E952
    have f956 : Sta Z h952 "java/lang/String" "COMPACT_STRINGS" "Z" (.int kc) := SC.ext E952
    have f957 : Sta Z h952 "java/util/ArrayList" "DEFAULTCAPACITY_EMPTY_ELEMENTDATA" "[Ljava/lang/Object;" (.ref aD) := SD.ext E952
    have f958 : Sta Z h952 "java/lang/Integer" "DigitOnes" "[B" (.ref aO) := SO.ext E952
    have f959 : Sta Z h952 "java/lang/Integer" "DigitTens" "[B" (.ref aT) := ST.ext E952
    have f960 : own_OL Z h952 aD (0 : Int32) := OD.ext E952
    have f961 : own_BV Z h952 aO (100 : Int32) := BO.ext E952
    have f962 : own_BV Z h952 aT (100 : Int32) := BT.ext E952
    have f963 : Fld Z h952 b952 "com/example/vesch/vesch/engine/Trace" "events" "Ljava/util/List;" .null := D952 (Or.inr (own_w hw 10 rfl)) (ty := (.object "java/util/List")) (by decide)
    obtain ⟨_, _, ⟨T964, L964, k964, n964⟩, -, X964, ⟨Lc964, hQ964, l964, y964, z964⟩, st964⟩ := X952.specialBack hx (y := (⟨"com/example/vesch/vesch/engine/Trace", "<init>", "(Z)V"⟩ : MethodName)) rfl hown (mvT hZ (own_w hw 3 rfl)) (mvT hZ (own_w hw 4 rfl)) (mvT hZ (own_w hw 5 rfl)) (by decide) (backOf (W := 1) (rmT0 l Z a0 hw [] b952 h952 n0 Z952 A952 gg952 f963) hZ (own_w hw 5 rfl) (own_w hw 2 rfl) (by decide) (by decide)) (g := (mkF m 19 #[.val (.int p1), .val (.int p2), .val (.long p3), .second, .val (.long p4), .second, .val (.int 0), .unset, .unset, .unset, .unset, .unset] [(.int 0), (.ref b952), (.ref b952)])) rfl (by rw [hml]; rfl) (Steps.refl _) (a := b952) (argsL := [(.int 0)]) (rest := [(.ref b952)]) (lenOf pd_28Z29V rfl) rfl (by show 2 * 0 + _ ≤ _; exact Nat.le_of_eq rfl) (hb hby at_19) (fun _ _ => ⟨rfl, e952, (by decide : 1 + 0 ≤ _), (by decide : 1 + 0 ≤ _)⟩)
    dsimp only [Pt.U, Pt.locs, Pt.cells, Pt.slots] at X964 l964 y964 z964 st964 hQ964
    subst l964 y964 z964
    obtain ⟨rfl, N964q, Kq964, E964x, FE964⟩ := hQ964
    have N964 := Fr.app N0 N964q
    have Z964 : n0 ≤ T964.heap.size := Nat.le_trans Z952 Kq964.1
    have hk964 := Nat.le_trans hk952 Kq964.1
    have K964 : Keep h0 T964.heap [] := K952.trans Kq964 (allS (Or.inr sz952) all0)
    have f965 : Sta Z T964.heap "java/lang/String" "COMPACT_STRINGS" "Z" (.int kc) := own_sta_keep f956 Kq964 (nsS A952.nostat ns0)
    obtain ⟨cq966, kq966, q966a, q966b, q966c⟩ := isOf hZ rfl E964x
    obtain ⟨_, _, ⟨T966, L966, k966, n966⟩, -, X966, ⟨Lc966, hQ966, l966, y966, z966⟩, st966⟩ := X964.virtualBack hx (y := (⟨"com/example/vesch/vesch/engine/Trace", "isOn", "()Z"⟩ : MethodName)) (z := (⟨"com/example/vesch/vesch/engine/Trace", "isOn", "()Z"⟩ : MethodName)) hown (mvT hZ (own_w hw 11 rfl)) (mvT hZ (own_w hw 12 rfl)) (notFace_of_selects (args := #[]) (mvT hZ (own_w hw 14 rfl))) (mvT hZ (own_w hw 14 rfl)) (mvT hZ (own_w hw 13 rfl)) (by decide) (backOf (W := 0) (rmO0 l Z a0 hw [] b952 T964.heap n0 Z964 FE964) hZ (own_w hw 15 rfl) (own_w hw 2 rfl) (by decide) (by decide)) q966a q966c (g := (mkF m 26 #[.val (.int p1), .val (.int p2), .val (.long p3), .second, .val (.long p4), .second, .val (.int 0), .val (.ref b952), .unset, .unset, .unset, .unset] [(.ref b952)])) rfl (by rw [hml]; rfl) (Steps.refl _) (argsL := []) (rest := []) (lenOf pd_2829Z rfl) rfl (by show 2 * 0 + _ ≤ _; exact Nat.le_of_eq rfl) (hb hby at_26) (fun _ _ => ⟨rfl, rfl, (by decide : 1 + 0 ≤ _), (by decide : 1 + 0 ≤ _)⟩)
    dsimp only [Pt.U, Pt.locs, Pt.cells, Pt.slots] at X966 l966 y966 z966 st966 hQ966
    subst l966 y966 z966
    obtain ⟨rfl, N966q, e966⟩ := hQ966
    have N966 := Fr.app N964 N966q
    obtain ⟨_, _, ⟨T967, L967, k967, n967⟩, -, X967, ⟨Lc967, hQ967, l967, y967, z967⟩, st967⟩ := Jvm.LawKit.callS X966 hx (y := (⟨"java/lang/String", "valueOf", "(C)Ljava/lang/String;"⟩ : MethodName)) hown (mvT hZ (own_w hw 16 rfl)) (mvT hZ (own_w hw 17 rfl)) (mvT hZ (own_w hw 18 rfl)) (mvT hZ (own_w hw 19 rfl)) (by decide) (backOf (W := 0) (rmVO l Z a0 hw [] ((p2 &&& (255 : Int32)).toUInt32.toUInt16.toUInt32.toInt32) kc T964.heap n0 Z964 f965 hkc (own_c255 p2)) hZ (own_w hw 19 rfl) (own_w hw 18 rfl) (by decide) (by decide)) (g := (mkF m 47 #[.val (.int p1), .val (.int p2), .val (.long p3), .second, .val (.long p4), .second, .val (.int 0), .val (.ref b952), .val (.int 1), .unset, .unset, .unset] [(.int ((p2 &&& (255 : Int32)).toUInt32.toUInt16.toUInt32.toInt32))])) rfl (by rw [hml]; rfl) (argsL := [(.int ((p2 &&& (255 : Int32)).toUInt32.toUInt16.toUInt32.toInt32))]) (rest := []) (lenOf pd_28C29Ljava2flang2fString3b rfl) rfl (by show 2 * 0 + _ ≤ _; exact Nat.le_of_eq rfl) (hb hby at_47) (fun _ _ => ⟨rfl, e966, (by decide : 1 + 2 ≤ _), (by decide : 1 + 5 ≤ _)⟩)
    dsimp only [Pt.U, Pt.locs, Pt.cells, Pt.slots] at X967 l967 y967 z967 st967 hQ967
    subst l967 y967 z967
    obtain ⟨c967, d967, rfl, N967q, Kq967, lt967, lu967, E967x, FC967, FV967, BA967⟩ := hQ967
    have gg967_c967 : n0 ≤ c967 := Nat.le_trans Z964 lt967
    have sz967_c967 : h0.size ≤ c967 := Nat.le_trans K964.1 lt967
    have ne968 : b952 ≠ c967 := Nat.ne_of_lt (Nat.lt_of_lt_of_le E964x.lt lt967)
    have gg967_d967 : n0 ≤ d967 := Nat.le_trans Z964 lu967
    have sz967_d967 : h0.size ≤ d967 := Nat.le_trans K964.1 lu967
    have ne969 : b952 ≠ d967 := Nat.ne_of_lt (Nat.lt_of_lt_of_le E964x.lt lu967)
    have N967 := Fr.app N966 N967q
    have Z967 : n0 ≤ T967.heap.size := Nat.le_trans Z964 Kq967.1
    have hk967 := Nat.le_trans hk964 Kq967.1
    have K967 : Keep h0 T967.heap [] := K964.trans Kq967 all0
    have f970 : Sta Z T967.heap "java/lang/String" "COMPACT_STRINGS" "Z" (.int kc) := own_sta_keep f965 Kq967 ns0
    have f971 : Exa Z T967.heap b952 "com/example/vesch/vesch/engine/Trace" := E964x.keep Kq967
    have f972 : Fld Z T967.heap b952 "com/example/vesch/vesch/engine/Trace" "events" "Ljava/util/List;" .null := FE964.keep Kq967 nin0
    obtain ⟨cq973, kq973, q973a, q973b, q973c⟩ := isOf hZ rfl f971
    obtain ⟨_, _, ⟨T973, L973, k973, n973⟩, -, X973, ⟨Lc973, hQ973, l973, y973, z973⟩, st973⟩ := X967.virtualBack hx (y := (⟨"com/example/vesch/vesch/engine/Trace", "add", "(Ljava/lang/String;)V"⟩ : MethodName)) (z := (⟨"com/example/vesch/vesch/engine/Trace", "add", "(Ljava/lang/String;)V"⟩ : MethodName)) hown (mvT hZ (own_w hw 40 rfl)) (mvT hZ (own_w hw 41 rfl)) (notFace_of_selects (args := #[]) (mvT hZ (own_w hw 43 rfl))) (mvT hZ (own_w hw 43 rfl)) (mvT hZ (own_w hw 42 rfl)) (by decide) (backOf (W := 0) (rmF1 l Z a0 hw [] b952 c967 T967.heap n0 Z967 f972) hZ (own_w hw 44 rfl) (own_w hw 2 rfl) (by decide) (by decide)) q973a q973c (g := (mkF m 56 #[.val (.int p1), .val (.int p2), .val (.long p3), .second, .val (.long p4), .second, .val (.int 0), .val (.ref b952), .val (.int 1), .val (.ref c967), .unset, .unset] [(.ref c967), (.ref b952)])) rfl (by rw [hml]; rfl) (Steps.refl _) (argsL := [(.ref c967)]) (rest := []) (lenOf pd_28Ljava2flang2fString3b29V rfl) rfl (by show 2 * 0 + _ ≤ _; exact Nat.le_of_eq rfl) (hb hby at_56) (fun _ _ => ⟨rfl, rfl, (by decide : 3 + 0 ≤ _), (by decide : 6 + 0 ≤ _)⟩)
    dsimp only [Pt.U, Pt.locs, Pt.cells, Pt.slots] at X973 l973 y973 z973 st973 hQ973
    subst l973 y973 z973
    obtain ⟨rfl, N973q, e973⟩ := hQ973
    have N973 := Fr.app N967 N973q
    obtain ⟨cq974, kq974, q974a, q974b, q974c⟩ := isOf hZ e973 f971
    obtain ⟨_, _, ⟨T974, L974, k974, n974⟩, -, X974, ⟨Lc974, hQ974, l974, y974, z974⟩, st974⟩ := X973.virtualBack hx (y := (⟨"com/example/vesch/vesch/engine/Trace", "isOn", "()Z"⟩ : MethodName)) (z := (⟨"com/example/vesch/vesch/engine/Trace", "isOn", "()Z"⟩ : MethodName)) hown (mvT hZ (own_w hw 11 rfl)) (mvT hZ (own_w hw 12 rfl)) (notFace_of_selects (args := #[]) (mvT hZ (own_w hw 14 rfl))) (mvT hZ (own_w hw 14 rfl)) (mvT hZ (own_w hw 13 rfl)) (by decide) (backOf (W := 0) (rmO0 l Z a0 hw [] b952 T967.heap n0 Z967 f972) hZ (own_w hw 15 rfl) (own_w hw 2 rfl) (by decide) (by decide)) q974a q974c (g := (mkF m 61 #[.val (.int p1), .val (.int p2), .val (.long p3), .second, .val (.long p4), .second, .val (.int 0), .val (.ref b952), .val (.int 1), .val (.ref c967), .unset, .unset] [(.ref b952)])) rfl (by rw [hml]; rfl) (Steps.refl _) (argsL := []) (rest := []) (lenOf pd_2829Z rfl) rfl (by show 2 * 0 + _ ≤ _; exact Nat.le_of_eq rfl) (hb hby at_61) (fun _ _ => ⟨rfl, e973, (by decide : 3 + 0 ≤ _), (by decide : 6 + 0 ≤ _)⟩)
    dsimp only [Pt.U, Pt.locs, Pt.cells, Pt.slots] at X974 l974 y974 z974 st974 hQ974
    subst l974 y974 z974
    obtain ⟨rfl, N974q, e974⟩ := hQ974
    have N974 := Fr.app N973 N974q
    obtain ⟨cq975, kq975, q975a, q975b, q975c⟩ := isOf hZ e974 f971
    obtain ⟨_, _, ⟨T975, L975, k975, n975⟩, -, X975, ⟨Lc975, hQ975, l975, y975, z975⟩, st975⟩ := X974.virtualBack hx (y := (⟨"com/example/vesch/vesch/engine/Trace", "add", "(Ljava/lang/String;J)V"⟩ : MethodName)) (z := (⟨"com/example/vesch/vesch/engine/Trace", "add", "(Ljava/lang/String;J)V"⟩ : MethodName)) hown (mvT hZ (own_w hw 45 rfl)) (mvT hZ (own_w hw 46 rfl)) (notFace_of_selects (args := #[]) (mvT hZ (own_w hw 48 rfl))) (mvT hZ (own_w hw 48 rfl)) (mvT hZ (own_w hw 47 rfl)) (by decide) (backOf (W := 0) (rmF2 l Z a0 hw [] b952 c967 p3 T967.heap n0 Z967 f972) hZ (own_w hw 49 rfl) (own_w hw 2 rfl) (by decide) (by decide)) q975a q975c (g := (mkF m 81 #[.val (.int p1), .val (.int p2), .val (.long p3), .second, .val (.long p4), .second, .val (.int 0), .val (.ref b952), .val (.int 1), .val (.ref c967), .val (.int 1), .unset] [(.long p3), (.ref c967), (.ref b952)])) rfl (by rw [hml]; rfl) (Steps.refl _) (argsL := [(.ref c967), (.long p3)]) (rest := []) (lenOf pd_28Ljava2flang2fString3bJ29V rfl) rfl (by show 2 * 0 + _ ≤ _; exact Nat.le_of_eq rfl) (hb hby at_81) (fun _ _ => ⟨rfl, e974, (by decide : 3 + 0 ≤ _), (by decide : 6 + 0 ≤ _)⟩)
    dsimp only [Pt.U, Pt.locs, Pt.cells, Pt.slots] at X975 l975 y975 z975 st975 hQ975
    subst l975 y975 z975
    obtain ⟨rfl, N975q, e975⟩ := hQ975
    have N975 := Fr.app N974 N975q
    obtain ⟨cq976, kq976, q976a, q976b, q976c⟩ := isOf hZ e975 f971
    obtain ⟨_, _, ⟨T976, L976, k976, n976⟩, -, X976, ⟨Lc976, hQ976, l976, y976, z976⟩, st976⟩ := X975.virtualBack hx (y := (⟨"com/example/vesch/vesch/engine/Trace", "add", "(Ljava/lang/String;JJ)V"⟩ : MethodName)) (z := (⟨"com/example/vesch/vesch/engine/Trace", "add", "(Ljava/lang/String;JJ)V"⟩ : MethodName)) hown (mvT hZ (own_w hw 50 rfl)) (mvT hZ (own_w hw 51 rfl)) (notFace_of_selects (args := #[]) (mvT hZ (own_w hw 53 rfl))) (mvT hZ (own_w hw 53 rfl)) (mvT hZ (own_w hw 52 rfl)) (by decide) (backOf (W := 0) (rmF3 l Z a0 hw [] b952 c967 p3 p4 T967.heap n0 Z967 f972) hZ (own_w hw 54 rfl) (own_w hw 2 rfl) (by decide) (by decide)) q976a q976c (g := (mkF m 91 #[.val (.int p1), .val (.int p2), .val (.long p3), .second, .val (.long p4), .second, .val (.int 0), .val (.ref b952), .val (.int 1), .val (.ref c967), .val (.int 1), .unset] [(.long p4), (.long p3), (.ref c967), (.ref b952)])) rfl (by rw [hml]; rfl) (Steps.refl _) (argsL := [(.ref c967), (.long p3), (.long p4)]) (rest := []) (lenOf pd_28Ljava2flang2fString3bJJ29V rfl) rfl (by show 2 * 0 + _ ≤ _; exact Nat.le_of_eq rfl) (hb hby at_91) (fun _ _ => ⟨rfl, e975, (by decide : 3 + 0 ≤ _), (by decide : 6 + 0 ≤ _)⟩)
    dsimp only [Pt.U, Pt.locs, Pt.cells, Pt.slots] at X976 l976 y976 z976 st976 hQ976
    subst l976 y976 z976
    obtain ⟨rfl, N976q, e976⟩ := hQ976
    have N976 := Fr.app N975 N976q
    obtain ⟨cq977, kq977, q977a, q977b, q977c⟩ := isOf hZ e976 f971
    obtain ⟨_, _, ⟨T977, L977, k977, n977⟩, -, X977, ⟨Lc977, hQ977, l977, y977, z977⟩, st977⟩ := X976.virtualBack hx (y := (⟨"com/example/vesch/vesch/engine/Trace", "isOn", "()Z"⟩ : MethodName)) (z := (⟨"com/example/vesch/vesch/engine/Trace", "isOn", "()Z"⟩ : MethodName)) hown (mvT hZ (own_w hw 11 rfl)) (mvT hZ (own_w hw 12 rfl)) (notFace_of_selects (args := #[]) (mvT hZ (own_w hw 14 rfl))) (mvT hZ (own_w hw 14 rfl)) (mvT hZ (own_w hw 13 rfl)) (by decide) (backOf (W := 0) (rmO0 l Z a0 hw [] b952 T967.heap n0 Z967 f972) hZ (own_w hw 15 rfl) (own_w hw 2 rfl) (by decide) (by decide)) q977a q977c (g := (mkF m 96 #[.val (.int p1), .val (.int p2), .val (.long p3), .second, .val (.long p4), .second, .val (.int 0), .val (.ref b952), .val (.int 1), .val (.ref c967), .val (.int 1), .unset] [(.ref b952)])) rfl (by rw [hml]; rfl) (Steps.refl _) (argsL := []) (rest := []) (lenOf pd_2829Z rfl) rfl (by show 2 * 0 + _ ≤ _; exact Nat.le_of_eq rfl) (hb hby at_96) (fun _ _ => ⟨rfl, e976, (by decide : 3 + 0 ≤ _), (by decide : 6 + 0 ≤ _)⟩)
    dsimp only [Pt.U, Pt.locs, Pt.cells, Pt.slots] at X977 l977 y977 z977 st977 hQ977
    subst l977 y977 z977
    obtain ⟨rfl, N977q, e977⟩ := hQ977
    have N977 := Fr.app N976 N977q
    obtain ⟨fs, hr, hrun, hended, hW⟩ := Stand.leaveW (s := s) (vm₁ := s.vm) X977 hS0 (by rw [e977]; exact hk967) (v := some (.int 1)) (fun h => by rw [Bd.returns] at h; cases h)
    refine ⟨_, _, pre0 _ ?_, hrun, hended, _, _, rfl, ?_, hW.1, hW.2.1, hW.2.2.1, hW.2.2.2.mono (by decide) (by decide)⟩
    · refine G951 _ ?_
      refine own_ifYes X0.here hx 3 10 rfl (hb hby at_3) ((if0 _ _).trans (teq hc3).1) (by decide) (by decide) ?_
      refine own_iconst X0.here hx (0 : Int32) (hb hby at_10) rfl ?_
      refine own_istore X0.here hx (hb hby at_11) (l' := #[.val (.int p1), .val (.int p2), .val (.long p3), .second, .val (.long p4), .second, .val (.int 0), .unset, .unset, .unset, .unset, .unset]) rfl ?_
      refine st952 _ ?_
      show Steps p.tables e below (T952.setTop (mkF m 16 #[.val (.int p1), .val (.int p2), .val (.long p3), .second, .val (.long p4), .second, .val (.int 0), .unset, .unset, .unset, .unset, .unset] [(.ref b952)])) _
      refine own_dup X952.here hx (hb hby at_16) rfl ?_
      refine own_iload X952.here hx (hb hby at_17) rfl ?_
      refine st964.trans ?_
      show Steps p.tables e below (T964.setTop (mkF m 22 #[.val (.int p1), .val (.int p2), .val (.long p3), .second, .val (.long p4), .second, .val (.int 0), .unset, .unset, .unset, .unset, .unset] [(.ref b952)])) _
      refine own_astore X964.here hx (hb hby at_22) rfl (l' := #[.val (.int p1), .val (.int p2), .val (.long p3), .second, .val (.long p4), .second, .val (.int 0), .val (.ref b952), .unset, .unset, .unset, .unset]) rfl ?_
      refine own_aload X964.here hx (hb hby at_24) rfl rfl ?_
      refine st966.trans ?_
      show Steps p.tables e below (T966.setTop (mkF m 29 #[.val (.int p1), .val (.int p2), .val (.long p3), .second, .val (.long p4), .second, .val (.int 0), .val (.ref b952), .unset, .unset, .unset, .unset] [(.int 0)])) _
      refine own_iload X966.here hx (hb hby at_29) rfl ?_
      refine own_icmpNo X966.here hx (hb hby at_31) (teq (by decide : (0 : Int32) = (0 : Int32))).2 ?_
      refine own_iconst X966.here hx (1 : Int32) (hb hby at_34) rfl ?_
      refine own_goto X966.here hx 35 39 rfl (hb hby at_35) (by decide) (by decide) ?_
      refine own_istore X966.here hx (hb hby at_39) (l' := #[.val (.int p1), .val (.int p2), .val (.long p3), .second, .val (.long p4), .second, .val (.int 0), .val (.ref b952), .val (.int 1), .unset, .unset, .unset]) rfl ?_
      refine own_iloadN X966.here hx (hb hby at_41) rfl ?_
      refine own_sipush X966.here hx (255 : Int32) (hb hby at_42) rfl ?_
      refine own_iand X966.here hx (hb hby at_45) ?_
      refine own_i2c X966.here hx (hb hby at_46) ?_
      refine st967 _ ?_
      show Steps p.tables e below (T967.setTop (mkF m 50 #[.val (.int p1), .val (.int p2), .val (.long p3), .second, .val (.long p4), .second, .val (.int 0), .val (.ref b952), .val (.int 1), .unset, .unset, .unset] [(.ref c967)])) _
      refine own_astore X967.here hx (hb hby at_50) rfl (l' := #[.val (.int p1), .val (.int p2), .val (.long p3), .second, .val (.long p4), .second, .val (.int 0), .val (.ref b952), .val (.int 1), .val (.ref c967), .unset, .unset]) rfl ?_
      refine own_aload X967.here hx (hb hby at_52) rfl rfl ?_
      refine own_aload X967.here hx (hb hby at_54) rfl rfl ?_
      refine st973.trans ?_
      show Steps p.tables e below (T973.setTop (mkF m 59 #[.val (.int p1), .val (.int p2), .val (.long p3), .second, .val (.long p4), .second, .val (.int 0), .val (.ref b952), .val (.int 1), .val (.ref c967), .unset, .unset] [])) _
      refine own_aload X973.here hx (hb hby at_59) rfl rfl ?_
      refine st974.trans ?_
      show Steps p.tables e below (T974.setTop (mkF m 64 #[.val (.int p1), .val (.int p2), .val (.long p3), .second, .val (.long p4), .second, .val (.int 0), .val (.ref b952), .val (.int 1), .val (.ref c967), .unset, .unset] [(.int 0)])) _
      refine own_iload X974.here hx (hb hby at_64) rfl ?_
      refine own_icmpNo X974.here hx (hb hby at_66) (teq (by decide : (0 : Int32) = (0 : Int32))).2 ?_
      refine own_iconst X974.here hx (1 : Int32) (hb hby at_69) rfl ?_
      refine own_goto X974.here hx 70 74 rfl (hb hby at_70) (by decide) (by decide) ?_
      refine own_istore X974.here hx (hb hby at_74) (l' := #[.val (.int p1), .val (.int p2), .val (.long p3), .second, .val (.long p4), .second, .val (.int 0), .val (.ref b952), .val (.int 1), .val (.ref c967), .val (.int 1), .unset]) rfl ?_
      refine own_aload X974.here hx (hb hby at_76) rfl rfl ?_
      refine own_aload X974.here hx (hb hby at_78) rfl rfl ?_
      refine own_lloadN X974.here hx (hb hby at_80) rfl ?_
      refine st975.trans ?_
      show Steps p.tables e below (T975.setTop (mkF m 84 #[.val (.int p1), .val (.int p2), .val (.long p3), .second, .val (.long p4), .second, .val (.int 0), .val (.ref b952), .val (.int 1), .val (.ref c967), .val (.int 1), .unset] [])) _
      refine own_aload X975.here hx (hb hby at_84) rfl rfl ?_
      refine own_aload X975.here hx (hb hby at_86) rfl rfl ?_
      refine own_lloadN X975.here hx (hb hby at_88) rfl ?_
      refine own_lload X975.here hx (hb hby at_89) rfl ?_
      refine st976.trans ?_
      show Steps p.tables e below (T976.setTop (mkF m 94 #[.val (.int p1), .val (.int p2), .val (.long p3), .second, .val (.long p4), .second, .val (.int 0), .val (.ref b952), .val (.int 1), .val (.ref c967), .val (.int 1), .unset] [])) _
      refine own_aload X976.here hx (hb hby at_94) rfl rfl ?_
      refine st977.trans ?_
      show Steps p.tables e below (T977.setTop (mkF m 99 #[.val (.int p1), .val (.int p2), .val (.long p3), .second, .val (.long p4), .second, .val (.int 0), .val (.ref b952), .val (.int 1), .val (.ref c967), .val (.int 1), .unset] [(.int 0)])) _
      refine own_iload X977.here hx (hb hby at_99) rfl ?_
      refine own_icmpNo X977.here hx (hb hby at_101) (teq (by decide : (0 : Int32) = (0 : Int32))).2 ?_
      refine own_iconst X977.here hx (1 : Int32) (hb hby at_104) rfl ?_
      refine own_goto X977.here hx 105 109 rfl (hb hby at_105) (by decide) (by decide) ?_
      refine own_istore X977.here hx (hb hby at_109) (l' := #[.val (.int p1), .val (.int p2), .val (.long p3), .second, .val (.long p4), .second, .val (.int 0), .val (.ref b952), .val (.int 1), .val (.ref c967), .val (.int 1), .val (.int 1)]) rfl ?_
      refine own_iload X977.here hx (hb hby at_111) rfl ?_
      refine own_ifNo X977.here hx (hb hby at_113) ((if0 _ _).trans (feq (by decide : ¬ ((1 : Int32) = (0 : Int32)))).1) ?_
      refine own_iload X977.here hx (hb hby at_116) rfl ?_
      refine own_ifNo X977.here hx (hb hby at_118) ((if0 _ _).trans (feq (by decide : ¬ ((1 : Int32) = (0 : Int32)))).1) ?_
      refine own_iload X977.here hx (hb hby at_121) rfl ?_
      refine own_ifNo X977.here hx (hb hby at_123) ((if0 _ _).trans (feq (by decide : ¬ ((1 : Int32) = (0 : Int32)))).1) ?_
      refine own_iconst X977.here hx (1 : Int32) (hb hby at_126) rfl ?_
      refine own_goto X977.here hx 127 131 rfl (hb hby at_127) (by decide) (by decide) ?_
      exact retN X977 hx (t := .boolean) Bd.returns (by simp) (hb hby at_131) hr
    · show Q0 Z p1 p2 p3 p4 kc aD aO aT h0 n0 _ T977.heap _
      rw [e977]
      exact ⟨rfl, N977⟩
  · obtain ⟨T978, h978, X978, e978, E978, A978, D978, -, st978⟩ := newO X0 hx hZ hown (own_w hw 0 rfl) (own_w hw 1 rfl) (own_w hw 2 rfl) e0 (g := (mkF m 13 #[.val (.int p1), .val (.int p2), .val (.long p3), .second, .val (.long p4), .second, .val (.int 1), .unset, .unset, .unset, .unset, .unset] [])) rfl (hb hby at_13) (by decide) (by decide)
    obtain ⟨b978, g978⟩ : ∃ z, z = h0.size := ⟨_, rfl⟩
    rw [← g978] at A978 D978 st978
    have E978' := E978
    have gg978 : n0 ≤ b978 := Nat.le_trans Z0 (Nat.le_of_eq g978.symm)
    have sz978 : h0.size ≤ b978 := Nat.le_trans (Keep.refl h0 []).1 (Nat.le_of_eq g978.symm)
    have ne979 : aD ≠ b978 := Nat.ne_of_lt (Nat.lt_of_lt_of_le OD.lt (Nat.le_of_eq g978.symm))
    have ne980 : aO ≠ b978 := Nat.ne_of_lt (Nat.lt_of_lt_of_le BO.lt (Nat.le_of_eq g978.symm))
    have ne981 : aT ≠ b978 := Nat.ne_of_lt (Nat.lt_of_lt_of_le BT.lt (Nat.le_of_eq g978.symm))
    have Z978 : n0 ≤ h978.size := Nat.le_trans Z0 E978.1
    have hk978 := Nat.le_trans hk0 E978.1
    have K978 : Keep h0 h978 [] := (Keep.refl h0 []).ext E978
    have f982 : Sta Z h978 "java/lang/String" "COMPACT_STRINGS" "Z" (.int kc) := SC.ext E978
    have f983 : Sta Z h978 "java/util/ArrayList" "DEFAULTCAPACITY_EMPTY_ELEMENTDATA" "[Ljava/lang/Object;" (.ref aD) := SD.ext E978
    have f984 : Sta Z h978 "java/lang/Integer" "DigitOnes" "[B" (.ref aO) := SO.ext E978
    have f985 : Sta Z h978 "java/lang/Integer" "DigitTens" "[B" (.ref aT) := ST.ext E978
    have f986 : own_OL Z h978 aD (0 : Int32) := OD.ext E978
    have f987 : own_BV Z h978 aO (100 : Int32) := BO.ext E978
    have f988 : own_BV Z h978 aT (100 : Int32) := BT.ext E978
    have f989 : Fld Z h978 b978 "com/example/vesch/vesch/engine/Trace" "events" "Ljava/util/List;" .null := D978 (Or.inr (own_w hw 10 rfl)) (ty := (.object "java/util/List")) (by decide)
    obtain ⟨_, _, ⟨T990, L990, k990, n990⟩, -, X990, ⟨Lc990, hQ990, l990, y990, z990⟩, st990⟩ := X978.specialBack hx (y := (⟨"com/example/vesch/vesch/engine/Trace", "<init>", "(Z)V"⟩ : MethodName)) rfl hown (mvT hZ (own_w hw 3 rfl)) (mvT hZ (own_w hw 4 rfl)) (mvT hZ (own_w hw 5 rfl)) (by decide) (backOf (W := 1) (rmT1 l Z a0 hw [] b978 aD h978 n0 Z978 A978 gg978 f989 f983) hZ (own_w hw 5 rfl) (own_w hw 2 rfl) (by decide) (by decide)) (g := (mkF m 19 #[.val (.int p1), .val (.int p2), .val (.long p3), .second, .val (.long p4), .second, .val (.int 1), .unset, .unset, .unset, .unset, .unset] [(.int 1), (.ref b978), (.ref b978)])) rfl (by rw [hml]; rfl) (Steps.refl _) (a := b978) (argsL := [(.int 1)]) (rest := [(.ref b978)]) (lenOf pd_28Z29V rfl) rfl (by show 2 * 0 + _ ≤ _; exact Nat.le_of_eq rfl) (hb hby at_19) (fun _ _ => ⟨rfl, e978, (by decide : 1 + 1 ≤ _), (by decide : 1 + 3 ≤ _)⟩)
    dsimp only [Pt.U, Pt.locs, Pt.cells, Pt.slots] at X990 l990 y990 z990 st990 hQ990
    subst l990 y990 z990
    obtain ⟨rfl, N990q, Kq990, Et990, c990, lt990, FE990, E990x, F990_modCount, F990_elementData, F990_size⟩ := hQ990
    have gg990_c990 : n0 ≤ c990 := Nat.le_trans Z978 lt990
    have sz990_c990 : h0.size ≤ c990 := Nat.le_trans K978.1 lt990
    have ne991 : aD ≠ c990 := Nat.ne_of_lt (Nat.lt_of_lt_of_le f986.lt lt990)
    have ne992 : aO ≠ c990 := Nat.ne_of_lt (Nat.lt_of_lt_of_le f987.lt lt990)
    have ne993 : aT ≠ c990 := Nat.ne_of_lt (Nat.lt_of_lt_of_le f988.lt lt990)
    have ne994 : b978 ≠ c990 := Nat.ne_of_lt (Nat.lt_of_lt_of_le A978.lt lt990)
    have N990 := Fr.app N0 N990q
    have Z990 : n0 ≤ T990.heap.size := Nat.le_trans Z978 Kq990.1
    have hk990 := Nat.le_trans hk978 Kq990.1
    have K990 : Keep h0 T990.heap [] := K978.trans Kq990 (allS (Or.inr sz978) all0)
    have f995 : Sta Z T990.heap "java/lang/String" "COMPACT_STRINGS" "Z" (.int kc) := own_sta_keep f982 Kq990 (nsS A978.nostat ns0)
    have f996 : Sta Z T990.heap "java/util/ArrayList" "DEFAULTCAPACITY_EMPTY_ELEMENTDATA" "[Ljava/lang/Object;" (.ref aD) := own_sta_keep f983 Kq990 (nsS A978.nostat ns0)
    have f997 : Sta Z T990.heap "java/lang/Integer" "DigitOnes" "[B" (.ref aO) := own_sta_keep f984 Kq990 (nsS A978.nostat ns0)
    have f998 : Sta Z T990.heap "java/lang/Integer" "DigitTens" "[B" (.ref aT) := own_sta_keep f985 Kq990 (nsS A978.nostat ns0)
    have f999 : Exa Z T990.heap b978 "com/example/vesch/vesch/engine/Trace" := A978.keep Kq990
    have f1001 : own_OL Z T990.heap aD (0 : Int32) := f986.keep Kq990 (ninS ne979 nin0)
    have f1002 : own_BV Z T990.heap aO (100 : Int32) := f987.keep Kq990 (ninS ne980 nin0)
    have f1003 : own_BV Z T990.heap aT (100 : Int32) := f988.keep Kq990 (ninS ne981 nin0)
    obtain ⟨cq1004, kq1004, q1004a, q1004b, q1004c⟩ := isOf hZ rfl Et990
    obtain ⟨_, _, ⟨T1004, L1004, k1004, n1004⟩, -, X1004, ⟨Lc1004, hQ1004, l1004, y1004, z1004⟩, st1004⟩ := X990.virtualBack hx (y := (⟨"com/example/vesch/vesch/engine/Trace", "isOn", "()Z"⟩ : MethodName)) (z := (⟨"com/example/vesch/vesch/engine/Trace", "isOn", "()Z"⟩ : MethodName)) hown (mvT hZ (own_w hw 11 rfl)) (mvT hZ (own_w hw 12 rfl)) (notFace_of_selects (args := #[]) (mvT hZ (own_w hw 14 rfl))) (mvT hZ (own_w hw 14 rfl)) (mvT hZ (own_w hw 13 rfl)) (by decide) (backOf (W := 0) (rmO1 l Z a0 hw [] b978 c990 T990.heap n0 Z990 FE990) hZ (own_w hw 15 rfl) (own_w hw 2 rfl) (by decide) (by decide)) q1004a q1004c (g := (mkF m 26 #[.val (.int p1), .val (.int p2), .val (.long p3), .second, .val (.long p4), .second, .val (.int 1), .val (.ref b978), .unset, .unset, .unset, .unset] [(.ref b978)])) rfl (by rw [hml]; rfl) (Steps.refl _) (argsL := []) (rest := []) (lenOf pd_2829Z rfl) rfl (by show 2 * 0 + _ ≤ _; exact Nat.le_of_eq rfl) (hb hby at_26) (fun _ _ => ⟨rfl, rfl, (by decide : 2 + 0 ≤ _), (by decide : 4 + 0 ≤ _)⟩)
    dsimp only [Pt.U, Pt.locs, Pt.cells, Pt.slots] at X1004 l1004 y1004 z1004 st1004 hQ1004
    subst l1004 y1004 z1004
    obtain ⟨rfl, N1004q, e1004⟩ := hQ1004
    have N1004 := Fr.app N990 N1004q
    obtain ⟨_, _, ⟨T1005, L1005, k1005, n1005⟩, -, X1005, ⟨Lc1005, hQ1005, l1005, y1005, z1005⟩, st1005⟩ := Jvm.LawKit.callS X1004 hx (y := (⟨"java/lang/String", "valueOf", "(C)Ljava/lang/String;"⟩ : MethodName)) hown (mvT hZ (own_w hw 16 rfl)) (mvT hZ (own_w hw 17 rfl)) (mvT hZ (own_w hw 18 rfl)) (mvT hZ (own_w hw 19 rfl)) (by decide) (backOf (W := 0) (rmVO l Z a0 hw [] ((p2 &&& (255 : Int32)).toUInt32.toUInt16.toUInt32.toInt32) kc T990.heap n0 Z990 f995 hkc (own_c255 p2)) hZ (own_w hw 19 rfl) (own_w hw 18 rfl) (by decide) (by decide)) (g := (mkF m 47 #[.val (.int p1), .val (.int p2), .val (.long p3), .second, .val (.long p4), .second, .val (.int 1), .val (.ref b978), .val (.int 1), .unset, .unset, .unset] [(.int ((p2 &&& (255 : Int32)).toUInt32.toUInt16.toUInt32.toInt32))])) rfl (by rw [hml]; rfl) (argsL := [(.int ((p2 &&& (255 : Int32)).toUInt32.toUInt16.toUInt32.toInt32))]) (rest := []) (lenOf pd_28C29Ljava2flang2fString3b rfl) rfl (by show 2 * 0 + _ ≤ _; exact Nat.le_of_eq rfl) (hb hby at_47) (fun _ _ => ⟨rfl, e1004, (by decide : 2 + 2 ≤ _), (by decide : 4 + 5 ≤ _)⟩)
    dsimp only [Pt.U, Pt.locs, Pt.cells, Pt.slots] at X1005 l1005 y1005 z1005 st1005 hQ1005
    subst l1005 y1005 z1005
    obtain ⟨c1005, d1005, rfl, N1005q, Kq1005, lt1005, lu1005, E1005x, FC1005, FV1005, BA1005⟩ := hQ1005
    have gg1005_c1005 : n0 ≤ c1005 := Nat.le_trans Z990 lt1005
    have sz1005_c1005 : h0.size ≤ c1005 := Nat.le_trans K990.1 lt1005
    have ne1006 : b978 ≠ c1005 := Nat.ne_of_lt (Nat.lt_of_lt_of_le Et990.lt lt1005)
    have ne1007 : aD ≠ c1005 := Nat.ne_of_lt (Nat.lt_of_lt_of_le f1001.lt lt1005)
    have ne1008 : aO ≠ c1005 := Nat.ne_of_lt (Nat.lt_of_lt_of_le f1002.lt lt1005)
    have ne1009 : aT ≠ c1005 := Nat.ne_of_lt (Nat.lt_of_lt_of_le f1003.lt lt1005)
    have ne1010 : c990 ≠ c1005 := Nat.ne_of_lt (Nat.lt_of_lt_of_le E990x.lt lt1005)
    have gg1005_d1005 : n0 ≤ d1005 := Nat.le_trans Z990 lu1005
    have sz1005_d1005 : h0.size ≤ d1005 := Nat.le_trans K990.1 lu1005
    have ne1011 : b978 ≠ d1005 := Nat.ne_of_lt (Nat.lt_of_lt_of_le Et990.lt lu1005)
    have ne1012 : aD ≠ d1005 := Nat.ne_of_lt (Nat.lt_of_lt_of_le f1001.lt lu1005)
    have ne1013 : aO ≠ d1005 := Nat.ne_of_lt (Nat.lt_of_lt_of_le f1002.lt lu1005)
    have ne1014 : aT ≠ d1005 := Nat.ne_of_lt (Nat.lt_of_lt_of_le f1003.lt lu1005)
    have ne1015 : c990 ≠ d1005 := Nat.ne_of_lt (Nat.lt_of_lt_of_le E990x.lt lu1005)
    have N1005 := Fr.app N1004 N1005q
    have Z1005 : n0 ≤ T1005.heap.size := Nat.le_trans Z990 Kq1005.1
    have hk1005 := Nat.le_trans hk990 Kq1005.1
    have K1005 : Keep h0 T1005.heap [] := K990.trans Kq1005 all0
    have f1016 : Sta Z T1005.heap "java/lang/String" "COMPACT_STRINGS" "Z" (.int kc) := own_sta_keep f995 Kq1005 ns0
    have f1017 : Sta Z T1005.heap "java/util/ArrayList" "DEFAULTCAPACITY_EMPTY_ELEMENTDATA" "[Ljava/lang/Object;" (.ref aD) := own_sta_keep f996 Kq1005 ns0
    have f1018 : Sta Z T1005.heap "java/lang/Integer" "DigitOnes" "[B" (.ref aO) := own_sta_keep f997 Kq1005 ns0
    have f1019 : Sta Z T1005.heap "java/lang/Integer" "DigitTens" "[B" (.ref aT) := own_sta_keep f998 Kq1005 ns0
    have f1020 : Exa Z T1005.heap b978 "com/example/vesch/vesch/engine/Trace" := Et990.keep Kq1005
    have f1021 : Fld Z T1005.heap b978 "com/example/vesch/vesch/engine/Trace" "events" "Ljava/util/List;" (.ref c990) := FE990.keep Kq1005 nin0
    have f1022 : Exa Z T1005.heap c990 "java/util/ArrayList" := E990x.keep Kq1005
    have f1023 : Fld Z T1005.heap c990 "java/util/AbstractList" "modCount" "I" (.int 0) := F990_modCount.keep Kq1005 nin0
    have f1024 : Fld Z T1005.heap c990 "java/util/ArrayList" "elementData" "[Ljava/lang/Object;" (.ref aD) := F990_elementData.keep Kq1005 nin0
    have f1025 : Fld Z T1005.heap c990 "java/util/ArrayList" "size" "I" (.int 0) := F990_size.keep Kq1005 nin0
    have f1026 : own_OL Z T1005.heap aD (0 : Int32) := f1001.keep Kq1005 nin0
    have f1027 : own_BV Z T1005.heap aO (100 : Int32) := f1002.keep Kq1005 nin0
    have f1028 : own_BV Z T1005.heap aT (100 : Int32) := f1003.keep Kq1005 nin0
    obtain ⟨cq1029, kq1029, q1029a, q1029b, q1029c⟩ := isOf hZ rfl f1020
    obtain ⟨_, _, ⟨T1029, L1029, k1029, n1029⟩, -, X1029, ⟨Lc1029, hQ1029, l1029, y1029, z1029⟩, st1029⟩ := X1005.virtualBack hx (y := (⟨"com/example/vesch/vesch/engine/Trace", "add", "(Ljava/lang/String;)V"⟩ : MethodName)) (z := (⟨"com/example/vesch/vesch/engine/Trace", "add", "(Ljava/lang/String;)V"⟩ : MethodName)) hown (mvT hZ (own_w hw 40 rfl)) (mvT hZ (own_w hw 41 rfl)) (notFace_of_selects (args := #[]) (mvT hZ (own_w hw 43 rfl))) (mvT hZ (own_w hw 43 rfl)) (mvT hZ (own_w hw 42 rfl)) (by decide) (backOf (W := 0) (rmTA l Z a0 hw [] b978 c1005 c990 aD (0 : Int32) T1005.heap n0 Z1005 f1021 f1022 gg990_c990 f1023 f1024 f1025 f1017 f1026 (Ne.symm ne991) E1005x) hZ (own_w hw 44 rfl) (own_w hw 2 rfl) (by decide) (by decide)) q1029a q1029c (g := (mkF m 56 #[.val (.int p1), .val (.int p2), .val (.long p3), .second, .val (.long p4), .second, .val (.int 1), .val (.ref b978), .val (.int 1), .val (.ref c1005), .unset, .unset] [(.ref c1005), (.ref b978)])) rfl (by rw [hml]; rfl) (Steps.refl _) (argsL := [(.ref c1005)]) (rest := []) (lenOf pd_28Ljava2flang2fString3b29V rfl) rfl (by show 2 * 0 + _ ≤ _; exact Nat.le_of_eq rfl) (hb hby at_56) (fun _ _ => ⟨rfl, rfl, (by decide : 4 + 1 ≤ _), (by decide : 9 + 10 ≤ _)⟩)
    dsimp only [Pt.U, Pt.locs, Pt.cells, Pt.slots] at X1029 l1029 y1029 z1029 st1029 hQ1029
    subst l1029 y1029 z1029
    obtain ⟨rfl, N1029q, Kq1029, c1029, lt1029, OA1029, E1029x, F1029_modCount, F1029_elementData, F1029_size⟩ := hQ1029
    have gg1029_c1029 : n0 ≤ c1029 := Nat.le_trans Z1005 lt1029
    have sz1029_c1029 : h0.size ≤ c1029 := Nat.le_trans K1005.1 lt1029
    have ne1030 : b978 ≠ c1029 := Nat.ne_of_lt (Nat.lt_of_lt_of_le f1020.lt lt1029)
    have ne1031 : c990 ≠ c1029 := Nat.ne_of_lt (Nat.lt_of_lt_of_le f1022.lt lt1029)
    have ne1032 : aD ≠ c1029 := Nat.ne_of_lt (Nat.lt_of_lt_of_le f1026.lt lt1029)
    have ne1033 : aO ≠ c1029 := Nat.ne_of_lt (Nat.lt_of_lt_of_le f1027.lt lt1029)
    have ne1034 : aT ≠ c1029 := Nat.ne_of_lt (Nat.lt_of_lt_of_le f1028.lt lt1029)
    have ne1035 : c1005 ≠ c1029 := Nat.ne_of_lt (Nat.lt_of_lt_of_le E1005x.lt lt1029)
    have ne1036 : d1005 ≠ c1029 := Nat.ne_of_lt (Nat.lt_of_lt_of_le BA1005.lt lt1029)
    have N1029 := Fr.app N1005 N1029q
    have Z1029 : n0 ≤ T1029.heap.size := Nat.le_trans Z1005 Kq1029.1
    have hk1029 := Nat.le_trans hk1005 Kq1029.1
    have K1029 : Keep h0 T1029.heap [] := K1005.trans Kq1029 (allS (Or.inr sz990_c990) all0)
    have f1037 : Sta Z T1029.heap "java/lang/String" "COMPACT_STRINGS" "Z" (.int kc) := own_sta_keep f1016 Kq1029 (nsS f1022.nostat ns0)
    have f1038 : Sta Z T1029.heap "java/lang/Integer" "DigitOnes" "[B" (.ref aO) := own_sta_keep f1018 Kq1029 (nsS f1022.nostat ns0)
    have f1039 : Sta Z T1029.heap "java/lang/Integer" "DigitTens" "[B" (.ref aT) := own_sta_keep f1019 Kq1029 (nsS f1022.nostat ns0)
    have f1040 : Exa Z T1029.heap b978 "com/example/vesch/vesch/engine/Trace" := f1020.keep Kq1029
    have f1041 : Fld Z T1029.heap b978 "com/example/vesch/vesch/engine/Trace" "events" "Ljava/util/List;" (.ref c990) := f1021.keep Kq1029 (ninS ne994 nin0)
    have f1042 : Exa Z T1029.heap c990 "java/util/ArrayList" := f1022.keep Kq1029
    have f1046 : Exa Z T1029.heap c1005 "java/lang/String" := E1005x.keep Kq1029
    have f1047 : Fld Z T1029.heap c1005 "java/lang/String" "coder" "B" (.int 0) := FC1005.keep Kq1029 (ninS (Ne.symm ne1010) nin0)
    have f1048 : Fld Z T1029.heap c1005 "java/lang/String" "value" "[B" (.ref d1005) := FV1005.keep Kq1029 (ninS (Ne.symm ne1010) nin0)
    have f1049 : own_BV Z T1029.heap aO (100 : Int32) := f1027.keep Kq1029 (ninS ne992 nin0)
    have f1050 : own_BV Z T1029.heap aT (100 : Int32) := f1028.keep Kq1029 (ninS ne993 nin0)
    have f1051 : own_BA Z T1029.heap d1005 (1 : Int32) := BA1005.keep Kq1029 (ninS (Ne.symm ne1015) nin0)
    obtain ⟨cq1052, kq1052, q1052a, q1052b, q1052c⟩ := isOf hZ rfl f1040
    obtain ⟨_, _, ⟨T1052, L1052, k1052, n1052⟩, -, X1052, ⟨Lc1052, hQ1052, l1052, y1052, z1052⟩, st1052⟩ := X1029.virtualBack hx (y := (⟨"com/example/vesch/vesch/engine/Trace", "isOn", "()Z"⟩ : MethodName)) (z := (⟨"com/example/vesch/vesch/engine/Trace", "isOn", "()Z"⟩ : MethodName)) hown (mvT hZ (own_w hw 11 rfl)) (mvT hZ (own_w hw 12 rfl)) (notFace_of_selects (args := #[]) (mvT hZ (own_w hw 14 rfl))) (mvT hZ (own_w hw 14 rfl)) (mvT hZ (own_w hw 13 rfl)) (by decide) (backOf (W := 0) (rmO1 l Z a0 hw [] b978 c990 T1029.heap n0 Z1029 f1041) hZ (own_w hw 15 rfl) (own_w hw 2 rfl) (by decide) (by decide)) q1052a q1052c (g := (mkF m 61 #[.val (.int p1), .val (.int p2), .val (.long p3), .second, .val (.long p4), .second, .val (.int 1), .val (.ref b978), .val (.int 1), .val (.ref c1005), .unset, .unset] [(.ref b978)])) rfl (by rw [hml]; rfl) (Steps.refl _) (argsL := []) (rest := []) (lenOf pd_2829Z rfl) rfl (by show 2 * 0 + _ ≤ _; exact Nat.le_of_eq rfl) (hb hby at_61) (fun _ _ => ⟨rfl, rfl, (by decide : 5 + 0 ≤ _), (by decide : 19 + 0 ≤ _)⟩)
    dsimp only [Pt.U, Pt.locs, Pt.cells, Pt.slots] at X1052 l1052 y1052 z1052 st1052 hQ1052
    subst l1052 y1052 z1052
    obtain ⟨rfl, N1052q, e1052⟩ := hQ1052
    have N1052 := Fr.app N1029 N1052q
    have CHa := CHv.keep K1029 all0 CH0
    have G1054 : ∀ tG, Steps p.tables e below (T1052.setTop (mkF m 81 #[.val (.int p1), .val (.int p2), .val (.long p3), .second, .val (.long p4), .second, .val (.int 1), .val (.ref b978), .val (.int 1), .val (.ref c1005), .val (.int 1), .unset] [(.long p3), (.ref c1005), (.ref b978)])) tG → Steps p.tables e below (s₁.setTop (mkF m 0 #[.val (.int p1), .val (.int p2), .val (.long p3), .second, .val (.long p4), .second, .unset, .unset, .unset, .unset, .unset, .unset] [])) tG := by
      intro tG kG
      refine G951 _ ?_
      refine own_ifNo X0.here hx (hb hby at_3) ((if0 _ _).trans (feq hc3).1) ?_
      refine own_iconst X0.here hx (1 : Int32) (hb hby at_6) rfl ?_
      refine own_goto X0.here hx 7 11 rfl (hb hby at_7) (by decide) (by decide) ?_
      refine own_istore X0.here hx (hb hby at_11) (l' := #[.val (.int p1), .val (.int p2), .val (.long p3), .second, .val (.long p4), .second, .val (.int 1), .unset, .unset, .unset, .unset, .unset]) rfl ?_
      refine st978 _ ?_
      show Steps p.tables e below (T978.setTop (mkF m 16 #[.val (.int p1), .val (.int p2), .val (.long p3), .second, .val (.long p4), .second, .val (.int 1), .unset, .unset, .unset, .unset, .unset] [(.ref b978)])) _
      refine own_dup X978.here hx (hb hby at_16) rfl ?_
      refine own_iload X978.here hx (hb hby at_17) rfl ?_
      refine st990.trans ?_
      show Steps p.tables e below (T990.setTop (mkF m 22 #[.val (.int p1), .val (.int p2), .val (.long p3), .second, .val (.long p4), .second, .val (.int 1), .unset, .unset, .unset, .unset, .unset] [(.ref b978)])) _
      refine own_astore X990.here hx (hb hby at_22) rfl (l' := #[.val (.int p1), .val (.int p2), .val (.long p3), .second, .val (.long p4), .second, .val (.int 1), .val (.ref b978), .unset, .unset, .unset, .unset]) rfl ?_
      refine own_aload X990.here hx (hb hby at_24) rfl rfl ?_
      refine st1004.trans ?_
      show Steps p.tables e below (T1004.setTop (mkF m 29 #[.val (.int p1), .val (.int p2), .val (.long p3), .second, .val (.long p4), .second, .val (.int 1), .val (.ref b978), .unset, .unset, .unset, .unset] [(.int 1)])) _
      refine own_iload X1004.here hx (hb hby at_29) rfl ?_
      refine own_icmpNo X1004.here hx (hb hby at_31) (teq (by decide : (1 : Int32) = (1 : Int32))).2 ?_
      refine own_iconst X1004.here hx (1 : Int32) (hb hby at_34) rfl ?_
      refine own_goto X1004.here hx 35 39 rfl (hb hby at_35) (by decide) (by decide) ?_
      refine own_istore X1004.here hx (hb hby at_39) (l' := #[.val (.int p1), .val (.int p2), .val (.long p3), .second, .val (.long p4), .second, .val (.int 1), .val (.ref b978), .val (.int 1), .unset, .unset, .unset]) rfl ?_
      refine own_iloadN X1004.here hx (hb hby at_41) rfl ?_
      refine own_sipush X1004.here hx (255 : Int32) (hb hby at_42) rfl ?_
      refine own_iand X1004.here hx (hb hby at_45) ?_
      refine own_i2c X1004.here hx (hb hby at_46) ?_
      refine st1005 _ ?_
      show Steps p.tables e below (T1005.setTop (mkF m 50 #[.val (.int p1), .val (.int p2), .val (.long p3), .second, .val (.long p4), .second, .val (.int 1), .val (.ref b978), .val (.int 1), .unset, .unset, .unset] [(.ref c1005)])) _
      refine own_astore X1005.here hx (hb hby at_50) rfl (l' := #[.val (.int p1), .val (.int p2), .val (.long p3), .second, .val (.long p4), .second, .val (.int 1), .val (.ref b978), .val (.int 1), .val (.ref c1005), .unset, .unset]) rfl ?_
      refine own_aload X1005.here hx (hb hby at_52) rfl rfl ?_
      refine own_aload X1005.here hx (hb hby at_54) rfl rfl ?_
      refine st1029.trans ?_
      show Steps p.tables e below (T1029.setTop (mkF m 59 #[.val (.int p1), .val (.int p2), .val (.long p3), .second, .val (.long p4), .second, .val (.int 1), .val (.ref b978), .val (.int 1), .val (.ref c1005), .unset, .unset] [])) _
      refine own_aload X1029.here hx (hb hby at_59) rfl rfl ?_
      refine st1052.trans ?_
      show Steps p.tables e below (T1052.setTop (mkF m 64 #[.val (.int p1), .val (.int p2), .val (.long p3), .second, .val (.long p4), .second, .val (.int 1), .val (.ref b978), .val (.int 1), .val (.ref c1005), .unset, .unset] [(.int 1)])) _
      refine own_iload X1052.here hx (hb hby at_64) rfl ?_
      refine own_icmpNo X1052.here hx (hb hby at_66) (teq (by decide : (1 : Int32) = (1 : Int32))).2 ?_
      refine own_iconst X1052.here hx (1 : Int32) (hb hby at_69) rfl ?_
      refine own_goto X1052.here hx 70 74 rfl (hb hby at_70) (by decide) (by decide) ?_
      refine own_istore X1052.here hx (hb hby at_74) (l' := #[.val (.int p1), .val (.int p2), .val (.long p3), .second, .val (.long p4), .second, .val (.int 1), .val (.ref b978), .val (.int 1), .val (.ref c1005), .val (.int 1), .unset]) rfl ?_
      refine own_aload X1052.here hx (hb hby at_76) rfl rfl ?_
      refine own_aload X1052.here hx (hb hby at_78) rfl rfl ?_
      refine own_lloadN X1052.here hx (hb hby at_80) rfl ?_
      exact kG
    obtain ⟨cq1053, kq1053, q1053a, q1053b, q1053c⟩ := isOf hZ e1052 f1040
    obtain ⟨_, _, ⟨T1053, L1053, k1053, n1053⟩, -, X1053, hS1053', hg1053', ⟨Lc1053, hQ1053, l1053, y1053, z1053, CR1053⟩, st1053⟩ := X1052.virtualBackS hx (y := (⟨"com/example/vesch/vesch/engine/Trace", "add", "(Ljava/lang/String;J)V"⟩ : MethodName)) (z := (⟨"com/example/vesch/vesch/engine/Trace", "add", "(Ljava/lang/String;J)V"⟩ : MethodName)) hown (mvT hZ (own_w hw 45 rfl)) (mvT hZ (own_w hw 46 rfl)) (notFace_of_selects (args := #[]) (mvT hZ (own_w hw 48 rfl))) (mvT hZ (own_w hw 48 rfl)) (mvT hZ (own_w hw 47 rfl)) (by decide) (backOfSH (s := s) (vm0 := s.vm) (W := 0) (rmTJ l Z a0 hw [] b978 c1005 p3 kc d1005 c990 c1029 ((0 : Int32) + (1 : Int32)) (1 : Int32) aO aT T1029.heap n0 Z1029 f1041 E1029x gg990_c990 F1029_modCount F1029_elementData F1029_size OA1029 ne1031 gg1029_c1029 (by decide) (by decide) f1037 hkc f1046 f1047 f1048 f1051.2 f1038 f1039 f1049 f1050) hZ (own_w hw 49 rfl) (own_w hw 2 rfl) (by decide) (by decide) (own_ew hw) CHa) q1053a q1053c (g := (mkF m 81 #[.val (.int p1), .val (.int p2), .val (.long p3), .second, .val (.long p4), .second, .val (.int 1), .val (.ref b978), .val (.int 1), .val (.ref c1005), .val (.int 1), .unset] [(.long p3), (.ref c1005), (.ref b978)])) rfl (by rw [hml]; rfl) (Steps.refl _) (argsL := [(.ref c1005), (.long p3)]) (rest := []) (lenOf pd_28Ljava2flang2fString3bJ29V rfl) rfl (by show 2 * 0 + _ ≤ _; exact Nat.le_of_eq rfl) (hb hby at_81) (fun _ _ => ⟨rfl, e1052, (by decide : 5 + 9 ≤ _), (by decide : 19 + 312 ≤ _)⟩)
    dsimp only [Pt.U, Pt.locs, Pt.cells, Pt.slots] at X1053 l1053 y1053 z1053 st1053 hQ1053 hS1053' hg1053' CR1053
    subst l1053 y1053 z1053
    obtain ⟨X1053, hS1053, hZ, hown⟩ := rebS (s := s) (vm0 := s.vm) hS0 (by rw [e1052]; exact hk1029) X1053 hS1053' hg1053' hZ hown
    have hk1053 := Nat.le_refl T1053.heap.size
    obtain ⟨rfl, N1053q, Kq1053, OA1053, E1053x, F1053_modCount, F1053_elementData, F1053_size⟩ := hQ1053
    have N1053 := Fr.app N1052 N1053q
    have Z1053 : n0 ≤ T1053.heap.size := Nat.le_trans Z1029 Kq1053.1
    have K1053 : Keep h0 T1053.heap [] := K1029.trans Kq1053 (allS (Or.inr sz990_c990) (allS (Or.inr sz1029_c1029) all0))
    have f1055 : Sta Z T1053.heap "java/lang/String" "COMPACT_STRINGS" "Z" (.int kc) := own_sta_keep f1037 Kq1053 (nsS E1029x.nostat (nsS OA1029.nostat ns0))
    have f1056 : Sta Z T1053.heap "java/lang/Integer" "DigitOnes" "[B" (.ref aO) := own_sta_keep f1038 Kq1053 (nsS E1029x.nostat (nsS OA1029.nostat ns0))
    have f1057 : Sta Z T1053.heap "java/lang/Integer" "DigitTens" "[B" (.ref aT) := own_sta_keep f1039 Kq1053 (nsS E1029x.nostat (nsS OA1029.nostat ns0))
    have f1058 : Exa Z T1053.heap b978 "com/example/vesch/vesch/engine/Trace" := f1040.keep Kq1053
    have f1059 : Fld Z T1053.heap b978 "com/example/vesch/vesch/engine/Trace" "events" "Ljava/util/List;" (.ref c990) := f1041.keep Kq1053 (ninS ne994 (ninS ne1030 nin0))
    have f1060 : Exa Z T1053.heap c990 "java/util/ArrayList" := E1029x.keep Kq1053
    have f1061 : Exa Z T1053.heap c1005 "java/lang/String" := f1046.keep Kq1053
    have f1062 : Fld Z T1053.heap c1005 "java/lang/String" "coder" "B" (.int 0) := f1047.keep Kq1053 (ninS (Ne.symm ne1010) (ninS ne1035 nin0))
    have f1063 : Fld Z T1053.heap c1005 "java/lang/String" "value" "[B" (.ref d1005) := f1048.keep Kq1053 (ninS (Ne.symm ne1010) (ninS ne1035 nin0))
    have f1067 : own_BV Z T1053.heap aO (100 : Int32) := f1049.keep Kq1053 (ninS ne992 (ninS ne1033 nin0))
    have f1068 : own_BV Z T1053.heap aT (100 : Int32) := f1050.keep Kq1053 (ninS ne993 (ninS ne1034 nin0))
    have f1069 : own_BA Z T1053.heap d1005 (1 : Int32) := f1051.keep Kq1053 (ninS (Ne.symm ne1015) (ninS ne1036 nin0))
    have G1071 : ∀ tG, Steps p.tables e below (T1053.setTop (mkF m 91 #[.val (.int p1), .val (.int p2), .val (.long p3), .second, .val (.long p4), .second, .val (.int 1), .val (.ref b978), .val (.int 1), .val (.ref c1005), .val (.int 1), .unset] [(.long p4), (.long p3), (.ref c1005), (.ref b978)])) tG → Steps p.tables e below (s₁.setTop (mkF m 0 #[.val (.int p1), .val (.int p2), .val (.long p3), .second, .val (.long p4), .second, .unset, .unset, .unset, .unset, .unset, .unset] [])) tG := by
      intro tG kG
      refine G1054 _ ?_
      refine st1053.trans ?_
      show Steps p.tables e below (T1053.setTop (mkF m 84 #[.val (.int p1), .val (.int p2), .val (.long p3), .second, .val (.long p4), .second, .val (.int 1), .val (.ref b978), .val (.int 1), .val (.ref c1005), .val (.int 1), .unset] [])) _
      refine own_aload X1053.here hx (hb hby at_84) rfl rfl ?_
      refine own_aload X1053.here hx (hb hby at_86) rfl rfl ?_
      refine own_lloadN X1053.here hx (hb hby at_88) rfl ?_
      refine own_lload X1053.here hx (hb hby at_89) rfl ?_
      exact kG
    obtain ⟨cq1070, kq1070, q1070a, q1070b, q1070c⟩ := isOf hZ rfl f1058
    obtain ⟨_, _, ⟨T1070, L1070, k1070, n1070⟩, -, X1070, hS1070', hg1070', ⟨Lc1070, hQ1070, l1070, y1070, z1070, CR1070⟩, st1070⟩ := X1053.virtualBackS hx (y := (⟨"com/example/vesch/vesch/engine/Trace", "add", "(Ljava/lang/String;JJ)V"⟩ : MethodName)) (z := (⟨"com/example/vesch/vesch/engine/Trace", "add", "(Ljava/lang/String;JJ)V"⟩ : MethodName)) hown (mvT hZ (own_w hw 50 rfl)) (mvT hZ (own_w hw 51 rfl)) (notFace_of_selects (args := #[]) (mvT hZ (own_w hw 53 rfl))) (mvT hZ (own_w hw 53 rfl)) (mvT hZ (own_w hw 52 rfl)) (by decide) (backOfSH (s := s) (vm0 := T1053.vm) (W := 0) (rmTK l Z a0 hw [] b978 c1005 p3 p4 kc d1005 c990 c1029 (((0 : Int32) + (1 : Int32)) + (1 : Int32)) ((1 : Int32) + (1 : Int32)) aO aT T1053.heap n0 Z1053 f1059 E1053x gg990_c990 F1053_modCount F1053_elementData F1053_size OA1053 ne1031 gg1029_c1029 (by decide) (by decide) f1055 hkc f1061 f1062 f1063 f1069.2 f1056 f1057 f1067 f1068) hZ (own_w hw 54 rfl) (own_w hw 2 rfl) (by decide) (by decide) (own_ew hw) CR1053.1) q1070a q1070c (g := (mkF m 91 #[.val (.int p1), .val (.int p2), .val (.long p3), .second, .val (.long p4), .second, .val (.int 1), .val (.ref b978), .val (.int 1), .val (.ref c1005), .val (.int 1), .unset] [(.long p4), (.long p3), (.ref c1005), (.ref b978)])) rfl (by rw [hml]; rfl) (Steps.refl _) (argsL := [(.ref c1005), (.long p3), (.long p4)]) (rest := []) (lenOf pd_28Ljava2flang2fString3bJJ29V rfl) rfl (by show 2 * 0 + _ ≤ _; exact Nat.le_of_eq rfl) (hb hby at_91) (fun _ _ => ⟨rfl, rfl, (by decide : 14 + 13 ≤ _), (by decide : 331 + 460 ≤ _)⟩)
    dsimp only [Pt.U, Pt.locs, Pt.cells, Pt.slots] at X1070 l1070 y1070 z1070 st1070 hQ1070 hS1070' hg1070' CR1070
    subst l1070 y1070 z1070
    obtain ⟨X1070, hS1070, hZ, hown⟩ := rebS (s := s) (vm0 := T1053.vm) hS1053 hk1053 X1070 hS1070' hg1070' hZ hown
    have hk1070 := Nat.le_refl T1070.heap.size
    obtain ⟨rfl, N1070q, Kq1070, OA1070, E1070x, F1070_modCount, F1070_elementData, F1070_size⟩ := hQ1070
    have N1070 := Fr.app N1053 N1070q
    have Z1070 : n0 ≤ T1070.heap.size := Nat.le_trans Z1053 Kq1070.1
    have K1070 : Keep h0 T1070.heap [] := K1053.trans Kq1070 (allS (Or.inr sz990_c990) (allS (Or.inr sz1029_c1029) all0))
    have f1072 : Exa Z T1070.heap b978 "com/example/vesch/vesch/engine/Trace" := f1058.keep Kq1070
    have f1073 : Fld Z T1070.heap b978 "com/example/vesch/vesch/engine/Trace" "events" "Ljava/util/List;" (.ref c990) := f1059.keep Kq1070 (ninS ne994 (ninS ne1030 nin0))
    obtain ⟨cq1074, kq1074, q1074a, q1074b, q1074c⟩ := isOf hZ rfl f1072
    obtain ⟨_, _, ⟨T1074, L1074, k1074, n1074⟩, -, X1074, ⟨Lc1074, hQ1074, l1074, y1074, z1074⟩, st1074⟩ := X1070.virtualBack hx (y := (⟨"com/example/vesch/vesch/engine/Trace", "isOn", "()Z"⟩ : MethodName)) (z := (⟨"com/example/vesch/vesch/engine/Trace", "isOn", "()Z"⟩ : MethodName)) hown (mvT hZ (own_w hw 11 rfl)) (mvT hZ (own_w hw 12 rfl)) (notFace_of_selects (args := #[]) (mvT hZ (own_w hw 14 rfl))) (mvT hZ (own_w hw 14 rfl)) (mvT hZ (own_w hw 13 rfl)) (by decide) (backOf (W := 0) (rmO1 l Z a0 hw [] b978 c990 T1070.heap n0 Z1070 f1073) hZ (own_w hw 15 rfl) (own_w hw 2 rfl) (by decide) (by decide)) q1074a q1074c (g := (mkF m 96 #[.val (.int p1), .val (.int p2), .val (.long p3), .second, .val (.long p4), .second, .val (.int 1), .val (.ref b978), .val (.int 1), .val (.ref c1005), .val (.int 1), .unset] [(.ref b978)])) rfl (by rw [hml]; rfl) (Steps.refl _) (argsL := []) (rest := []) (lenOf pd_2829Z rfl) rfl (by show 2 * 0 + _ ≤ _; exact Nat.le_of_eq rfl) (hb hby at_96) (fun _ _ => ⟨rfl, rfl, (by decide : 27 + 0 ≤ _), (by decide : 791 + 0 ≤ _)⟩)
    dsimp only [Pt.U, Pt.locs, Pt.cells, Pt.slots] at X1074 l1074 y1074 z1074 st1074 hQ1074
    subst l1074 y1074 z1074
    obtain ⟨rfl, N1074q, e1074⟩ := hQ1074
    have N1074 := Fr.app N1070 N1074q
    obtain ⟨fs, hr, hrun, hended, hW⟩ := Stand.leaveW (s := s) (vm₁ := T1070.vm) X1074 hS1070 (by rw [e1074]; exact hk1070) (v := some (.int 1)) (fun h => by rw [Bd.returns] at h; cases h)
    refine ⟨_, _, pre0 _ ?_, hrun, hended, _, _, rfl, ?_, hW.1, hW.2.1, hW.2.2.1, hW.2.2.2.mono (by decide) (by decide)⟩
    · refine G1071 _ ?_
      refine st1070.trans ?_
      show Steps p.tables e below (T1070.setTop (mkF m 94 #[.val (.int p1), .val (.int p2), .val (.long p3), .second, .val (.long p4), .second, .val (.int 1), .val (.ref b978), .val (.int 1), .val (.ref c1005), .val (.int 1), .unset] [])) _
      refine own_aload X1070.here hx (hb hby at_94) rfl rfl ?_
      refine st1074.trans ?_
      show Steps p.tables e below (T1074.setTop (mkF m 99 #[.val (.int p1), .val (.int p2), .val (.long p3), .second, .val (.long p4), .second, .val (.int 1), .val (.ref b978), .val (.int 1), .val (.ref c1005), .val (.int 1), .unset] [(.int 1)])) _
      refine own_iload X1074.here hx (hb hby at_99) rfl ?_
      refine own_icmpNo X1074.here hx (hb hby at_101) (teq (by decide : (1 : Int32) = (1 : Int32))).2 ?_
      refine own_iconst X1074.here hx (1 : Int32) (hb hby at_104) rfl ?_
      refine own_goto X1074.here hx 105 109 rfl (hb hby at_105) (by decide) (by decide) ?_
      refine own_istore X1074.here hx (hb hby at_109) (l' := #[.val (.int p1), .val (.int p2), .val (.long p3), .second, .val (.long p4), .second, .val (.int 1), .val (.ref b978), .val (.int 1), .val (.ref c1005), .val (.int 1), .val (.int 1)]) rfl ?_
      refine own_iload X1074.here hx (hb hby at_111) rfl ?_
      refine own_ifNo X1074.here hx (hb hby at_113) ((if0 _ _).trans (feq (by decide : ¬ ((1 : Int32) = (0 : Int32)))).1) ?_
      refine own_iload X1074.here hx (hb hby at_116) rfl ?_
      refine own_ifNo X1074.here hx (hb hby at_118) ((if0 _ _).trans (feq (by decide : ¬ ((1 : Int32) = (0 : Int32)))).1) ?_
      refine own_iload X1074.here hx (hb hby at_121) rfl ?_
      refine own_ifNo X1074.here hx (hb hby at_123) ((if0 _ _).trans (feq (by decide : ¬ ((1 : Int32) = (0 : Int32)))).1) ?_
      refine own_iconst X1074.here hx (1 : Int32) (hb hby at_126) rfl ?_
      refine own_goto X1074.here hx 127 131 rfl (hb hby at_127) (by decide) (by decide) ?_
      exact retN X1074 hx (t := .boolean) Bd.returns (by simp) (hb hby at_131) hr
    · show Q0 Z p1 p2 p3 p4 kc aD aO aT h0 n0 _ T1074.heap _
      rw [e1074]
      exact ⟨rfl, N1074⟩
set_option maxRecDepth 65536 in
set_option maxHeartbeats 40000000 in
theorem comes_1 {Post : Tables → Env → Array Value → State → Outcome → State → Prop} (hpost : ∀ tb e args s v u, (limb_1_1.after args s (.returned v) u = true ∧ limb_1_2.after args s (.returned v) u = true ∧ True) → ReturnedEndW s (.returned v) u (Jvm.fieldLocs frame_1_writes args s ++ Jvm.arrayLocs frame_1_arrays args s ++ Jvm.staticLocs frame_1_statics s) 48 1664 → Post tb e args s (.returned v) u) :
    ArmFor flags0 classFile x code maxLocals ret World_1 tables_1 room_1 Calls_1 rest_1 Pre_1 Post := by
  intro l hfl _ _ p e ha hc hk s m args below hf hA hF happ hP
  obtain ⟨hcalls, hrest, hpre⟩ := hP
  obtain ⟨-, -, -, hnamed, -, -, -, hat⟩ := (Spec.applies_iff hf).mp happ
  obtain ⟨hg, hn⟩ := and_e (Cond.before_iff.mp (show (Jvm.Cond.and given_1 narrow_1).before args s = true from hpre))
  obtain ⟨gv1, gv2⟩ := and_e hg
  obtain ⟨gv3, gv4⟩ := and_e gv2
  obtain ⟨gv5, gv6⟩ := and_e gv4
  obtain ⟨gv7, gv8⟩ := and_e gv6
  obtain ⟨w0, w1, w2, w3, rfl⟩ : ∃ w0 w1 w2 w3 : Value, args = #[w0, w1, w2, w3] := by
    have hs : args.size = 4 := by simpa [Cond.value, given_1] using gv1
    obtain ⟨L⟩ := args
    match L, hs with
    | [w0, w1, w2, w3], _ => exact ⟨w0, w1, w2, w3, rfl⟩
  have hw := fun d (hd : d ∈ tables_1) => atoms_spec (ws := Jvm.Cond.code x code maxLocals ret :: tables_1) hat d (List.mem_cons_of_mem _ hd)
  have hfit : Fit s := fun {y c} hc i hi => by
    obtain ⟨ha, rfl⟩ := Array.getElem?_eq_some_iff.mp hc
    have q := List.all_eq_true.mp ((Array.all_eq_true_iff_forall_mem.mp hF) _ (Array.getElem_mem ha)) i (List.mem_range.mpr hi)
    simpa [Array.getElem?_eq_getElem hi] using q
  obtain ⟨hsets, hown0⟩ := atoms_of _ (rest_1_c_eq ▸ (show rest_1_c.before _ s = true from hrest))
  have hr0 := Cond.before_iff.mp hown0
  obtain ⟨i0, ei0⟩ := is_v gv3
  obtain rfl : w0 = (.int i0) := Option.some.inj ei0
  obtain ⟨i1, ei1⟩ := is_v gv5
  obtain rfl : w1 = (.int i1) := Option.some.inj ei1
  obtain ⟨i2, ei2⟩ := isL_v gv7
  obtain rfl : w2 = (.long i2) := Option.some.inj ei2
  obtain ⟨i3, ei3⟩ := isL_v gv8
  obtain rfl : w3 = (.long i3) := Option.some.inj ei3
  obtain ⟨kc, evc⟩ := is_v (Cond.before_iff.mp (hsets _ (List.mem_of_getElem? (i := 1) rfl)))
  have hcw := (hsets _ (List.mem_of_getElem? (i := 2) rfl))
  have hkc : ¬ kc = (0 : Int32) := gotF (Cond.eq_ints evc rfl) (by simpa using not_v (Cond.before_iff.mp hcw))
  have SC : Sta s s.heap "java/lang/String" "COMPACT_STRINGS" "Z" (.int kc) := Sta.start evc (Or.inl (hsets _ (List.mem_of_getElem? (i := 0) rfl)))
  obtain ⟨aD, _, _, _, evD, _⟩ := Cond.exactly_spec (hsets _ (List.mem_of_getElem? (i := 16) rfl))
  have SD : Sta s s.heap "java/util/ArrayList" "DEFAULTCAPACITY_EMPTY_ELEMENTDATA" "[Ljava/lang/Object;" (.ref aD) := Sta.start evD (Or.inr ⟨(own_w hw 57 rfl), (hsets _ (List.mem_of_getElem? (i := 11) rfl))⟩)
  obtain ⟨cD, AD⟩ := Arr.start evD (Cond.before_iff.mp (hsets _ (List.mem_of_getElem? (i := 15) rfl)))
  have OD := own_ostart evD AD (Cond.before_iff.mp (hsets _ (List.mem_of_getElem? (i := 17) rfl)))
  obtain ⟨aO, _, _, _, evO, _⟩ := Cond.exactly_spec (hsets _ (List.mem_of_getElem? (i := 21) rfl))
  have SO : Sta s s.heap "java/lang/Integer" "DigitOnes" "[B" (.ref aO) := Sta.start evO (Or.inl (hsets _ (List.mem_of_getElem? (i := 20) rfl)))
  have BO := own_bstart hfit (own_w hw 30 rfl) evO (Cond.before_iff.mp (hsets _ (List.mem_of_getElem? (i := 21) rfl))) (Cond.before_iff.mp (hsets _ (List.mem_of_getElem? (i := 22) rfl)))
  obtain ⟨aT, _, _, _, evT, _⟩ := Cond.exactly_spec (hsets _ (List.mem_of_getElem? (i := 26) rfl))
  have ST : Sta s s.heap "java/lang/Integer" "DigitTens" "[B" (.ref aT) := Sta.start evT (Or.inl (hsets _ (List.mem_of_getElem? (i := 25) rfl)))
  have BT := own_bstart hfit (own_w hw 30 rfl) evT (Cond.before_iff.mp (hsets _ (List.mem_of_getElem? (i := 26) rfl))) (Cond.before_iff.mp (hsets _ (List.mem_of_getElem? (i := 27) rfl)))
  have CHZ : CHv s own_EL s.vm s.heap := CHv.start (own_ew hw) (fun p hp => hcalls.1 p hp) hcw (own_w hw 30 rfl) (own_w hw 26 rfl)
  obtain ⟨n, o, h1, h2, h3, _, L, rfl, ⟨rfl, N⟩, hq⟩ := rm0 l s _ hw tables_1 i0 i1 i2 i3 kc aD aO aT s.heap s.heap.size (Nat.le_refl _) SC hkc SD OD SO ST BO BT CHZ p e ha hc hk s m _ below hf ((Spec.applies_iff_loose hf).mp happ).1 ⟨rfl, State.Warmed39.refl s, rfl, rfl⟩ trivial
  refine ⟨n, _, h1, h2, h3, hpost _ _ _ _ _ _ ⟨Cond.after_iff.mpr rfl, Cond.after_iff.mpr (eq_i res_at (Term.int_eval (1)) rfl), trivial⟩ ⟨hq.1, hq.2.1, hq.2.2.1, (hq.2.2.2.sift fun y hy => Or.inr (N y hy)).mono (by decide) (by decide)⟩⟩
theorem main_1_1 : Claimed_1_1 := comes_1 fun _ _ _ _ _ _ h hF => ⟨h.1, hF⟩
theorem main_1_2 : Claimed_1_2 := comes_1 fun _ _ _ _ _ _ h hF => ⟨h.2.1, hF⟩
end Jvm.Pilot.@@N@@
namespace Jvm.Pilot.@@N@@
open Jvm Jvm.ClassFile Sem Op Lib Jvm.Free Jvm.Stand Jvm.Pilot.@@N@@.Jvm.D
/-! MADE BY PROGRAM (witnessworld.py) out of the Statement's table words and the real class files: 35 classes; the members and pool entries that the words name. The judged class is class 1, her method 1. -/
namespace start1
open Jvm.ClassFile
def u (s : String) : CpInfo := .utf8 (stringToUtf16 s)
/-- a pool by its gaps: so many unusable entries, then the entry; so many at the end -/
def gap : Nat → List CpInfo → List CpInfo
  | 0, r => r
  | n + 1, r => .unusable :: gap n r
def poolList (es : List (Nat × CpInfo)) (last : Nat) : List CpInfo := es.foldr (fun e r => gap e.1 (e.2 :: r)) (gap last [])
def pool (es : List (Nat × CpInfo)) (last : Nat) : Array CpInfo := ⟨poolList es last⟩
def fileOf (pool : Array CpInfo) (this : Nat) (attrs : Array Attribute := #[]) (ms : Array MethodInfo := #[]) (fl : Nat := 33) (sup : Nat := 0) (ifs : Array Nat := #[]) (fds : Array FieldInfo := #[]) : ClassFile where
  minorVersion := 0
  majorVersion := 65
  constantPool := pool
  accessFlags := fl
  thisClass := this
  superClass := sup
  interfaces := ifs
  fields := fds
  methods := ms
  attributes := attrs
def plain (name : String) (sup : Option ClassId) : Class where
  name := name
  kind := .ordinary
  loader := none
  accessFlags := 33
  super := sup
  interfaces := #[]
  cf := none
  fields := #[]
  methods := #[]
  instanceTypes := #[]
  staticTypes := #[]
  resolved := #[]
  callSites := []
  init := .initialized
  statics := none
  mirror := none

def pool0 : Array CpInfo := pool [(5, u "<init>"), (0, u "()V"), (1, .class_ 10), (1, u "java/lang/Object"), (85, u "clone"), (0, u "()Ljava/lang/Object;")] 26

def k0c0 : Code := { maxStack := 0, maxLocals := 1, code := object_method_1_code, exceptionTable := #[], attributes := #[] }
def k0m0 : Method := { name := "<init>", desc := "()V", sig := { parameters := [], returnType := none }, accessFlags := 1, code := some k0c0 }
def k0m1 : Method := { name := "clone", desc := "()Ljava/lang/Object;", sig := { parameters := [], returnType := some (.object "java/lang/Object") }, accessFlags := 260, code := none }
/-- java/lang/Object -/
def k0 : Class := { plain "java/lang/Object" none with
  accessFlags := 33
  interfaces := #[]
  cf := some (fileOf pool0 8 #[] #[{ accessFlags := 1, nameIndex := 5, descriptorIndex := 6, attributes := #[] }, { accessFlags := 260, nameIndex := 96, descriptorIndex := 97, attributes := #[] }] 33 0 #[] #[])
  fields := #[]
  methods := #[k0m0, k0m1]
  instanceTypes := #[]
  staticTypes := #[]
  resolved := Array.replicate 124 none
  statics := none }

def pool1 : Array CpInfo := pool [(2, .class_ 4), (1, u "java/lang/Object"), (0, u "<init>"), (0, u "()V"), (0, .class_ 8), (0, u "com/example/vesch/vesch/engine/Trace"), (0, .methodref 7 10), (0, .nameAndType 5 11), (0, u "(Z)V"), (0, .methodref 7 13), (0, .nameAndType 14 15), (0, u "isOn"), (0, u "()Z"), (0, .methodref 17 18), (0, .class_ 19), (0, .nameAndType 20 21), (0, u "java/lang/String"), (0, u "valueOf"), (0, u "(C)Ljava/lang/String;"), (0, .methodref 7 23), (0, .nameAndType 24 25), (0, u "add"), (0, u "(Ljava/lang/String;)V"), (0, .methodref 7 27), (0, .nameAndType 24 28), (0, u "(Ljava/lang/String;J)V"), (0, .methodref 7 30), (0, .nameAndType 24 31), (0, u "(Ljava/lang/String;JJ)V"), (0, .class_ 33), (0, u "com/example/vesch/vesch/engine/TraceIsOnPinLaw"), (2, u "law"), (0, u "(IIJJ)Z")] 3

def k1m0 : Method := { name := "<init>", desc := "()V", sig := { parameters := [], returnType := none }, accessFlags := 2, code := none }
def k1c1 : Code := { maxStack := 6, maxLocals := 12, code := code, exceptionTable := #[], attributes := #[] }
def k1m1 : Method := { name := "law", desc := "(IIJJ)Z", sig := { parameters := [.int, .int, .long, .long], returnType := some .boolean }, accessFlags := 9, code := some k1c1 }
/-- com/example/vesch/vesch/engine/TraceIsOnPinLaw -/
def k1 : Class := { plain "com/example/vesch/vesch/engine/TraceIsOnPinLaw" (some 0) with
  accessFlags := 49
  interfaces := #[]
  cf := some (fileOf pool1 32 #[] #[{ accessFlags := 2, nameIndex := 5, descriptorIndex := 6, attributes := #[] }, { accessFlags := 9, nameIndex := 36, descriptorIndex := 37, attributes := #[] }] 49 2 #[] #[])
  fields := #[]
  methods := #[k1m0, k1m1]
  instanceTypes := #[]
  staticTypes := #[]
  resolved := Array.replicate 41 none
  statics := none }

def pool2 : Array CpInfo := pool [(1, .methodref 2 3), (0, .class_ 4), (0, .nameAndType 5 6), (0, u "java/lang/Object"), (0, u "<init>"), (0, u "()V"), (0, .class_ 8), (0, u "java/util/ArrayList"), (0, .methodref 7 3), (0, .fieldref 11 12), (0, .class_ 13), (0, .nameAndType 14 15), (0, u "com/example/vesch/vesch/engine/Trace"), (0, u "events"), (0, u "Ljava/util/List;"), (0, .interfaceMethodref 17 18), (0, .class_ 19), (0, .nameAndType 20 21), (0, u "java/util/List"), (0, u "add"), (0, u "(Ljava/lang/Object;)Z"), (0, .class_ 23), (0, u "java/lang/StringBuilder"), (0, .methodref 22 3), (0, .methodref 22 26), (0, .nameAndType 27 28), (0, u "append"), (0, u "(Ljava/lang/String;)Ljava/lang/StringBuilder;"), (0, .string 30), (0, u " "), (0, .methodref 22 32), (0, .nameAndType 27 33), (0, u "(J)Ljava/lang/StringBuilder;"), (0, .methodref 22 35), (0, .nameAndType 36 37), (0, u "toString"), (0, u "()Ljava/lang/String;"), (6, u "(Ljava/lang/String;)V"), (6, u "(Z)V"), (3, u "isOn"), (0, u "()Z"), (0, u "(Ljava/lang/String;J)V"), (0, u "(Ljava/lang/String;JJ)V")] 5

def k2c0 : Code := { maxStack := 3, maxLocals := 2, code := prog_54_method_1_code, exceptionTable := #[], attributes := #[] }
def k2m0 : Method := { name := "<init>", desc := "(Z)V", sig := { parameters := [.boolean], returnType := none }, accessFlags := 0, code := some k2c0 }
def k2c1 : Code := { maxStack := 1, maxLocals := 1, code := prog_54_method_2_code, exceptionTable := #[], attributes := #[] }
def k2m1 : Method := { name := "isOn", desc := "()Z", sig := { parameters := [], returnType := some .boolean }, accessFlags := 0, code := some k2c1 }
def k2c2 : Code := { maxStack := 2, maxLocals := 2, code := prog_54_method_3_code, exceptionTable := #[], attributes := #[] }
def k2m2 : Method := { name := "add", desc := "(Ljava/lang/String;)V", sig := { parameters := [(.object "java/lang/String")], returnType := none }, accessFlags := 0, code := some k2c2 }
def k2c3 : Code := { maxStack := 4, maxLocals := 4, code := prog_54_method_4_code, exceptionTable := #[], attributes := #[] }
def k2m3 : Method := { name := "add", desc := "(Ljava/lang/String;J)V", sig := { parameters := [(.object "java/lang/String"), .long], returnType := none }, accessFlags := 0, code := some k2c3 }
def k2c4 : Code := { maxStack := 4, maxLocals := 6, code := prog_54_method_5_code, exceptionTable := #[], attributes := #[] }
def k2m4 : Method := { name := "add", desc := "(Ljava/lang/String;JJ)V", sig := { parameters := [(.object "java/lang/String"), .long, .long], returnType := none }, accessFlags := 0, code := some k2c4 }
/-- com/example/vesch/vesch/engine/Trace -/
def k2 : Class := { plain "com/example/vesch/vesch/engine/Trace" (some 0) with
  accessFlags := 48
  interfaces := #[]
  cf := some (fileOf pool2 11 #[] #[{ accessFlags := 0, nameIndex := 5, descriptorIndex := 51, attributes := #[] }, { accessFlags := 0, nameIndex := 55, descriptorIndex := 56, attributes := #[] }, { accessFlags := 0, nameIndex := 20, descriptorIndex := 44, attributes := #[] }, { accessFlags := 0, nameIndex := 20, descriptorIndex := 57, attributes := #[] }, { accessFlags := 0, nameIndex := 20, descriptorIndex := 58, attributes := #[] }] 48 2 #[] #[{ accessFlags := 18, nameIndex := 14, descriptorIndex := 15, attributes := #[] }])
  fields := #[{ name := "events", type := (.object "java/util/List"), accessFlags := 18, slot := 0, constantValue := 0 }]
  methods := #[k2m0, k2m1, k2m2, k2m3, k2m4]
  instanceTypes := #[(.object "java/util/List")]
  staticTypes := #[]
  resolved := Array.replicate 64 none
  statics := none }

def pool3 : Array CpInfo := pool [(1, .class_ 2), (0, u "java/io/Serializable"), (0, .class_ 4), (0, u "java/lang/Object")] 2

/-- java/io/Serializable -/
def k3 : Class := { plain "java/io/Serializable" (some 0) with
  accessFlags := 1537
  interfaces := #[]
  cf := some (fileOf pool3 1 #[] #[] 1537 3 #[] #[])
  fields := #[]
  methods := #[]
  instanceTypes := #[]
  staticTypes := #[]
  resolved := Array.replicate 7 none
  statics := none }

def pool4 : Array CpInfo := pool [(1, .class_ 2), (0, u "java/lang/Comparable"), (0, .class_ 4), (0, u "java/lang/Object")] 7

/-- java/lang/Comparable -/
def k4 : Class := { plain "java/lang/Comparable" (some 0) with
  accessFlags := 1537
  interfaces := #[]
  cf := some (fileOf pool4 1 #[] #[] 1537 3 #[] #[])
  fields := #[]
  methods := #[]
  instanceTypes := #[]
  staticTypes := #[]
  resolved := Array.replicate 12 none
  statics := none }

def pool5 : Array CpInfo := pool [(2, .class_ 4), (1, u "java/lang/CharSequence"), (42, .class_ 48), (0, u "java/lang/CharSequence$1CodePointIterator"), (10, .class_ 60), (0, u "java/lang/CharSequence$1CharIterator"), (5, .class_ 67), (0, u "java/lang/Object")] 63

/-- java/lang/CharSequence -/
def k5 : Class := { plain "java/lang/CharSequence" (some 0) with
  accessFlags := 1537
  interfaces := #[]
  cf := some (fileOf pool5 2 #[.nestMembers #[47, 59]] #[] 1537 66 #[] #[])
  fields := #[]
  methods := #[]
  instanceTypes := #[]
  staticTypes := #[]
  resolved := Array.replicate 131 none
  statics := none }

def pool6 : Array CpInfo := pool [(1, .class_ 2), (0, u "java/lang/constant/Constable"), (0, .class_ 4), (0, u "java/lang/Object")] 6

/-- java/lang/constant/Constable -/
def k6 : Class := { plain "java/lang/constant/Constable" (some 0) with
  accessFlags := 1537
  interfaces := #[]
  cf := some (fileOf pool6 1 #[] #[] 1537 3 #[] #[])
  fields := #[]
  methods := #[]
  instanceTypes := #[]
  staticTypes := #[]
  resolved := Array.replicate 11 none
  statics := none }

def pool7 : Array CpInfo := pool [(1, .class_ 2), (0, u "java/lang/constant/ConstantDesc"), (0, .class_ 4), (0, u "java/lang/Object")] 32

/-- java/lang/constant/ConstantDesc -/
def k7 : Class := { plain "java/lang/constant/ConstantDesc" (some 0) with
  accessFlags := 1537
  interfaces := #[]
  cf := some (fileOf pool7 1 #[] #[] 1537 3 #[] #[])
  fields := #[]
  methods := #[]
  instanceTypes := #[]
  staticTypes := #[]
  resolved := Array.replicate 37 none
  statics := none }

def pool8 : Array CpInfo := pool [(1, .methodref 2 3), (0, .class_ 4), (0, .nameAndType 5 6), (0, u "java/lang/Object"), (0, u "<init>"), (0, u "()V"), (2, .fieldref 10 11), (0, .class_ 12), (0, .nameAndType 13 14), (0, u "java/lang/String"), (0, u "value"), (0, u "[B"), (0, .fieldref 10 16), (0, .nameAndType 17 18), (0, u "coder"), (0, u "B"), (2, u "hash"), (0, u "I"), (2, u "hashIsZero"), (0, u "Z"), (11, .fieldref 10 39), (0, .nameAndType 40 26), (0, u "COMPACT_STRINGS"), (12, u "toBytes"), (0, .methodref 55 56), (0, .class_ 57), (0, .nameAndType 58 59), (0, u "java/util/Arrays"), (0, u "copyOfRange"), (0, u "([BII)[B"), (47, .class_ 109), (1, u "java/lang/StringLatin1"), (32, u "()Z"), (50, .class_ 195), (1, u "java/lang/System"), (13, .methodref 10 210), (0, .nameAndType 5 211), (0, u "([BB)V"), (0, .methodref 193 213), (0, .nameAndType 214 215), (0, u "arraycopy"), (0, u "(Ljava/lang/Object;ILjava/lang/Object;II)V"), (118, u "()I"), (0, .methodref 10 336), (0, .nameAndType 17 337), (0, u "()B"), (2, u "()[B"), (28, u "(C)Z"), (119, .methodref 10 490), (0, .nameAndType 5 491), (0, u "(Ljava/lang/AbstractStringBuilder;Ljava/lang/Void;)V"), (1, .nameAndType 494 142), (0, u "isLatin1"), (11, .nameAndType 507 334), (0, u "length"), (24, u "getBytes"), (16, .methodref 550 506), (0, .class_ 551), (0, u "java/lang/AbstractStringBuilder"), (0, .methodref 550 553), (0, .nameAndType 554 340), (0, u "getValue"), (20, .class_ 576), (0, u "java/lang/CharSequence"), (22, u "CASE_INSENSITIVE_ORDER"), (0, u "Ljava/util/Comparator;"), (181, u "valueOf"), (0, u "(C)Ljava/lang/String;"), (37, u "([BIB)V"), (193, .methodref 107 1016), (0, .nameAndType 1017 369), (0, u "canEncode"), (0, .methodref 107 1019), (0, .nameAndType 53 1020), (0, u "(C)[B"), (26, .methodref 550 493), (53, u "serialPersistentFields"), (0, u "[Ljava/io/ObjectStreamField;"), (0, .class_ 1104), (0, u "java/lang/String$CaseInsensitiveComparator"), (1, .class_ 1107), (0, u "java/io/Serializable"), (0, .class_ 1109), (0, u "java/lang/Comparable"), (0, .class_ 1111), (0, u "java/lang/constant/Constable"), (0, .class_ 1113), (0, u "java/lang/constant/ConstantDesc"), (2, u "serialVersionUID"), (0, u "J"), (3, u "REPL"), (0, u "C"), (2, u "LATIN1"), (1, u "UTF16"), (105, u "(Ljava/lang/StringBuilder;)V")] 217

def k8m0 : Method := { name := "<init>", desc := "()V", sig := { parameters := [], returnType := none }, accessFlags := 1, code := none }
def k8c1 : Code := { maxStack := 3, maxLocals := 2, code := jdk_42_method_53_code, exceptionTable := #[], attributes := #[] }
def k8m1 : Method := { name := "<init>", desc := "(Ljava/lang/StringBuilder;)V", sig := { parameters := [(.object "java/lang/StringBuilder")], returnType := none }, accessFlags := 1, code := some k8c1 }
def k8c2 : Code := { maxStack := 2, maxLocals := 1, code := jdk_42_method_54_code, exceptionTable := #[], attributes := #[] }
def k8m2 : Method := { name := "length", desc := "()I", sig := { parameters := [], returnType := some .int }, accessFlags := 1, code := some k8c2 }
def k8c3 : Code := { maxStack := 4, maxLocals := 1, code := jdk_42_method_139_code, exceptionTable := #[], attributes := #[] }
def k8m3 : Method := { name := "valueOf", desc := "(C)Ljava/lang/String;", sig := { parameters := [.char], returnType := some (.object "java/lang/String") }, accessFlags := 9, code := some k8c3 }
def k8c4 : Code := { maxStack := 5, maxLocals := 4, code := jdk_42_method_147_code, exceptionTable := #[], attributes := #[] }
def k8m4 : Method := { name := "getBytes", desc := "([BIB)V", sig := { parameters := [(.array .byte), .int, .byte], returnType := none }, accessFlags := 0, code := some k8c4 }
def k8c5 : Code := { maxStack := 5, maxLocals := 5, code := jdk_42_method_150_code, exceptionTable := #[], attributes := #[] }
def k8m5 : Method := { name := "<init>", desc := "(Ljava/lang/AbstractStringBuilder;Ljava/lang/Void;)V", sig := { parameters := [(.object "java/lang/AbstractStringBuilder"), (.object "java/lang/Void")], returnType := none }, accessFlags := 0, code := some k8c5 }
def k8c6 : Code := { maxStack := 2, maxLocals := 3, code := jdk_42_method_151_code, exceptionTable := #[], attributes := #[] }
def k8m6 : Method := { name := "<init>", desc := "([BB)V", sig := { parameters := [(.array .byte), .byte], returnType := none }, accessFlags := 0, code := some k8c6 }
def k8c7 : Code := { maxStack := 1, maxLocals := 1, code := jdk_42_method_152_code, exceptionTable := #[], attributes := #[] }
def k8m7 : Method := { name := "coder", desc := "()B", sig := { parameters := [], returnType := some .byte }, accessFlags := 0, code := some k8c7 }
/-- java/lang/String -/
def k8 : Class := { plain "java/lang/String" (some 0) with
  accessFlags := 49
  interfaces := #[3, 4, 5, 6, 7]
  cf := some (fileOf pool8 10 #[.nestMembers #[1103]] #[{ accessFlags := 1, nameIndex := 5, descriptorIndex := 6, attributes := #[] }, { accessFlags := 1, nameIndex := 5, descriptorIndex := 1233, attributes := #[] }, { accessFlags := 1, nameIndex := 507, descriptorIndex := 334, attributes := #[] }, { accessFlags := 9, nameIndex := 782, descriptorIndex := 783, attributes := #[] }, { accessFlags := 0, nameIndex := 532, descriptorIndex := 821, attributes := #[] }, { accessFlags := 0, nameIndex := 5, descriptorIndex := 491, attributes := #[] }, { accessFlags := 0, nameIndex := 5, descriptorIndex := 211, attributes := #[] }, { accessFlags := 0, nameIndex := 17, descriptorIndex := 337, attributes := #[] }] 49 2 #[1106, 1108, 575, 1110, 1112] #[{ accessFlags := 18, nameIndex := 13, descriptorIndex := 14, attributes := #[] }, { accessFlags := 18, nameIndex := 17, descriptorIndex := 18, attributes := #[] }, { accessFlags := 2, nameIndex := 21, descriptorIndex := 22, attributes := #[] }, { accessFlags := 2, nameIndex := 25, descriptorIndex := 26, attributes := #[] }, { accessFlags := 26, nameIndex := 1116, descriptorIndex := 1117, attributes := #[] }, { accessFlags := 24, nameIndex := 40, descriptorIndex := 26, attributes := #[] }, { accessFlags := 26, nameIndex := 1101, descriptorIndex := 1102, attributes := #[] }, { accessFlags := 26, nameIndex := 1121, descriptorIndex := 1122, attributes := #[] }, { accessFlags := 25, nameIndex := 599, descriptorIndex := 600, attributes := #[] }, { accessFlags := 24, nameIndex := 1125, descriptorIndex := 18, attributes := #[] }, { accessFlags := 24, nameIndex := 1127, descriptorIndex := 18, attributes := #[] }])
  fields := #[{ name := "value", type := (.array .byte), accessFlags := 18, slot := 0, constantValue := 0 }, { name := "coder", type := .byte, accessFlags := 18, slot := 1, constantValue := 0 }, { name := "hash", type := .int, accessFlags := 2, slot := 2, constantValue := 0 }, { name := "hashIsZero", type := .boolean, accessFlags := 2, slot := 3, constantValue := 0 }, { name := "serialVersionUID", type := .long, accessFlags := 26, slot := 0, constantValue := 0 }, { name := "COMPACT_STRINGS", type := .boolean, accessFlags := 24, slot := 1, constantValue := 0 }, { name := "serialPersistentFields", type := (.array (.object "java/io/ObjectStreamField")), accessFlags := 26, slot := 2, constantValue := 0 }, { name := "REPL", type := .char, accessFlags := 26, slot := 3, constantValue := 0 }, { name := "CASE_INSENSITIVE_ORDER", type := (.object "java/util/Comparator"), accessFlags := 25, slot := 4, constantValue := 0 }, { name := "LATIN1", type := .byte, accessFlags := 24, slot := 5, constantValue := 0 }, { name := "UTF16", type := .byte, accessFlags := 24, slot := 6, constantValue := 0 }]
  methods := #[k8m0, k8m1, k8m2, k8m3, k8m4, k8m5, k8m6, k8m7]
  instanceTypes := #[(.array .byte), .byte, .int, .boolean]
  staticTypes := #[.long, .boolean, (.array (.object "java/io/ObjectStreamField")), .char, (.object "java/util/Comparator"), .byte, .byte]
  resolved := Array.replicate 1451 none
  statics := some 0 }

def pool9 : Array CpInfo := pool [(4, .class_ 6), (1, u "java/lang/Object"), (0, u "<init>"), (0, u "()V"), (5, .class_ 16), (1, u "java/lang/StringLatin1"), (73, u "canEncode"), (14, u "(C)Z"), (15, u "$assertionsDisabled"), (0, u "Z"), (98, .class_ 223), (1, u "java/lang/StringLatin1$LinesSpliterator"), (156, u "toBytes"), (1, u "(C)[B"), (7, .class_ 391), (0, u "java/lang/StringLatin1$CharsSpliterator")] 3

def k9m0 : Method := { name := "<init>", desc := "()V", sig := { parameters := [], returnType := none }, accessFlags := 0, code := none }
def k9c1 : Code := { maxStack := 2, maxLocals := 1, code := jdk_43_method_3_code, exceptionTable := #[], attributes := #[] }
def k9m1 : Method := { name := "canEncode", desc := "(C)Z", sig := { parameters := [.char], returnType := some .boolean }, accessFlags := 9, code := some k9c1 }
def k9c2 : Code := { maxStack := 4, maxLocals := 1, code := jdk_43_method_46_code, exceptionTable := #[], attributes := #[] }
def k9m2 : Method := { name := "toBytes", desc := "(C)[B", sig := { parameters := [.char], returnType := some (.array .byte) }, accessFlags := 9, code := some k9c2 }
/-- java/lang/StringLatin1 -/
def k9 : Class := { plain "java/lang/StringLatin1" (some 0) with
  accessFlags := 48
  interfaces := #[]
  cf := some (fileOf pool9 14 #[.nestMembers #[390, 221]] #[{ accessFlags := 0, nameIndex := 7, descriptorIndex := 8, attributes := #[] }, { accessFlags := 9, nameIndex := 90, descriptorIndex := 105, attributes := #[] }, { accessFlags := 9, nameIndex := 380, descriptorIndex := 382, attributes := #[] }] 48 4 #[] #[{ accessFlags := 4120, nameIndex := 121, descriptorIndex := 122, attributes := #[] }])
  fields := #[{ name := "$assertionsDisabled", type := .boolean, accessFlags := 4120, slot := 0, constantValue := 0 }]
  methods := #[k9m0, k9m1, k9m2]
  instanceTypes := #[]
  staticTypes := #[.boolean]
  resolved := Array.replicate 395 none
  statics := none }

def pool10 : Array CpInfo := pool [(8, .class_ 10), (1, u "java/lang/Iterable"), (24, .class_ 36), (0, u "java/lang/Object")] 25

/-- java/lang/Iterable -/
def k10 : Class := { plain "java/lang/Iterable" (some 0) with
  accessFlags := 1537
  interfaces := #[]
  cf := some (fileOf pool10 8 #[] #[] 1537 35 #[] #[])
  fields := #[]
  methods := #[]
  instanceTypes := #[]
  staticTypes := #[]
  resolved := Array.replicate 62 none
  statics := none }

def pool11 : Array CpInfo := pool [(10, .class_ 12), (1, u "java/util/Collection"), (47, .class_ 61), (0, u "java/lang/Object"), (0, .class_ 63), (0, u "java/lang/Iterable")] 51

/-- java/util/Collection -/
def k11 : Class := { plain "java/util/Collection" (some 0) with
  accessFlags := 1537
  interfaces := #[10]
  cf := some (fileOf pool11 10 #[] #[] 1537 60 #[62] #[])
  fields := #[]
  methods := #[]
  instanceTypes := #[]
  staticTypes := #[]
  resolved := Array.replicate 115 none
  statics := none }

def pool12 : Array CpInfo := pool [(1, .methodref 2 3), (0, .class_ 4), (0, .nameAndType 5 6), (0, u "java/lang/Object"), (0, u "<init>"), (0, u "()V"), (1, .class_ 10), (1, u "java/util/AbstractCollection"), (66, .class_ 78), (0, u "java/util/Collection")] 81

def k12c0 : Code := { maxStack := 1, maxLocals := 1, code := jdk_22_method_1_code, exceptionTable := #[], attributes := #[] }
def k12m0 : Method := { name := "<init>", desc := "()V", sig := { parameters := [], returnType := none }, accessFlags := 4, code := some k12c0 }
/-- java/util/AbstractCollection -/
def k12 : Class := { plain "java/util/AbstractCollection" (some 0) with
  accessFlags := 1057
  interfaces := #[11]
  cf := some (fileOf pool12 8 #[] #[{ accessFlags := 4, nameIndex := 5, descriptorIndex := 6, attributes := #[] }] 1057 2 #[77] #[])
  fields := #[]
  methods := #[k12m0]
  instanceTypes := #[]
  staticTypes := #[]
  resolved := Array.replicate 160 none
  statics := none }

def pool13 : Array CpInfo := pool [(8, .class_ 10), (1, u "java/util/SequencedCollection"), (15, .class_ 27), (0, u "java/lang/Object"), (0, .class_ 29), (0, u "java/util/Collection")] 27

/-- java/util/SequencedCollection -/
def k13 : Class := { plain "java/util/SequencedCollection" (some 0) with
  accessFlags := 1537
  interfaces := #[11]
  cf := some (fileOf pool13 8 #[] #[] 1537 26 #[28] #[])
  fields := #[]
  methods := #[]
  instanceTypes := #[]
  staticTypes := #[]
  resolved := Array.replicate 57 none
  statics := none }

def pool14 : Array CpInfo := pool [(8, .class_ 10), (1, u "java/util/List"), (49, u "add"), (3, u "(Ljava/lang/Object;)Z"), (38, .class_ 104), (0, u "java/lang/Object"), (15, .class_ 121), (0, u "java/util/SequencedCollection")] 129

def k14m0 : Method := { name := "add", desc := "(Ljava/lang/Object;)Z", sig := { parameters := [(.object "java/lang/Object")], returnType := some .boolean }, accessFlags := 1025, code := none }
/-- java/util/List -/
def k14 : Class := { plain "java/util/List" (some 0) with
  accessFlags := 1537
  interfaces := #[13]
  cf := some (fileOf pool14 8 #[] #[{ accessFlags := 1025, nameIndex := 60, descriptorIndex := 64, attributes := #[] }] 1537 103 #[120] #[])
  fields := #[]
  methods := #[k14m0]
  instanceTypes := #[]
  staticTypes := #[]
  resolved := Array.replicate 251 none
  statics := none }

def pool15 : Array CpInfo := pool [(1, .methodref 2 3), (0, .class_ 4), (0, .nameAndType 5 6), (0, u "java/util/AbstractCollection"), (0, u "<init>"), (0, u "()V"), (0, .fieldref 8 9), (0, .class_ 10), (0, .nameAndType 11 12), (0, u "java/util/AbstractList"), (0, u "modCount"), (0, u "I"), (64, .class_ 78), (0, u "java/util/AbstractList$Itr"), (3, .class_ 83), (0, u "java/util/AbstractList$ListItr"), (9, .class_ 94), (0, u "java/util/AbstractList$RandomAccessSubList"), (3, .class_ 99), (0, u "java/util/AbstractList$SubList"), (33, .class_ 134), (0, u "java/util/List"), (73, .class_ 209), (0, u "java/util/AbstractList$SubList$1"), (0, .class_ 211), (0, u "java/util/AbstractList$RandomAccessSpliterator")] 6

def k15c0 : Code := { maxStack := 2, maxLocals := 1, code := jdk_39_method_1_code, exceptionTable := #[], attributes := #[] }
def k15m0 : Method := { name := "<init>", desc := "()V", sig := { parameters := [], returnType := none }, accessFlags := 4, code := some k15c0 }
/-- java/util/AbstractList -/
def k15 : Class := { plain "java/util/AbstractList" (some 12) with
  accessFlags := 1057
  interfaces := #[14]
  cf := some (fileOf pool15 8 #[.nestMembers #[93, 98, 208, 210, 82, 77]] #[{ accessFlags := 4, nameIndex := 5, descriptorIndex := 6, attributes := #[] }] 1057 2 #[133] #[{ accessFlags := 132, nameIndex := 11, descriptorIndex := 12, attributes := #[] }])
  fields := #[{ name := "modCount", type := .int, accessFlags := 132, slot := 0, constantValue := 0 }]
  methods := #[k15m0]
  instanceTypes := #[.int]
  staticTypes := #[]
  resolved := Array.replicate 218 none
  statics := none }

def pool16 : Array CpInfo := pool [(1, .class_ 2), (0, u "java/util/RandomAccess"), (0, .class_ 4), (0, u "java/lang/Object")] 2

/-- java/util/RandomAccess -/
def k16 : Class := { plain "java/util/RandomAccess" (some 0) with
  accessFlags := 1537
  interfaces := #[]
  cf := some (fileOf pool16 1 #[] #[] 1537 3 #[] #[])
  fields := #[]
  methods := #[]
  instanceTypes := #[]
  staticTypes := #[]
  resolved := Array.replicate 7 none
  statics := none }

def pool17 : Array CpInfo := pool [(1, .class_ 2), (0, u "java/lang/Cloneable"), (0, .class_ 4), (0, u "java/lang/Object")] 2

/-- java/lang/Cloneable -/
def k17 : Class := { plain "java/lang/Cloneable" (some 0) with
  accessFlags := 1537
  interfaces := #[]
  cf := some (fileOf pool17 1 #[] #[] 1537 3 #[] #[])
  fields := #[]
  methods := #[]
  instanceTypes := #[]
  staticTypes := #[]
  resolved := Array.replicate 7 none
  statics := none }

def pool18 : Array CpInfo := pool [(1, .methodref 2 3), (0, .class_ 4), (0, .nameAndType 5 6), (0, u "java/util/AbstractList"), (0, u "<init>"), (0, u "()V"), (0, .class_ 8), (0, u "java/lang/Object"), (0, .fieldref 10 11), (0, .class_ 12), (0, .nameAndType 13 14), (0, u "java/util/ArrayList"), (0, u "elementData"), (0, u "[Ljava/lang/Object;"), (2, u "EMPTY_ELEMENTDATA"), (21, .fieldref 10 40), (0, .nameAndType 41 14), (0, u "DEFAULTCAPACITY_EMPTY_ELEMENTDATA"), (5, u "()[Ljava/lang/Object;"), (0, .fieldref 10 49), (0, .nameAndType 50 51), (0, u "size"), (0, u "I"), (11, .fieldref 10 64), (0, .nameAndType 65 51), (0, u "modCount"), (3, .methodref 10 70), (0, .nameAndType 71 72), (0, u "grow"), (0, u "(I)[Ljava/lang/Object;"), (6, .methodref 80 81), (0, .class_ 82), (0, .nameAndType 83 84), (0, u "java/lang/Math"), (0, u "max"), (0, u "(II)I"), (11, u "(Ljava/lang/Object;)Z"), (32, .methodref 10 130), (0, .nameAndType 71 47), (0, .methodref 10 132), (0, .nameAndType 133 134), (0, u "add"), (0, u "(Ljava/lang/Object;[Ljava/lang/Object;I)V"), (13, .class_ 149), (0, u "java/util/List"), (112, .class_ 263), (0, u "java/util/ArrayList$ListItr"), (3, .class_ 268), (0, u "java/util/ArrayList$Itr"), (7, .class_ 277), (0, u "java/util/ArrayList$SubList"), (12, .class_ 291), (0, u "java/util/ArrayList$ArrayListSpliterator"), (37, .class_ 330), (0, u "java/util/RandomAccess"), (0, .class_ 332), (0, u "java/lang/Cloneable"), (0, .class_ 334), (0, u "java/io/Serializable"), (0, u "serialVersionUID"), (0, u "J"), (3, u "DEFAULT_CAPACITY"), (159, .class_ 501), (0, u "java/util/ArrayList$SubList$2"), (0, .class_ 503), (0, u "java/util/ArrayList$SubList$1")] 5

def k18c0 : Code := { maxStack := 2, maxLocals := 1, code := jdk_38_method_2_code, exceptionTable := #[], attributes := #[] }
def k18m0 : Method := { name := "<init>", desc := "()V", sig := { parameters := [], returnType := none }, accessFlags := 1, code := some k18c0 }
def k18c1 : Code := { maxStack := 4, maxLocals := 4, code := jdk_38_method_6_code, exceptionTable := #[], attributes := #[] }
def k18m1 : Method := { name := "grow", desc := "(I)[Ljava/lang/Object;", sig := { parameters := [.int], returnType := some (.array (.object "java/lang/Object")) }, accessFlags := 2, code := some k18c1 }
def k18c2 : Code := { maxStack := 3, maxLocals := 1, code := jdk_38_method_7_code, exceptionTable := #[], attributes := #[] }
def k18m2 : Method := { name := "grow", desc := "()[Ljava/lang/Object;", sig := { parameters := [], returnType := some (.array (.object "java/lang/Object")) }, accessFlags := 2, code := some k18c2 }
def k18c3 : Code := { maxStack := 3, maxLocals := 4, code := jdk_38_method_24_code, exceptionTable := #[], attributes := #[] }
def k18m3 : Method := { name := "add", desc := "(Ljava/lang/Object;[Ljava/lang/Object;I)V", sig := { parameters := [(.object "java/lang/Object"), (.array (.object "java/lang/Object")), .int], returnType := none }, accessFlags := 2, code := some k18c3 }
def k18c4 : Code := { maxStack := 4, maxLocals := 2, code := jdk_38_method_25_code, exceptionTable := #[], attributes := #[] }
def k18m4 : Method := { name := "add", desc := "(Ljava/lang/Object;)Z", sig := { parameters := [(.object "java/lang/Object")], returnType := some .boolean }, accessFlags := 1, code := some k18c4 }
/-- java/util/ArrayList -/
def k18 : Class := { plain "java/util/ArrayList" (some 15) with
  accessFlags := 33
  interfaces := #[14, 16, 17, 3]
  cf := some (fileOf pool18 10 #[.nestMembers #[290, 276, 500, 502, 262, 267]] #[{ accessFlags := 1, nameIndex := 5, descriptorIndex := 6, attributes := #[] }, { accessFlags := 2, nameIndex := 71, descriptorIndex := 72, attributes := #[] }, { accessFlags := 2, nameIndex := 71, descriptorIndex := 47, attributes := #[] }, { accessFlags := 2, nameIndex := 133, descriptorIndex := 134, attributes := #[] }, { accessFlags := 1, nameIndex := 133, descriptorIndex := 96, attributes := #[] }] 33 2 #[148, 329, 331, 333] #[{ accessFlags := 26, nameIndex := 335, descriptorIndex := 336, attributes := #[] }, { accessFlags := 26, nameIndex := 340, descriptorIndex := 51, attributes := #[] }, { accessFlags := 26, nameIndex := 17, descriptorIndex := 14, attributes := #[] }, { accessFlags := 26, nameIndex := 41, descriptorIndex := 14, attributes := #[] }, { accessFlags := 128, nameIndex := 13, descriptorIndex := 14, attributes := #[] }, { accessFlags := 2, nameIndex := 50, descriptorIndex := 51, attributes := #[] }])
  fields := #[{ name := "serialVersionUID", type := .long, accessFlags := 26, slot := 0, constantValue := 0 }, { name := "DEFAULT_CAPACITY", type := .int, accessFlags := 26, slot := 1, constantValue := 0 }, { name := "EMPTY_ELEMENTDATA", type := (.array (.object "java/lang/Object")), accessFlags := 26, slot := 2, constantValue := 0 }, { name := "DEFAULTCAPACITY_EMPTY_ELEMENTDATA", type := (.array (.object "java/lang/Object")), accessFlags := 26, slot := 3, constantValue := 0 }, { name := "elementData", type := (.array (.object "java/lang/Object")), accessFlags := 128, slot := 1, constantValue := 0 }, { name := "size", type := .int, accessFlags := 2, slot := 2, constantValue := 0 }]
  methods := #[k18m0, k18m1, k18m2, k18m3, k18m4]
  instanceTypes := #[.int, (.array (.object "java/lang/Object")), .int]
  staticTypes := #[.long, .int, (.array (.object "java/lang/Object")), (.array (.object "java/lang/Object"))]
  resolved := Array.replicate 509 none
  statics := some 1 }

def pool19 : Array CpInfo := pool [(1, .class_ 2), (0, u "java/lang/Math"), (1, .class_ 6), (1, u "java/lang/Object"), (0, u "<init>"), (0, u "()V"), (89, .class_ 100), (1, u "java/lang/Math$RandomNumberGeneratorHolder"), (71, u "negativeZeroFloatBits"), (0, u "J"), (2, u "negativeZeroDoubleBits"), (21, u "max"), (2, u "min"), (43, u "$assertionsDisabled"), (0, u "Z"), (88, u "(II)I"), (2, u "twoToTheDoubleScaleDown"), (0, u "D"), (4, u "twoToTheDoubleScaleUp"), (9, u "E"), (3, u "PI"), (2, u "TAU"), (2, u "DEGREES_TO_RADIANS"), (0, u "RADIANS_TO_DEGREES")] 94

def k19m0 : Method := { name := "<init>", desc := "()V", sig := { parameters := [], returnType := none }, accessFlags := 2, code := none }
def k19c1 : Code := { maxStack := 2, maxLocals := 2, code := jdk_29_method_65_code, exceptionTable := #[], attributes := #[] }
def k19m1 : Method := { name := "max", desc := "(II)I", sig := { parameters := [.int, .int], returnType := some .int }, accessFlags := 9, code := some k19c1 }
def k19c2 : Code := { maxStack := 2, maxLocals := 2, code := jdk_29_method_69_code, exceptionTable := #[], attributes := #[] }
def k19m2 : Method := { name := "min", desc := "(II)I", sig := { parameters := [.int, .int], returnType := some .int }, accessFlags := 9, code := some k19c2 }
/-- java/lang/Math -/
def k19 : Class := { plain "java/lang/Math" (some 0) with
  accessFlags := 49
  interfaces := #[]
  cf := some (fileOf pool19 1 #[.nestMembers #[98]] #[{ accessFlags := 2, nameIndex := 7, descriptorIndex := 8, attributes := #[] }, { accessFlags := 9, nameIndex := 198, descriptorIndex := 335, attributes := #[] }, { accessFlags := 9, nameIndex := 201, descriptorIndex := 335, attributes := #[] }] 49 4 #[] #[{ accessFlags := 25, nameIndex := 354, descriptorIndex := 339, attributes := #[] }, { accessFlags := 25, nameIndex := 358, descriptorIndex := 339, attributes := #[] }, { accessFlags := 25, nameIndex := 361, descriptorIndex := 339, attributes := #[] }, { accessFlags := 26, nameIndex := 364, descriptorIndex := 339, attributes := #[] }, { accessFlags := 26, nameIndex := 365, descriptorIndex := 339, attributes := #[] }, { accessFlags := 26, nameIndex := 172, descriptorIndex := 173, attributes := #[] }, { accessFlags := 26, nameIndex := 176, descriptorIndex := 173, attributes := #[] }, { accessFlags := 8, nameIndex := 344, descriptorIndex := 339, attributes := #[] }, { accessFlags := 8, nameIndex := 338, descriptorIndex := 339, attributes := #[] }, { accessFlags := 4120, nameIndex := 245, descriptorIndex := 246, attributes := #[] }])
  fields := #[{ name := "E", type := .double, accessFlags := 25, slot := 0, constantValue := 0 }, { name := "PI", type := .double, accessFlags := 25, slot := 1, constantValue := 0 }, { name := "TAU", type := .double, accessFlags := 25, slot := 2, constantValue := 0 }, { name := "DEGREES_TO_RADIANS", type := .double, accessFlags := 26, slot := 3, constantValue := 0 }, { name := "RADIANS_TO_DEGREES", type := .double, accessFlags := 26, slot := 4, constantValue := 0 }, { name := "negativeZeroFloatBits", type := .long, accessFlags := 26, slot := 5, constantValue := 0 }, { name := "negativeZeroDoubleBits", type := .long, accessFlags := 26, slot := 6, constantValue := 0 }, { name := "twoToTheDoubleScaleUp", type := .double, accessFlags := 8, slot := 7, constantValue := 0 }, { name := "twoToTheDoubleScaleDown", type := .double, accessFlags := 8, slot := 8, constantValue := 0 }, { name := "$assertionsDisabled", type := .boolean, accessFlags := 4120, slot := 9, constantValue := 0 }]
  methods := #[k19m0, k19m1, k19m2]
  instanceTypes := #[]
  staticTypes := #[.double, .double, .double, .double, .double, .long, .long, .double, .double, .boolean]
  resolved := Array.replicate 460 none
  statics := none }

def pool20 : Array CpInfo := pool [(1, .class_ 2), (0, u "java/lang/Appendable"), (0, .class_ 4), (0, u "java/lang/Object")] 9

/-- java/lang/Appendable -/
def k20 : Class := { plain "java/lang/Appendable" (some 0) with
  accessFlags := 1537
  interfaces := #[]
  cf := some (fileOf pool20 1 #[] #[] 1537 3 #[] #[])
  fields := #[]
  methods := #[]
  instanceTypes := #[]
  staticTypes := #[]
  resolved := Array.replicate 14 none
  statics := none }

def pool21 : Array CpInfo := pool [(1, .class_ 2), (0, u "java/lang/String"), (0, .methodref 4 5), (0, .class_ 6), (0, .nameAndType 7 8), (0, u "java/lang/Object"), (0, u "<init>"), (0, u "()V"), (1, .class_ 12), (1, u "java/lang/AbstractStringBuilder"), (0, u "EMPTYVALUE"), (0, u "[B"), (0, .fieldref 10 16), (0, .nameAndType 17 14), (0, u "value"), (0, .fieldref 1 19), (0, .nameAndType 20 21), (0, u "COMPACT_STRINGS"), (0, u "Z"), (0, .fieldref 10 23), (0, .nameAndType 24 25), (0, u "coder"), (0, u "B"), (6, .methodref 1 33), (0, .nameAndType 34 35), (0, u "length"), (0, u "()I"), (3, .integer 2147483647), (0, .methodref 1 41), (0, .nameAndType 24 42), (0, u "()B"), (2, u "append"), (0, u "(Ljava/lang/String;)Ljava/lang/AbstractStringBuilder;"), (1, .class_ 49), (0, u "java/lang/CharSequence"), (19, u "(Ljava/lang/String;)V"), (5, u "maybeLatin1"), (3, .fieldref 10 80), (0, .nameAndType 81 82), (0, u "count"), (0, u "I"), (0, .methodref 10 84), (0, .nameAndType 85 86), (0, u "isLatin1"), (0, u "()Z"), (13, .methodref 10 101), (0, .nameAndType 102 103), (0, u "ensureCapacityInternal"), (0, u "(I)V"), (0, .methodref 10 105), (0, .nameAndType 106 107), (0, u "newCapacity"), (0, u "(I)I"), (0, .methodref 109 110), (0, .class_ 111), (0, .nameAndType 112 113), (0, u "java/util/Arrays"), (0, u "copyOf"), (0, u "([BI)[B"), (0, .methodref 115 116), (0, .class_ 117), (0, .nameAndType 118 119), (0, u "jdk/internal/util/ArraysSupport"), (0, u "newLength"), (0, u "(III)I"), (68, u "getChars"), (19, .methodref 10 209), (0, .nameAndType 210 211), (0, u "putStringAt"), (0, u "(ILjava/lang/String;)V"), (5, u "inflateIfNeededFor"), (2, .nameAndType 221 222), (0, u "getBytes"), (0, u "([BIB)V"), (24, u "stringSize"), (6, .methodref 255 256), (0, .class_ 257), (0, .nameAndType 247 258), (0, u "java/lang/Long"), (0, u "(J)I"), (0, .methodref 255 260), (0, .nameAndType 188 261), (0, u "(JI[B)I"), (135, .methodref 10 398), (0, .nameAndType 217 69), (0, .methodref 1 220), (3, u "()[B"), (40, .class_ 445), (0, u "java/lang/Appendable"), (67, u "(J)Ljava/lang/AbstractStringBuilder;"), (38, u "getValue")] 56

def k21m0 : Method := { name := "<init>", desc := "()V", sig := { parameters := [], returnType := none }, accessFlags := 0, code := none }
def k21c1 : Code := { maxStack := 2, maxLocals := 2, code := jdk_68_method_2_code, exceptionTable := #[], attributes := #[] }
def k21m1 : Method := { name := "<init>", desc := "(I)V", sig := { parameters := [.int], returnType := none }, accessFlags := 0, code := some k21c1 }
def k21c2 : Code := { maxStack := 1, maxLocals := 1, code := jdk_68_method_6_code, exceptionTable := #[], attributes := #[] }
def k21m2 : Method := { name := "length", desc := "()I", sig := { parameters := [], returnType := some .int }, accessFlags := 1, code := some k21c2 }
def k21c3 : Code := { maxStack := 4, maxLocals := 3, code := jdk_68_method_9_code, exceptionTable := #[], attributes := #[] }
def k21m3 : Method := { name := "ensureCapacityInternal", desc := "(I)V", sig := { parameters := [.int], returnType := none }, accessFlags := 2, code := some k21c3 }
def k21c4 : Code := { maxStack := 5, maxLocals := 6, code := jdk_68_method_10_code, exceptionTable := #[], attributes := #[] }
def k21m4 : Method := { name := "newCapacity", desc := "(I)I", sig := { parameters := [.int], returnType := some .int }, accessFlags := 2, code := some k21c4 }
def k21c5 : Code := { maxStack := 3, maxLocals := 3, code := jdk_68_method_22_code, exceptionTable := #[], attributes := #[] }
def k21m5 : Method := { name := "append", desc := "(Ljava/lang/String;)Ljava/lang/AbstractStringBuilder;", sig := { parameters := [(.object "java/lang/String")], returnType := some (.object "java/lang/AbstractStringBuilder") }, accessFlags := 1, code := some k21c5 }
def k21c6 : Code := { maxStack := 5, maxLocals := 5, code := jdk_68_method_33_code, exceptionTable := #[], attributes := #[] }
def k21m6 : Method := { name := "append", desc := "(J)Ljava/lang/AbstractStringBuilder;", sig := { parameters := [.long], returnType := some (.object "java/lang/AbstractStringBuilder") }, accessFlags := 1, code := some k21c6 }
def k21c7 : Code := { maxStack := 1, maxLocals := 1, code := jdk_68_method_64_code, exceptionTable := #[], attributes := #[] }
def k21m7 : Method := { name := "getValue", desc := "()[B", sig := { parameters := [], returnType := some (.array .byte) }, accessFlags := 16, code := some k21c7 }
def k21c8 : Code := { maxStack := 1, maxLocals := 1, code := jdk_68_method_68_code, exceptionTable := #[], attributes := #[] }
def k21m8 : Method := { name := "isLatin1", desc := "()Z", sig := { parameters := [], returnType := some .boolean }, accessFlags := 16, code := some k21c8 }
def k21c9 : Code := { maxStack := 2, maxLocals := 2, code := jdk_68_method_71_code, exceptionTable := #[], attributes := #[] }
def k21m9 : Method := { name := "inflateIfNeededFor", desc := "(Ljava/lang/String;)V", sig := { parameters := [(.object "java/lang/String")], returnType := none }, accessFlags := 2, code := some k21c9 }
def k21c10 : Code := { maxStack := 4, maxLocals := 3, code := jdk_68_method_73_code, exceptionTable := #[], attributes := #[] }
def k21m10 : Method := { name := "putStringAt", desc := "(ILjava/lang/String;)V", sig := { parameters := [.int, (.object "java/lang/String")], returnType := none }, accessFlags := 2, code := some k21c10 }
/-- java/lang/AbstractStringBuilder -/
def k21 : Class := { plain "java/lang/AbstractStringBuilder" (some 0) with
  accessFlags := 1056
  interfaces := #[20, 5]
  cf := some (fileOf pool21 10 #[] #[{ accessFlags := 0, nameIndex := 7, descriptorIndex := 8, attributes := #[] }, { accessFlags := 0, nameIndex := 7, descriptorIndex := 103, attributes := #[] }, { accessFlags := 1, nameIndex := 34, descriptorIndex := 35, attributes := #[] }, { accessFlags := 2, nameIndex := 102, descriptorIndex := 103, attributes := #[] }, { accessFlags := 2, nameIndex := 106, descriptorIndex := 107, attributes := #[] }, { accessFlags := 1, nameIndex := 45, descriptorIndex := 46, attributes := #[] }, { accessFlags := 1, nameIndex := 45, descriptorIndex := 513, attributes := #[] }, { accessFlags := 16, nameIndex := 552, descriptorIndex := 403, attributes := #[] }, { accessFlags := 16, nameIndex := 85, descriptorIndex := 86, attributes := #[] }, { accessFlags := 2, nameIndex := 217, descriptorIndex := 69, attributes := #[] }, { accessFlags := 2, nameIndex := 210, descriptorIndex := 211, attributes := #[] }] 1056 4 #[444, 48] #[{ accessFlags := 0, nameIndex := 17, descriptorIndex := 14, attributes := #[] }, { accessFlags := 0, nameIndex := 24, descriptorIndex := 25, attributes := #[] }, { accessFlags := 0, nameIndex := 75, descriptorIndex := 21, attributes := #[] }, { accessFlags := 0, nameIndex := 81, descriptorIndex := 82, attributes := #[] }, { accessFlags := 26, nameIndex := 13, descriptorIndex := 14, attributes := #[] }])
  fields := #[{ name := "value", type := (.array .byte), accessFlags := 0, slot := 0, constantValue := 0 }, { name := "coder", type := .byte, accessFlags := 0, slot := 1, constantValue := 0 }, { name := "maybeLatin1", type := .boolean, accessFlags := 0, slot := 2, constantValue := 0 }, { name := "count", type := .int, accessFlags := 0, slot := 3, constantValue := 0 }, { name := "EMPTYVALUE", type := (.array .byte), accessFlags := 26, slot := 0, constantValue := 0 }]
  methods := #[k21m0, k21m1, k21m2, k21m3, k21m4, k21m5, k21m6, k21m7, k21m8, k21m9, k21m10]
  instanceTypes := #[(.array .byte), .byte, .boolean, .int]
  staticTypes := #[(.array .byte)]
  resolved := Array.replicate 609 none
  statics := none }

def pool22 : Array CpInfo := pool [(1, .methodref 2 3), (0, .class_ 4), (0, .nameAndType 5 6), (0, u "java/lang/AbstractStringBuilder"), (0, u "<init>"), (0, u "(I)V"), (11, .class_ 20), (1, u "java/lang/String"), (3, .class_ 26), (1, u "java/lang/StringBuilder"), (0, u "append"), (0, u "(Ljava/lang/String;)Ljava/lang/StringBuilder;"), (0, .methodref 2 30), (0, .nameAndType 27 31), (0, u "(Ljava/lang/String;)Ljava/lang/AbstractStringBuilder;"), (24, .methodref 2 57), (0, .nameAndType 27 58), (0, u "(J)Ljava/lang/AbstractStringBuilder;"), (78, .methodref 18 138), (0, .nameAndType 5 139), (0, u "(Ljava/lang/StringBuilder;)V"), (5, u "()V"), (10, u "()I"), (124, u "(J)Ljava/lang/StringBuilder;"), (61, .methodref 2 344), (0, .nameAndType 345 156), (0, u "length"), (3, .class_ 350), (0, u "java/lang/Appendable"), (0, .class_ 352), (0, u "java/io/Serializable"), (0, .class_ 354), (0, u "java/lang/Comparable"), (0, .class_ 356), (0, u "java/lang/CharSequence"), (0, u "serialVersionUID"), (0, u "J"), (40, u "toString"), (0, u "()Ljava/lang/String;")] 21

def k22c0 : Code := { maxStack := 2, maxLocals := 1, code := jdk_67_method_1_code, exceptionTable := #[], attributes := #[] }
def k22m0 : Method := { name := "<init>", desc := "()V", sig := { parameters := [], returnType := none }, accessFlags := 1, code := some k22c0 }
def k22c1 : Code := { maxStack := 2, maxLocals := 2, code := jdk_67_method_7_code, exceptionTable := #[], attributes := #[] }
def k22m1 : Method := { name := "append", desc := "(Ljava/lang/String;)Ljava/lang/StringBuilder;", sig := { parameters := [(.object "java/lang/String")], returnType := some (.object "java/lang/StringBuilder") }, accessFlags := 1, code := some k22c1 }
def k22c2 : Code := { maxStack := 3, maxLocals := 3, code := jdk_67_method_16_code, exceptionTable := #[], attributes := #[] }
def k22m2 : Method := { name := "append", desc := "(J)Ljava/lang/StringBuilder;", sig := { parameters := [.long], returnType := some (.object "java/lang/StringBuilder") }, accessFlags := 1, code := some k22c2 }
def k22c3 : Code := { maxStack := 3, maxLocals := 1, code := jdk_67_method_42_code, exceptionTable := #[], attributes := #[] }
def k22m3 : Method := { name := "toString", desc := "()Ljava/lang/String;", sig := { parameters := [], returnType := some (.object "java/lang/String") }, accessFlags := 1, code := some k22c3 }
def k22c4 : Code := { maxStack := 1, maxLocals := 1, code := jdk_67_method_93_code, exceptionTable := #[], attributes := #[] }
def k22m4 : Method := { name := "length", desc := "()I", sig := { parameters := [], returnType := some .int }, accessFlags := 4161, code := some k22c4 }
/-- java/lang/StringBuilder -/
def k22 : Class := { plain "java/lang/StringBuilder" (some 21) with
  accessFlags := 49
  interfaces := #[20, 3, 4, 5]
  cf := some (fileOf pool22 24 #[] #[{ accessFlags := 1, nameIndex := 5, descriptorIndex := 145, attributes := #[] }, { accessFlags := 1, nameIndex := 27, descriptorIndex := 28, attributes := #[] }, { accessFlags := 1, nameIndex := 27, descriptorIndex := 281, attributes := #[] }, { accessFlags := 1, nameIndex := 399, descriptorIndex := 400, attributes := #[] }, { accessFlags := 4161, nameIndex := 345, descriptorIndex := 156, attributes := #[] }] 49 2 #[349, 351, 353, 355] #[{ accessFlags := 24, nameIndex := 357, descriptorIndex := 358, attributes := #[] }])
  fields := #[{ name := "serialVersionUID", type := .long, accessFlags := 24, slot := 0, constantValue := 0 }]
  methods := #[k22m0, k22m1, k22m2, k22m3, k22m4]
  instanceTypes := #[(.array .byte), .byte, .boolean, .int]
  staticTypes := #[.long]
  resolved := Array.replicate 422 none
  statics := none }

def pool23 : Array CpInfo := pool [(2, .class_ 4), (1, u "java/lang/Object"), (0, u "<init>"), (0, u "()V"), (1, .class_ 10), (1, u "java/lang/System"), (0, u "allowSecurityManager"), (0, u "I"), (16, u "cons"), (0, u "Ljava/io/Console;"), (77, .class_ 110), (1, u "java/lang/System$CallersHolder"), (43, u "initialErrStream"), (0, u "Ljava/io/PrintStream;"), (19, u "security"), (0, u "Ljava/lang/SecurityManager;"), (31, .class_ 209), (0, u "java/lang/System$1"), (7, u "props"), (0, u "Ljava/util/Properties;"), (2, u "lineSeparator"), (0, u "Ljava/lang/String;"), (96, .class_ 321), (1, u "java/lang/System$LoggerFinder"), (5, .class_ 328), (0, u "java/lang/System$Logger"), (67, u "err"), (2, u "out"), (91, u "notSupportedJnuEncoding"), (15, u "in"), (17, u "initialIn"), (0, u "Ljava/io/InputStream;"), (35, u "bootLayer"), (0, u "Ljava/lang/ModuleLayer;"), (99, .class_ 664), (0, u "java/lang/System$2"), (9, u "NEVER"), (2, u "MAYBE"), (49, u "arraycopy"), (0, u "(Ljava/lang/Object;ILjava/lang/Object;II)V"), (72, .class_ 802), (0, u "java/lang/System$Logger$Level")] 31

def k23m0 : Method := { name := "<init>", desc := "()V", sig := { parameters := [], returnType := none }, accessFlags := 2, code := none }
def k23m1 : Method := { name := "arraycopy", desc := "(Ljava/lang/Object;ILjava/lang/Object;II)V", sig := { parameters := [(.object "java/lang/Object"), .int, (.object "java/lang/Object"), .int, .int], returnType := none }, accessFlags := 265, code := none }
/-- java/lang/System -/
def k23 : Class := { plain "java/lang/System" (some 0) with
  accessFlags := 49
  interfaces := #[]
  cf := some (fileOf pool23 8 #[.nestMembers #[319, 327, 801, 108, 663, 208]] #[{ accessFlags := 2, nameIndex := 5, descriptorIndex := 6, attributes := #[] }, { accessFlags := 265, nameIndex := 727, descriptorIndex := 728, attributes := #[] }] 49 2 #[] #[{ accessFlags := 25, nameIndex := 507, descriptorIndex := 526, attributes := #[] }, { accessFlags := 25, nameIndex := 399, descriptorIndex := 155, attributes := #[] }, { accessFlags := 25, nameIndex := 396, descriptorIndex := 155, attributes := #[] }, { accessFlags := 10, nameIndex := 525, descriptorIndex := 526, attributes := #[] }, { accessFlags := 26, nameIndex := 674, descriptorIndex := 12, attributes := #[] }, { accessFlags := 26, nameIndex := 677, descriptorIndex := 12, attributes := #[] }, { accessFlags := 10, nameIndex := 11, descriptorIndex := 12, attributes := #[] }, { accessFlags := 74, nameIndex := 175, descriptorIndex := 176, attributes := #[] }, { accessFlags := 10, nameIndex := 491, descriptorIndex := 222, attributes := #[] }, { accessFlags := 74, nameIndex := 29, descriptorIndex := 30, attributes := #[] }, { accessFlags := 74, nameIndex := 154, descriptorIndex := 155, attributes := #[] }, { accessFlags := 10, nameIndex := 217, descriptorIndex := 218, attributes := #[] }, { accessFlags := 10, nameIndex := 221, descriptorIndex := 222, attributes := #[] }, { accessFlags := 8, nameIndex := 562, descriptorIndex := 563, attributes := #[] }])
  fields := #[{ name := "in", type := (.object "java/io/InputStream"), accessFlags := 25, slot := 0, constantValue := 0 }, { name := "out", type := (.object "java/io/PrintStream"), accessFlags := 25, slot := 1, constantValue := 0 }, { name := "err", type := (.object "java/io/PrintStream"), accessFlags := 25, slot := 2, constantValue := 0 }, { name := "initialIn", type := (.object "java/io/InputStream"), accessFlags := 10, slot := 3, constantValue := 0 }, { name := "NEVER", type := .int, accessFlags := 26, slot := 4, constantValue := 0 }, { name := "MAYBE", type := .int, accessFlags := 26, slot := 5, constantValue := 0 }, { name := "allowSecurityManager", type := .int, accessFlags := 10, slot := 6, constantValue := 0 }, { name := "security", type := (.object "java/lang/SecurityManager"), accessFlags := 74, slot := 7, constantValue := 0 }, { name := "notSupportedJnuEncoding", type := (.object "java/lang/String"), accessFlags := 10, slot := 8, constantValue := 0 }, { name := "cons", type := (.object "java/io/Console"), accessFlags := 74, slot := 9, constantValue := 0 }, { name := "initialErrStream", type := (.object "java/io/PrintStream"), accessFlags := 74, slot := 10, constantValue := 0 }, { name := "props", type := (.object "java/util/Properties"), accessFlags := 10, slot := 11, constantValue := 0 }, { name := "lineSeparator", type := (.object "java/lang/String"), accessFlags := 10, slot := 12, constantValue := 0 }, { name := "bootLayer", type := (.object "java/lang/ModuleLayer"), accessFlags := 8, slot := 13, constantValue := 0 }]
  methods := #[k23m0, k23m1]
  instanceTypes := #[]
  staticTypes := #[(.object "java/io/InputStream"), (.object "java/io/PrintStream"), (.object "java/io/PrintStream"), (.object "java/io/InputStream"), .int, .int, .int, (.object "java/lang/SecurityManager"), (.object "java/lang/String"), (.object "java/io/Console"), (.object "java/io/PrintStream"), (.object "java/util/Properties"), (.object "java/lang/String"), (.object "java/lang/ModuleLayer")]
  resolved := Array.replicate 834 none
  statics := none }

def pool24 : Array CpInfo := pool [(2, .class_ 4), (1, u "java/lang/Object"), (0, u "<init>"), (0, u "()V"), (1, .class_ 10), (1, u "java/lang/Number"), (2, .class_ 14), (0, u "java/io/Serializable"), (0, u "serialVersionUID"), (0, u "J")] 20

def k24m0 : Method := { name := "<init>", desc := "()V", sig := { parameters := [], returnType := none }, accessFlags := 1, code := none }
/-- java/lang/Number -/
def k24 : Class := { plain "java/lang/Number" (some 0) with
  accessFlags := 1057
  interfaces := #[3]
  cf := some (fileOf pool24 8 #[] #[{ accessFlags := 1, nameIndex := 5, descriptorIndex := 6, attributes := #[] }] 1057 2 #[13] #[{ accessFlags := 26, nameIndex := 15, descriptorIndex := 16, attributes := #[] }])
  fields := #[{ name := "serialVersionUID", type := .long, accessFlags := 26, slot := 0, constantValue := 0 }]
  methods := #[k24m0]
  instanceTypes := #[]
  staticTypes := #[.long]
  resolved := Array.replicate 37 none
  statics := none }

def pool25 : Array CpInfo := pool [(1, .class_ 2), (0, u "java/lang/Long"), (15, .class_ 20), (1, u "java/lang/Integer"), (32, .long 10), (47, u "(J)I"), (18, u "stringSize"), (2, u "getChars"), (0, u "(JI[B)I"), (4, .long 18446744071562067968), (1, .long 100), (1, .fieldref 18 134), (0, .nameAndType 135 136), (0, u "DigitOnes"), (0, u "[B"), (0, .fieldref 18 138), (0, .nameAndType 139 136), (0, u "DigitTens"), (0, .long 18446744073709551606), (94, .class_ 237), (1, u "java/lang/Long$LongCache"), (33, .class_ 272), (0, u "java/lang/Number"), (2, u "value"), (0, u "J"), (84, u "TYPE"), (0, u "Ljava/lang/Class;"), (0, .class_ 364), (0, u "java/lang/Comparable"), (0, .class_ 366), (0, u "java/lang/constant/Constable"), (0, .class_ 368), (0, u "java/lang/constant/ConstantDesc"), (0, u "MIN_VALUE"), (1, u "MAX_VALUE"), (4, u "SIZE"), (0, u "I"), (1, u "BYTES"), (1, u "serialVersionUID")] 142

def k25c0 : Code := { maxStack := 4, maxLocals := 11, code := jdk_35_method_14_code, exceptionTable := #[], attributes := #[] }
def k25m0 : Method := { name := "getChars", desc := "(JI[B)I", sig := { parameters := [.long, .int, (.array .byte)], returnType := some .int }, accessFlags := 8, code := some k25c0 }
def k25c1 : Code := { maxStack := 4, maxLocals := 6, code := jdk_35_method_15_code, exceptionTable := #[], attributes := #[] }
def k25m1 : Method := { name := "stringSize", desc := "(J)I", sig := { parameters := [.long], returnType := some .int }, accessFlags := 8, code := some k25c1 }
/-- java/lang/Long -/
def k25 : Class := { plain "java/lang/Long" (some 24) with
  accessFlags := 49
  interfaces := #[4, 6, 7]
  cf := some (fileOf pool25 1 #[.nestMembers #[235]] #[{ accessFlags := 8, nameIndex := 123, descriptorIndex := 124, attributes := #[] }, { accessFlags := 8, nameIndex := 120, descriptorIndex := 101, attributes := #[] }] 49 271 #[363, 365, 367] #[{ accessFlags := 25, nameIndex := 369, descriptorIndex := 276, attributes := #[] }, { accessFlags := 25, nameIndex := 371, descriptorIndex := 276, attributes := #[] }, { accessFlags := 25, nameIndex := 361, descriptorIndex := 362, attributes := #[] }, { accessFlags := 18, nameIndex := 275, descriptorIndex := 276, attributes := #[] }, { accessFlags := 25, nameIndex := 376, descriptorIndex := 377, attributes := #[] }, { accessFlags := 25, nameIndex := 379, descriptorIndex := 377, attributes := #[] }, { accessFlags := 26, nameIndex := 381, descriptorIndex := 276, attributes := #[] }])
  fields := #[{ name := "MIN_VALUE", type := .long, accessFlags := 25, slot := 0, constantValue := 0 }, { name := "MAX_VALUE", type := .long, accessFlags := 25, slot := 1, constantValue := 0 }, { name := "TYPE", type := (.object "java/lang/Class"), accessFlags := 25, slot := 2, constantValue := 0 }, { name := "value", type := .long, accessFlags := 18, slot := 0, constantValue := 0 }, { name := "SIZE", type := .int, accessFlags := 25, slot := 3, constantValue := 0 }, { name := "BYTES", type := .int, accessFlags := 25, slot := 4, constantValue := 0 }, { name := "serialVersionUID", type := .long, accessFlags := 26, slot := 5, constantValue := 0 }]
  methods := #[k25m0, k25m1]
  instanceTypes := #[.long]
  staticTypes := #[.long, .long, (.object "java/lang/Class"), .int, .int, .long]
  resolved := Array.replicate 524 none
  statics := none }

def pool26 : Array CpInfo := pool [(1, .class_ 2), (0, u "java/lang/Integer"), (16, u "digits"), (0, u "[C"), (64, u "DigitOnes"), (0, u "[B"), (2, u "DigitTens"), (99, .class_ 190), (0, u "java/lang/Integer$IntegerCache"), (3, u "I"), (8, .class_ 204), (0, u "java/lang/Number"), (2, u "value"), (94, u "TYPE"), (0, u "Ljava/lang/Class;"), (0, .class_ 305), (0, u "java/lang/Comparable"), (0, .class_ 307), (0, u "java/lang/constant/Constable"), (0, .class_ 309), (0, u "java/lang/constant/ConstantDesc"), (0, u "MIN_VALUE"), (1, u "MAX_VALUE"), (3, u "SIZE"), (1, u "BYTES"), (1, u "serialVersionUID"), (0, u "J")] 131

/-- java/lang/Integer -/
def k26 : Class := { plain "java/lang/Integer" (some 24) with
  accessFlags := 49
  interfaces := #[4, 6, 7]
  cf := some (fileOf pool26 1 #[.nestMembers #[189]] #[] 49 203 #[304, 306, 308] #[{ accessFlags := 25, nameIndex := 310, descriptorIndex := 194, attributes := #[] }, { accessFlags := 25, nameIndex := 312, descriptorIndex := 194, attributes := #[] }, { accessFlags := 25, nameIndex := 302, descriptorIndex := 303, attributes := #[] }, { accessFlags := 24, nameIndex := 19, descriptorIndex := 20, attributes := #[] }, { accessFlags := 24, nameIndex := 89, descriptorIndex := 86, attributes := #[] }, { accessFlags := 24, nameIndex := 85, descriptorIndex := 86, attributes := #[] }, { accessFlags := 18, nameIndex := 207, descriptorIndex := 194, attributes := #[] }, { accessFlags := 25, nameIndex := 316, descriptorIndex := 194, attributes := #[] }, { accessFlags := 25, nameIndex := 318, descriptorIndex := 194, attributes := #[] }, { accessFlags := 26, nameIndex := 320, descriptorIndex := 321, attributes := #[] }])
  fields := #[{ name := "MIN_VALUE", type := .int, accessFlags := 25, slot := 0, constantValue := 0 }, { name := "MAX_VALUE", type := .int, accessFlags := 25, slot := 1, constantValue := 0 }, { name := "TYPE", type := (.object "java/lang/Class"), accessFlags := 25, slot := 2, constantValue := 0 }, { name := "digits", type := (.array .char), accessFlags := 24, slot := 3, constantValue := 0 }, { name := "DigitTens", type := (.array .byte), accessFlags := 24, slot := 4, constantValue := 0 }, { name := "DigitOnes", type := (.array .byte), accessFlags := 24, slot := 5, constantValue := 0 }, { name := "value", type := .int, accessFlags := 18, slot := 0, constantValue := 0 }, { name := "SIZE", type := .int, accessFlags := 25, slot := 6, constantValue := 0 }, { name := "BYTES", type := .int, accessFlags := 25, slot := 7, constantValue := 0 }, { name := "serialVersionUID", type := .long, accessFlags := 26, slot := 8, constantValue := 0 }]
  methods := #[]
  instanceTypes := #[.int]
  staticTypes := #[.int, .int, (.object "java/lang/Class"), (.array .char), (.array .byte), (.array .byte), .int, .int, .long]
  resolved := Array.replicate 453 none
  statics := some 2 }

def pool27 : Array CpInfo := pool [(2, .class_ 4), (1, u "java/lang/Object"), (0, u "<init>"), (0, u "()V"), (7, .class_ 16), (1, u "java/util/Arrays"), (57, .class_ 76), (1, u "java/util/Arrays$NaturalOrder"), (32, u "()Ljava/lang/Object;"), (3, .class_ 115), (1, u "java/util/Arrays$LegacyMergeSort"), (1, u "Z"), (10, .nameAndType 129 109), (0, u "clone"), (9, u "copyOfRange"), (10, .methodref 151 152), (0, .class_ 153), (0, .nameAndType 154 155), (0, u "java/lang/System"), (0, u "arraycopy"), (0, u "(Ljava/lang/Object;ILjava/lang/Object;II)V"), (146, u "copyOf"), (1, .methodref 305 306), (0, .class_ 307), (0, .nameAndType 308 309), (0, u "java/lang/Math"), (0, u "min"), (0, u "(II)I"), (0, .methodref 311 128), (0, .class_ 312), (0, u "[B"), (26, .methodref 14 340), (0, .nameAndType 341 342), (0, u "copyOfRangeByte"), (0, u "([BII)[B"), (0, .methodref 14 344), (0, .nameAndType 345 346), (0, u "checkLength"), (0, u "(II)V"), (28, .class_ 376), (0, u "java/util/Arrays$ArrayList"), (68, u "$assertionsDisabled"), (269, u "MIN_ARRAY_SORT_GRAN"), (0, u "I"), (2, u "INSERTIONSORT_THRESHOLD"), (149, u "([BI)[B"), (105, .class_ 976), (0, u "java/util/Arrays$ArrayItr")] 52

def k27m0 : Method := { name := "<init>", desc := "()V", sig := { parameters := [], returnType := none }, accessFlags := 2, code := none }
def k27c1 : Code := { maxStack := 6, maxLocals := 3, code := jdk_65_method_121_code, exceptionTable := #[], attributes := #[] }
def k27m1 : Method := { name := "copyOf", desc := "([BI)[B", sig := { parameters := [(.array .byte), .int], returnType := some (.array .byte) }, accessFlags := 9, code := some k27c1 }
def k27c2 : Code := { maxStack := 4, maxLocals := 2, code := jdk_65_method_131_code, exceptionTable := #[], attributes := #[] }
def k27m2 : Method := { name := "checkLength", desc := "(II)V", sig := { parameters := [.int, .int], returnType := none }, accessFlags := 10, code := some k27c2 }
def k27c3 : Code := { maxStack := 3, maxLocals := 3, code := jdk_65_method_132_code, exceptionTable := #[], attributes := #[] }
def k27m3 : Method := { name := "copyOfRange", desc := "([BII)[B", sig := { parameters := [(.array .byte), .int, .int], returnType := some (.array .byte) }, accessFlags := 9, code := some k27c3 }
def k27c4 : Code := { maxStack := 6, maxLocals := 5, code := jdk_65_method_133_code, exceptionTable := #[], attributes := #[] }
def k27m4 : Method := { name := "copyOfRangeByte", desc := "([BII)[B", sig := { parameters := [(.array .byte), .int, .int], returnType := some (.array .byte) }, accessFlags := 10, code := some k27c4 }
/-- java/util/Arrays -/
def k27 : Class := { plain "java/util/Arrays" (some 0) with
  accessFlags := 49
  interfaces := #[]
  cf := some (fileOf pool27 14 #[.nestMembers #[975, 375, 113, 74]] #[{ accessFlags := 2, nameIndex := 5, descriptorIndex := 6, attributes := #[] }, { accessFlags := 9, nameIndex := 302, descriptorIndex := 869, attributes := #[] }, { accessFlags := 10, nameIndex := 345, descriptorIndex := 346, attributes := #[] }, { accessFlags := 9, nameIndex := 139, descriptorIndex := 342, attributes := #[] }, { accessFlags := 10, nameIndex := 341, descriptorIndex := 342, attributes := #[] }] 49 2 #[] #[{ accessFlags := 26, nameIndex := 715, descriptorIndex := 716, attributes := #[] }, { accessFlags := 26, nameIndex := 719, descriptorIndex := 716, attributes := #[] }, { accessFlags := 4120, nameIndex := 445, descriptorIndex := 117, attributes := #[] }])
  fields := #[{ name := "MIN_ARRAY_SORT_GRAN", type := .int, accessFlags := 26, slot := 0, constantValue := 0 }, { name := "INSERTIONSORT_THRESHOLD", type := .int, accessFlags := 26, slot := 1, constantValue := 0 }, { name := "$assertionsDisabled", type := .boolean, accessFlags := 4120, slot := 2, constantValue := 0 }]
  methods := #[k27m0, k27m1, k27m2, k27m3, k27m4]
  instanceTypes := #[]
  staticTypes := #[.int, .int, .boolean]
  resolved := Array.replicate 1029 none
  statics := none }

def pool28 : Array CpInfo := pool [(9, u "<init>"), (6, .class_ 18), (1, u "java/lang/Object"), (0, u "()V"), (1, .class_ 23), (1, u "jdk/internal/util/ArraysSupport"), (0, u "LOG2_ARRAY_LONG_INDEX_SCALE"), (0, u "I"), (2, u "U"), (0, u "Ljdk/internal/misc/Unsafe;"), (8, u "BIG_ENDIAN"), (0, u "Z"), (8, u "LOG2_BYTE_BIT_SIZE"), (4, u "LOG2_ARRAY_INT_INDEX_SCALE"), (54, u "JLA"), (0, u "Ljdk/internal/access/JavaLangAccess;"), (11, u "LOG2_ARRAY_BOOLEAN_INDEX_SCALE"), (9, u "LOG2_ARRAY_BYTE_INDEX_SCALE"), (5, u "LOG2_ARRAY_CHAR_INDEX_SCALE"), (5, u "LOG2_ARRAY_SHORT_INDEX_SCALE"), (18, u "LOG2_ARRAY_FLOAT_INDEX_SCALE"), (24, u "LOG2_ARRAY_DOUBLE_INDEX_SCALE"), (6, .methodref 195 196), (0, .class_ 197), (0, .nameAndType 198 199), (0, u "java/lang/Math"), (0, u "max"), (0, u "(II)I"), (0, .integer 2147483639), (76, u "T_BOOLEAN"), (2, u "T_CHAR"), (1, u "T_FLOAT"), (1, u "T_DOUBLE"), (1, u "T_BYTE"), (1, u "T_SHORT"), (1, u "T_INT"), (1, u "T_LONG"), (1, u "SOFT_MAX_ARRAY_LENGTH"), (56, u "newLength"), (0, u "(III)I")] 25

def k28m0 : Method := { name := "<init>", desc := "()V", sig := { parameters := [], returnType := none }, accessFlags := 2, code := none }
def k28c1 : Code := { maxStack := 3, maxLocals := 4, code := jdk_48_method_27_code, exceptionTable := #[], attributes := #[] }
def k28m1 : Method := { name := "newLength", desc := "(III)I", sig := { parameters := [.int, .int, .int], returnType := some .int }, accessFlags := 9, code := some k28c1 }
/-- jdk/internal/util/ArraysSupport -/
def k28 : Class := { plain "jdk/internal/util/ArraysSupport" (some 0) with
  accessFlags := 33
  interfaces := #[]
  cf := some (fileOf pool28 21 #[] #[{ accessFlags := 2, nameIndex := 9, descriptorIndex := 19, attributes := #[] }, { accessFlags := 9, nameIndex := 351, descriptorIndex := 352, attributes := #[] }] 33 16 #[] #[{ accessFlags := 24, nameIndex := 28, descriptorIndex := 29, attributes := #[] }, { accessFlags := 26, nameIndex := 38, descriptorIndex := 39, attributes := #[] }, { accessFlags := 25, nameIndex := 121, descriptorIndex := 25, attributes := #[] }, { accessFlags := 25, nameIndex := 131, descriptorIndex := 25, attributes := #[] }, { accessFlags := 25, nameIndex := 137, descriptorIndex := 25, attributes := #[] }, { accessFlags := 25, nameIndex := 143, descriptorIndex := 25, attributes := #[] }, { accessFlags := 25, nameIndex := 53, descriptorIndex := 25, attributes := #[] }, { accessFlags := 25, nameIndex := 24, descriptorIndex := 25, attributes := #[] }, { accessFlags := 25, nameIndex := 162, descriptorIndex := 25, attributes := #[] }, { accessFlags := 25, nameIndex := 187, descriptorIndex := 25, attributes := #[] }, { accessFlags := 26, nameIndex := 48, descriptorIndex := 25, attributes := #[] }, { accessFlags := 25, nameIndex := 277, descriptorIndex := 25, attributes := #[] }, { accessFlags := 25, nameIndex := 280, descriptorIndex := 25, attributes := #[] }, { accessFlags := 25, nameIndex := 282, descriptorIndex := 25, attributes := #[] }, { accessFlags := 25, nameIndex := 284, descriptorIndex := 25, attributes := #[] }, { accessFlags := 25, nameIndex := 286, descriptorIndex := 25, attributes := #[] }, { accessFlags := 25, nameIndex := 288, descriptorIndex := 25, attributes := #[] }, { accessFlags := 25, nameIndex := 290, descriptorIndex := 25, attributes := #[] }, { accessFlags := 25, nameIndex := 292, descriptorIndex := 25, attributes := #[] }, { accessFlags := 26, nameIndex := 108, descriptorIndex := 109, attributes := #[] }, { accessFlags := 25, nameIndex := 294, descriptorIndex := 25, attributes := #[] }])
  fields := #[{ name := "U", type := (.object "jdk/internal/misc/Unsafe"), accessFlags := 24, slot := 0, constantValue := 0 }, { name := "BIG_ENDIAN", type := .boolean, accessFlags := 26, slot := 1, constantValue := 0 }, { name := "LOG2_ARRAY_BOOLEAN_INDEX_SCALE", type := .int, accessFlags := 25, slot := 2, constantValue := 0 }, { name := "LOG2_ARRAY_BYTE_INDEX_SCALE", type := .int, accessFlags := 25, slot := 3, constantValue := 0 }, { name := "LOG2_ARRAY_CHAR_INDEX_SCALE", type := .int, accessFlags := 25, slot := 4, constantValue := 0 }, { name := "LOG2_ARRAY_SHORT_INDEX_SCALE", type := .int, accessFlags := 25, slot := 5, constantValue := 0 }, { name := "LOG2_ARRAY_INT_INDEX_SCALE", type := .int, accessFlags := 25, slot := 6, constantValue := 0 }, { name := "LOG2_ARRAY_LONG_INDEX_SCALE", type := .int, accessFlags := 25, slot := 7, constantValue := 0 }, { name := "LOG2_ARRAY_FLOAT_INDEX_SCALE", type := .int, accessFlags := 25, slot := 8, constantValue := 0 }, { name := "LOG2_ARRAY_DOUBLE_INDEX_SCALE", type := .int, accessFlags := 25, slot := 9, constantValue := 0 }, { name := "LOG2_BYTE_BIT_SIZE", type := .int, accessFlags := 26, slot := 10, constantValue := 0 }, { name := "T_BOOLEAN", type := .int, accessFlags := 25, slot := 11, constantValue := 0 }, { name := "T_CHAR", type := .int, accessFlags := 25, slot := 12, constantValue := 0 }, { name := "T_FLOAT", type := .int, accessFlags := 25, slot := 13, constantValue := 0 }, { name := "T_DOUBLE", type := .int, accessFlags := 25, slot := 14, constantValue := 0 }, { name := "T_BYTE", type := .int, accessFlags := 25, slot := 15, constantValue := 0 }, { name := "T_SHORT", type := .int, accessFlags := 25, slot := 16, constantValue := 0 }, { name := "T_INT", type := .int, accessFlags := 25, slot := 17, constantValue := 0 }, { name := "T_LONG", type := .int, accessFlags := 25, slot := 18, constantValue := 0 }, { name := "JLA", type := (.object "jdk/internal/access/JavaLangAccess"), accessFlags := 26, slot := 19, constantValue := 0 }, { name := "SOFT_MAX_ARRAY_LENGTH", type := .int, accessFlags := 25, slot := 20, constantValue := 0 }]
  methods := #[k28m0, k28m1]
  instanceTypes := #[]
  staticTypes := #[(.object "jdk/internal/misc/Unsafe"), .boolean, .int, .int, .int, .int, .int, .int, .int, .int, .int, .int, .int, .int, .int, .int, .int, .int, .int, (.object "jdk/internal/access/JavaLangAccess"), .int]
  resolved := Array.replicate 378 none
  statics := none }

def pool29 : Array CpInfo := pool [(2, .class_ 4), (1, u "java/lang/Object"), (0, u "<init>"), (0, u "()V"), (17, .class_ 26), (1, u "jdk/internal/util/Preconditions"), (28, .class_ 56), (0, u "jdk/internal/util/Preconditions$4"), (57, .class_ 115), (0, u "jdk/internal/util/Preconditions$1"), (7, u "SIOOBE_FORMATTER"), (0, u "Ljava/util/function/BiFunction;"), (0, .class_ 126), (0, u "jdk/internal/util/Preconditions$2"), (3, u "AIOOBE_FORMATTER"), (0, .class_ 132), (0, u "jdk/internal/util/Preconditions$3"), (3, u "IOOBE_FORMATTER")] 57

def k29m0 : Method := { name := "<init>", desc := "()V", sig := { parameters := [], returnType := none }, accessFlags := 1, code := none }
/-- jdk/internal/util/Preconditions -/
def k29 : Class := { plain "jdk/internal/util/Preconditions" (some 0) with
  accessFlags := 33
  interfaces := #[]
  cf := some (fileOf pool29 24 #[.nestMembers #[55, 131, 125, 114]] #[{ accessFlags := 1, nameIndex := 5, descriptorIndex := 6, attributes := #[] }] 33 2 #[] #[{ accessFlags := 25, nameIndex := 123, descriptorIndex := 124, attributes := #[] }, { accessFlags := 25, nameIndex := 130, descriptorIndex := 124, attributes := #[] }, { accessFlags := 25, nameIndex := 136, descriptorIndex := 124, attributes := #[] }])
  fields := #[{ name := "SIOOBE_FORMATTER", type := (.object "java/util/function/BiFunction"), accessFlags := 25, slot := 0, constantValue := 0 }, { name := "AIOOBE_FORMATTER", type := (.object "java/util/function/BiFunction"), accessFlags := 25, slot := 1, constantValue := 0 }, { name := "IOOBE_FORMATTER", type := (.object "java/util/function/BiFunction"), accessFlags := 25, slot := 2, constantValue := 0 }]
  methods := #[k29m0]
  instanceTypes := #[]
  staticTypes := #[(.object "java/util/function/BiFunction"), (.object "java/util/function/BiFunction"), (.object "java/util/function/BiFunction")]
  resolved := Array.replicate 194 none
  statics := some 3 }

/-- the primitive byte -/
def k30 : Class := { plain "byte" none with kind := .primitive 'B', accessFlags := 0x411 }
/-- [B -/
def k31 : Class := { plain "[B" (some 0) with kind := .array 30 .byte, interfaces := #[17, 3], accessFlags := 1041 }

/-- the primitive int -/
def k32 : Class := { plain "int" none with kind := .primitive 'I', accessFlags := 0x411 }
/-- [I -/
def k33 : Class := { plain "[I" (some 0) with kind := .array 32 .int, interfaces := #[17, 3], accessFlags := 1041 }

/-- [Ljava/lang/Object; -/
def k34 : Class := { plain "[Ljava/lang/Object;" (some 0) with kind := .array 0 (.object "java/lang/Object"), interfaces := #[17, 3], accessFlags := 1041 }

def heap : Heap := #[{ cls := 8, slots := #[.long 0, .int 1, .null, .int 0, .null, .int 0, .int 0], vm := .statics 8 },
  { cls := 18, slots := #[.long 0, .int 0, .ref 6, .ref 7], vm := .statics 18 },
  { cls := 26, slots := #[.int 0, .int 0, .null, .null, .ref 5, .ref 4, .int 0, .int 0, .long 0], vm := .statics 26 },
  { cls := 29, slots := #[.null, .null, .null], vm := .statics 29 },
  { cls := 31, slots := #[.int 48, .int 49, .int 50, .int 51, .int 52, .int 53, .int 54, .int 55, .int 56, .int 57, .int 48, .int 49, .int 50, .int 51, .int 52, .int 53, .int 54, .int 55, .int 56, .int 57, .int 48, .int 49, .int 50, .int 51, .int 52, .int 53, .int 54, .int 55, .int 56, .int 57, .int 48, .int 49, .int 50, .int 51, .int 52, .int 53, .int 54, .int 55, .int 56, .int 57, .int 48, .int 49, .int 50, .int 51, .int 52, .int 53, .int 54, .int 55, .int 56, .int 57, .int 48, .int 49, .int 50, .int 51, .int 52, .int 53, .int 54, .int 55, .int 56, .int 57, .int 48, .int 49, .int 50, .int 51, .int 52, .int 53, .int 54, .int 55, .int 56, .int 57, .int 48, .int 49, .int 50, .int 51, .int 52, .int 53, .int 54, .int 55, .int 56, .int 57, .int 48, .int 49, .int 50, .int 51, .int 52, .int 53, .int 54, .int 55, .int 56, .int 57, .int 48, .int 49, .int 50, .int 51, .int 52, .int 53, .int 54, .int 55, .int 56, .int 57], vm := .none },
  { cls := 31, slots := #[.int 48, .int 48, .int 48, .int 48, .int 48, .int 48, .int 48, .int 48, .int 48, .int 48, .int 49, .int 49, .int 49, .int 49, .int 49, .int 49, .int 49, .int 49, .int 49, .int 49, .int 50, .int 50, .int 50, .int 50, .int 50, .int 50, .int 50, .int 50, .int 50, .int 50, .int 51, .int 51, .int 51, .int 51, .int 51, .int 51, .int 51, .int 51, .int 51, .int 51, .int 52, .int 52, .int 52, .int 52, .int 52, .int 52, .int 52, .int 52, .int 52, .int 52, .int 53, .int 53, .int 53, .int 53, .int 53, .int 53, .int 53, .int 53, .int 53, .int 53, .int 54, .int 54, .int 54, .int 54, .int 54, .int 54, .int 54, .int 54, .int 54, .int 54, .int 55, .int 55, .int 55, .int 55, .int 55, .int 55, .int 55, .int 55, .int 55, .int 55, .int 56, .int 56, .int 56, .int 56, .int 56, .int 56, .int 56, .int 56, .int 56, .int 56, .int 57, .int 57, .int 57, .int 57, .int 57, .int 57, .int 57, .int 57, .int 57, .int 57], vm := .none },
  { cls := 34, slots := #[], vm := .none },
  { cls := 34, slots := #[], vm := .none }]
def classes : Array Class := #[k0, k1, k2, k3, k4, k5, k6, k7, k8, k9, k10, k11, k12, k13, k14, k15, k16, k17, k18, k19, k20, k21, k22, k23, k24, k25, k26, k27, k28, k29, k30, k31, k32, k33, k34]
def interned : List (Array UInt16 × Addr) := []
def slotsUsed : Nat := 223
def theMethod : MethodId := ⟨1, 1⟩
def args0 : Array Value := #[.int 5, .int 65, .long 12, .long 7]
def aboutOver (below : List Frame) : State where
  vm := { classes := classes, interned := interned.toArray }
  heap := heap
  slotsUsed := slotsUsed
  threads := #[{ frames := .invoking theMethod args0 :: below }]
def below0 : List Frame := [.native { method := ⟨0, 0⟩, args := #[] }]
def about1 : State := aboutOver below0
def p0 : Program := .bare "" "" ""
def e0 : Env := launch0.env 0 0 0
theorem w_frames : about1.frames = Frame.invoking theMethod args0 :: below0 := rfl
set_option maxRecDepth 65536 in
theorem w_args : argsFit about1.vm theMethod args0 = true := by decide +kernel
set_option maxRecDepth 65536 in
theorem w_heap : heapFits about1 = true := by decide +kernel
set_option maxRecDepth 65536 in
theorem w_runnable : about1.curStatus? = some .runnable := by decide +kernel
set_option maxRecDepth 65536 in
theorem w_alone : about1.alone = true := by decide +kernel
set_option maxRecDepth 65536 in
theorem w_named : about1.methodNamed? x = some theMethod := by decide +kernel
set_option maxRecDepth 65536 in
theorem w_hears : about1.hears theMethod below0 = true := by decide +kernel
set_option maxRecDepth 65536 in
theorem w_ripe : about1.ripe theMethod args0 below0 = true := by decide +kernel
theorem w_running : about1.status = .running := rfl
set_option maxRecDepth 65536 in
theorem w_room : about1.hasRoom e0.platform room_1 = true :=
  launch0.hasRoom_least _ room_1 (by decide +kernel) (by decide +kernel) (by decide +kernel) (by decide +kernel) (by decide +kernel) (by decide +kernel)
theorem allAtoms_all (ts : List Jvm.Cond) (a : Array Jvm.Value) (st : Jvm.State) : (allAtoms ts).before a st = ts.all (fun c => c.before a st) := by
  induction ts with
  | nil => rfl
  | cons c t ih =>
    show (Jvm.Cond.and c (allAtoms t)).before a st = _
    rw [Jvm.Cond.before_and, ih, List.all_cons]
def words1 : List Jvm.Cond := Jvm.Cond.code x code maxLocals ret :: tables_1
/-- a 'code' word, met by the world's own term for the bytes: nothing is compared byte by byte -/
theorem code_word {y : MethodName} {bytes : ByteArray} {mx : Nat} {rt : Option FieldType} {a : Array Value} {s : State} {m : MethodId} {meth : Method} {c : Code} (h1 : s.methodNamed? y = some m) (h2 : s.vm.method? m = some meth) (h3 : meth.code = some c) (h4 : c.code = bytes)
    (h5 : (c.maxLocals == mx && c.exceptionTable.isEmpty && decide (c.maxStack ≤ mostOperands) && decide (meth.sig.returnType = rt) && !meth.locks && decide (parseMethodDescriptor y.desc = some meth.sig)) = true) : (Jvm.Cond.code y bytes mx rt).before a s = true := by
  simp only [Bool.and_eq_true, beq_iff_eq, Bool.not_eq_true', decide_eq_true_eq] at h5
  obtain ⟨⟨⟨⟨⟨g1, g2⟩, g3⟩, g4⟩, g5⟩, g6⟩ := h5
  simp [Cond.before, Cond.holds, Cond.value, h1, h2, h3, h4, g1, g2, g3, g4, g5, g6]
def isCode : Jvm.Cond → Bool
  | .code _ _ _ _ => true
  | _ => false
theorem all_split {L : List Jvm.Cond} {P : Jvm.Cond → Bool} (h1 : L.all (fun c => isCode c || P c) = true) (h2 : ∀ c ∈ L.filter isCode, P c = true) : L.all P = true := by
  refine List.all_eq_true.mpr fun c hc => ?_
  have h := List.all_eq_true.mp h1 c hc
  rcases Bool.eq_false_or_eq_true (isCode c) with hi | hi
  · exact h2 c (List.mem_filter.mpr ⟨hc, hi⟩)
  · simpa [hi] using h
set_option maxRecDepth 65536 in
theorem w_c0 : (Jvm.Cond.code x code maxLocals ret).before args0 about1 = true := code_word (m := ⟨1, 1⟩) (meth := k1m1) (c := k1c1) (by decide +kernel) rfl rfl rfl (by decide +kernel)
set_option maxRecDepth 65536 in
theorem w_c1 : (Jvm.Cond.code ({ cls := "com/example/vesch/vesch/engine/Trace", name := "<init>", desc := "(Z)V" } : Jvm.MethodName) prog_54_method_1_code (2 : Nat) (Option.none : Option Jvm.ClassFile.FieldType)).before args0 about1 = true := code_word (m := ⟨2, 0⟩) (meth := k2m0) (c := k2c0) (by decide +kernel) rfl rfl rfl (by decide +kernel)
set_option maxRecDepth 65536 in
theorem w_c2 : (Jvm.Cond.code ({ cls := "java/lang/Object", name := "<init>", desc := "()V" } : Jvm.MethodName) object_method_1_code (1 : Nat) (Option.none : Option Jvm.ClassFile.FieldType)).before args0 about1 = true := code_word (m := ⟨0, 0⟩) (meth := k0m0) (c := k0c0) (by decide +kernel) rfl rfl rfl (by decide +kernel)
set_option maxRecDepth 65536 in
theorem w_c3 : (Jvm.Cond.code ({ cls := "com/example/vesch/vesch/engine/Trace", name := "isOn", desc := "()Z" } : Jvm.MethodName) prog_54_method_2_code (1 : Nat) (Option.some Jvm.ClassFile.FieldType.boolean)).before args0 about1 = true := code_word (m := ⟨2, 1⟩) (meth := k2m1) (c := k2c1) (by decide +kernel) rfl rfl rfl (by decide +kernel)
set_option maxRecDepth 65536 in
theorem w_c4 : (Jvm.Cond.code ({ cls := "java/lang/String", name := "valueOf", desc := "(C)Ljava/lang/String;" } : Jvm.MethodName) jdk_42_method_139_code (1 : Nat) (Option.some (Jvm.ClassFile.FieldType.object "java/lang/String"))).before args0 about1 = true := code_word (m := ⟨8, 3⟩) (meth := k8m3) (c := k8c3) (by decide +kernel) rfl rfl rfl (by decide +kernel)
set_option maxRecDepth 65536 in
theorem w_c5 : (Jvm.Cond.code ({ cls := "java/lang/StringLatin1", name := "canEncode", desc := "(C)Z" } : Jvm.MethodName) jdk_43_method_3_code (1 : Nat) (Option.some Jvm.ClassFile.FieldType.boolean)).before args0 about1 = true := code_word (m := ⟨9, 1⟩) (meth := k9m1) (c := k9c1) (by decide +kernel) rfl rfl rfl (by decide +kernel)
set_option maxRecDepth 65536 in
theorem w_c6 : (Jvm.Cond.code ({ cls := "java/lang/StringLatin1", name := "toBytes", desc := "(C)[B" } : Jvm.MethodName) jdk_43_method_46_code (1 : Nat) (Option.some (Jvm.ClassFile.FieldType.array Jvm.ClassFile.FieldType.byte))).before args0 about1 = true := code_word (m := ⟨9, 2⟩) (meth := k9m2) (c := k9c2) (by decide +kernel) rfl rfl rfl (by decide +kernel)
set_option maxRecDepth 65536 in
theorem w_c7 : (Jvm.Cond.code ({ cls := "java/lang/String", name := "<init>", desc := "([BB)V" } : Jvm.MethodName) jdk_42_method_151_code (3 : Nat) (Option.none : Option Jvm.ClassFile.FieldType)).before args0 about1 = true := code_word (m := ⟨8, 6⟩) (meth := k8m6) (c := k8c6) (by decide +kernel) rfl rfl rfl (by decide +kernel)
set_option maxRecDepth 65536 in
theorem w_c8 : (Jvm.Cond.code ({ cls := "com/example/vesch/vesch/engine/Trace", name := "add", desc := "(Ljava/lang/String;)V" } : Jvm.MethodName) prog_54_method_3_code (2 : Nat) (Option.none : Option Jvm.ClassFile.FieldType)).before args0 about1 = true := code_word (m := ⟨2, 2⟩) (meth := k2m2) (c := k2c2) (by decide +kernel) rfl rfl rfl (by decide +kernel)
set_option maxRecDepth 65536 in
theorem w_c9 : (Jvm.Cond.code ({ cls := "com/example/vesch/vesch/engine/Trace", name := "add", desc := "(Ljava/lang/String;J)V" } : Jvm.MethodName) prog_54_method_4_code (4 : Nat) (Option.none : Option Jvm.ClassFile.FieldType)).before args0 about1 = true := code_word (m := ⟨2, 3⟩) (meth := k2m3) (c := k2c3) (by decide +kernel) rfl rfl rfl (by decide +kernel)
set_option maxRecDepth 65536 in
theorem w_c10 : (Jvm.Cond.code ({ cls := "com/example/vesch/vesch/engine/Trace", name := "add", desc := "(Ljava/lang/String;JJ)V" } : Jvm.MethodName) prog_54_method_5_code (6 : Nat) (Option.none : Option Jvm.ClassFile.FieldType)).before args0 about1 = true := code_word (m := ⟨2, 4⟩) (meth := k2m4) (c := k2c4) (by decide +kernel) rfl rfl rfl (by decide +kernel)
set_option maxRecDepth 65536 in
theorem w_c11 : (Jvm.Cond.code ({ cls := "java/util/ArrayList", name := "<init>", desc := "()V" } : Jvm.MethodName) jdk_38_method_2_code (1 : Nat) (Option.none : Option Jvm.ClassFile.FieldType)).before args0 about1 = true := code_word (m := ⟨18, 0⟩) (meth := k18m0) (c := k18c0) (by decide +kernel) rfl rfl rfl (by decide +kernel)
set_option maxRecDepth 65536 in
theorem w_c12 : (Jvm.Cond.code ({ cls := "java/util/AbstractList", name := "<init>", desc := "()V" } : Jvm.MethodName) jdk_39_method_1_code (1 : Nat) (Option.none : Option Jvm.ClassFile.FieldType)).before args0 about1 = true := code_word (m := ⟨15, 0⟩) (meth := k15m0) (c := k15c0) (by decide +kernel) rfl rfl rfl (by decide +kernel)
set_option maxRecDepth 65536 in
theorem w_c13 : (Jvm.Cond.code ({ cls := "java/util/AbstractCollection", name := "<init>", desc := "()V" } : Jvm.MethodName) jdk_22_method_1_code (1 : Nat) (Option.none : Option Jvm.ClassFile.FieldType)).before args0 about1 = true := code_word (m := ⟨12, 0⟩) (meth := k12m0) (c := k12c0) (by decide +kernel) rfl rfl rfl (by decide +kernel)
set_option maxRecDepth 65536 in
theorem w_c14 : (Jvm.Cond.code ({ cls := "java/util/ArrayList", name := "add", desc := "(Ljava/lang/Object;)Z" } : Jvm.MethodName) jdk_38_method_25_code (2 : Nat) (Option.some Jvm.ClassFile.FieldType.boolean)).before args0 about1 = true := code_word (m := ⟨18, 4⟩) (meth := k18m4) (c := k18c4) (by decide +kernel) rfl rfl rfl (by decide +kernel)
set_option maxRecDepth 65536 in
theorem w_c15 : (Jvm.Cond.code ({ cls := "java/util/ArrayList", name := "add", desc := "(Ljava/lang/Object;[Ljava/lang/Object;I)V" } : Jvm.MethodName) jdk_38_method_24_code (4 : Nat) (Option.none : Option Jvm.ClassFile.FieldType)).before args0 about1 = true := code_word (m := ⟨18, 3⟩) (meth := k18m3) (c := k18c3) (by decide +kernel) rfl rfl rfl (by decide +kernel)
set_option maxRecDepth 65536 in
theorem w_c16 : (Jvm.Cond.code ({ cls := "java/util/ArrayList", name := "grow", desc := "()[Ljava/lang/Object;" } : Jvm.MethodName) jdk_38_method_7_code (1 : Nat) (Option.some (Jvm.ClassFile.FieldType.array (Jvm.ClassFile.FieldType.object "java/lang/Object")))).before args0 about1 = true := code_word (m := ⟨18, 2⟩) (meth := k18m2) (c := k18c2) (by decide +kernel) rfl rfl rfl (by decide +kernel)
set_option maxRecDepth 65536 in
theorem w_c17 : (Jvm.Cond.code ({ cls := "java/util/ArrayList", name := "grow", desc := "(I)[Ljava/lang/Object;" } : Jvm.MethodName) jdk_38_method_6_code (4 : Nat) (Option.some (Jvm.ClassFile.FieldType.array (Jvm.ClassFile.FieldType.object "java/lang/Object")))).before args0 about1 = true := code_word (m := ⟨18, 1⟩) (meth := k18m1) (c := k18c1) (by decide +kernel) rfl rfl rfl (by decide +kernel)
set_option maxRecDepth 65536 in
theorem w_c18 : (Jvm.Cond.code ({ cls := "java/lang/Math", name := "max", desc := "(II)I" } : Jvm.MethodName) jdk_29_method_65_code (2 : Nat) (Option.some Jvm.ClassFile.FieldType.int)).before args0 about1 = true := code_word (m := ⟨19, 1⟩) (meth := k19m1) (c := k19c1) (by decide +kernel) rfl rfl rfl (by decide +kernel)
set_option maxRecDepth 65536 in
theorem w_c19 : (Jvm.Cond.code ({ cls := "java/lang/StringBuilder", name := "<init>", desc := "()V" } : Jvm.MethodName) jdk_67_method_1_code (1 : Nat) (Option.none : Option Jvm.ClassFile.FieldType)).before args0 about1 = true := code_word (m := ⟨22, 0⟩) (meth := k22m0) (c := k22c0) (by decide +kernel) rfl rfl rfl (by decide +kernel)
set_option maxRecDepth 65536 in
theorem w_c20 : (Jvm.Cond.code ({ cls := "java/lang/AbstractStringBuilder", name := "<init>", desc := "(I)V" } : Jvm.MethodName) jdk_68_method_2_code (2 : Nat) (Option.none : Option Jvm.ClassFile.FieldType)).before args0 about1 = true := code_word (m := ⟨21, 1⟩) (meth := k21m1) (c := k21c1) (by decide +kernel) rfl rfl rfl (by decide +kernel)
set_option maxRecDepth 65536 in
theorem w_c21 : (Jvm.Cond.code ({ cls := "java/lang/StringBuilder", name := "append", desc := "(Ljava/lang/String;)Ljava/lang/StringBuilder;" } : Jvm.MethodName) jdk_67_method_7_code (2 : Nat) (Option.some (Jvm.ClassFile.FieldType.object "java/lang/StringBuilder"))).before args0 about1 = true := code_word (m := ⟨22, 1⟩) (meth := k22m1) (c := k22c1) (by decide +kernel) rfl rfl rfl (by decide +kernel)
set_option maxRecDepth 65536 in
theorem w_c22 : (Jvm.Cond.code ({ cls := "java/lang/AbstractStringBuilder", name := "append", desc := "(Ljava/lang/String;)Ljava/lang/AbstractStringBuilder;" } : Jvm.MethodName) jdk_68_method_22_code (3 : Nat) (Option.some (Jvm.ClassFile.FieldType.object "java/lang/AbstractStringBuilder"))).before args0 about1 = true := code_word (m := ⟨21, 5⟩) (meth := k21m5) (c := k21c5) (by decide +kernel) rfl rfl rfl (by decide +kernel)
set_option maxRecDepth 65536 in
theorem w_c23 : (Jvm.Cond.code ({ cls := "java/lang/String", name := "length", desc := "()I" } : Jvm.MethodName) jdk_42_method_54_code (1 : Nat) (Option.some Jvm.ClassFile.FieldType.int)).before args0 about1 = true := code_word (m := ⟨8, 2⟩) (meth := k8m2) (c := k8c2) (by decide +kernel) rfl rfl rfl (by decide +kernel)
set_option maxRecDepth 65536 in
theorem w_c24 : (Jvm.Cond.code ({ cls := "java/lang/String", name := "coder", desc := "()B" } : Jvm.MethodName) jdk_42_method_152_code (1 : Nat) (Option.some Jvm.ClassFile.FieldType.byte)).before args0 about1 = true := code_word (m := ⟨8, 7⟩) (meth := k8m7) (c := k8c7) (by decide +kernel) rfl rfl rfl (by decide +kernel)
set_option maxRecDepth 65536 in
theorem w_c25 : (Jvm.Cond.code ({ cls := "java/lang/AbstractStringBuilder", name := "ensureCapacityInternal", desc := "(I)V" } : Jvm.MethodName) jdk_68_method_9_code (3 : Nat) (Option.none : Option Jvm.ClassFile.FieldType)).before args0 about1 = true := code_word (m := ⟨21, 3⟩) (meth := k21m3) (c := k21c3) (by decide +kernel) rfl rfl rfl (by decide +kernel)
set_option maxRecDepth 65536 in
theorem w_c26 : (Jvm.Cond.code ({ cls := "java/lang/AbstractStringBuilder", name := "putStringAt", desc := "(ILjava/lang/String;)V" } : Jvm.MethodName) jdk_68_method_73_code (3 : Nat) (Option.none : Option Jvm.ClassFile.FieldType)).before args0 about1 = true := code_word (m := ⟨21, 10⟩) (meth := k21m10) (c := k21c10) (by decide +kernel) rfl rfl rfl (by decide +kernel)
set_option maxRecDepth 65536 in
theorem w_c27 : (Jvm.Cond.code ({ cls := "java/lang/AbstractStringBuilder", name := "inflateIfNeededFor", desc := "(Ljava/lang/String;)V" } : Jvm.MethodName) jdk_68_method_71_code (2 : Nat) (Option.none : Option Jvm.ClassFile.FieldType)).before args0 about1 = true := code_word (m := ⟨21, 9⟩) (meth := k21m9) (c := k21c9) (by decide +kernel) rfl rfl rfl (by decide +kernel)
set_option maxRecDepth 65536 in
theorem w_c28 : (Jvm.Cond.code ({ cls := "java/lang/String", name := "getBytes", desc := "([BIB)V" } : Jvm.MethodName) jdk_42_method_147_code (4 : Nat) (Option.none : Option Jvm.ClassFile.FieldType)).before args0 about1 = true := code_word (m := ⟨8, 4⟩) (meth := k8m4) (c := k8c4) (by decide +kernel) rfl rfl rfl (by decide +kernel)
set_option maxRecDepth 65536 in
theorem w_c29 : (Jvm.Cond.code ({ cls := "java/lang/StringBuilder", name := "append", desc := "(J)Ljava/lang/StringBuilder;" } : Jvm.MethodName) jdk_67_method_16_code (3 : Nat) (Option.some (Jvm.ClassFile.FieldType.object "java/lang/StringBuilder"))).before args0 about1 = true := code_word (m := ⟨22, 2⟩) (meth := k22m2) (c := k22c2) (by decide +kernel) rfl rfl rfl (by decide +kernel)
set_option maxRecDepth 65536 in
theorem w_c30 : (Jvm.Cond.code ({ cls := "java/lang/AbstractStringBuilder", name := "append", desc := "(J)Ljava/lang/AbstractStringBuilder;" } : Jvm.MethodName) jdk_68_method_33_code (5 : Nat) (Option.some (Jvm.ClassFile.FieldType.object "java/lang/AbstractStringBuilder"))).before args0 about1 = true := code_word (m := ⟨21, 6⟩) (meth := k21m6) (c := k21c6) (by decide +kernel) rfl rfl rfl (by decide +kernel)
set_option maxRecDepth 65536 in
theorem w_c31 : (Jvm.Cond.code ({ cls := "java/lang/Long", name := "stringSize", desc := "(J)I" } : Jvm.MethodName) jdk_35_method_15_code (6 : Nat) (Option.some Jvm.ClassFile.FieldType.int)).before args0 about1 = true := code_word (m := ⟨25, 1⟩) (meth := k25m1) (c := k25c1) (by decide +kernel) rfl rfl rfl (by decide +kernel)
set_option maxRecDepth 65536 in
theorem w_c32 : (Jvm.Cond.code ({ cls := "java/lang/AbstractStringBuilder", name := "isLatin1", desc := "()Z" } : Jvm.MethodName) jdk_68_method_68_code (1 : Nat) (Option.some Jvm.ClassFile.FieldType.boolean)).before args0 about1 = true := code_word (m := ⟨21, 8⟩) (meth := k21m8) (c := k21c8) (by decide +kernel) rfl rfl rfl (by decide +kernel)
set_option maxRecDepth 65536 in
theorem w_c33 : (Jvm.Cond.code ({ cls := "java/lang/Long", name := "getChars", desc := "(JI[B)I" } : Jvm.MethodName) jdk_35_method_14_code (11 : Nat) (Option.some Jvm.ClassFile.FieldType.int)).before args0 about1 = true := code_word (m := ⟨25, 0⟩) (meth := k25m0) (c := k25c0) (by decide +kernel) rfl rfl rfl (by decide +kernel)
set_option maxRecDepth 65536 in
theorem w_c34 : (Jvm.Cond.code ({ cls := "java/lang/StringBuilder", name := "toString", desc := "()Ljava/lang/String;" } : Jvm.MethodName) jdk_67_method_42_code (1 : Nat) (Option.some (Jvm.ClassFile.FieldType.object "java/lang/String"))).before args0 about1 = true := code_word (m := ⟨22, 3⟩) (meth := k22m3) (c := k22c3) (by decide +kernel) rfl rfl rfl (by decide +kernel)
set_option maxRecDepth 65536 in
theorem w_c35 : (Jvm.Cond.code ({ cls := "java/lang/String", name := "<init>", desc := "(Ljava/lang/StringBuilder;)V" } : Jvm.MethodName) jdk_42_method_53_code (2 : Nat) (Option.none : Option Jvm.ClassFile.FieldType)).before args0 about1 = true := code_word (m := ⟨8, 1⟩) (meth := k8m1) (c := k8c1) (by decide +kernel) rfl rfl rfl (by decide +kernel)
set_option maxRecDepth 65536 in
theorem w_c36 : (Jvm.Cond.code ({ cls := "java/lang/String", name := "<init>", desc := "(Ljava/lang/AbstractStringBuilder;Ljava/lang/Void;)V" } : Jvm.MethodName) jdk_42_method_150_code (5 : Nat) (Option.none : Option Jvm.ClassFile.FieldType)).before args0 about1 = true := code_word (m := ⟨8, 5⟩) (meth := k8m5) (c := k8c5) (by decide +kernel) rfl rfl rfl (by decide +kernel)
set_option maxRecDepth 65536 in
theorem w_c37 : (Jvm.Cond.code ({ cls := "java/lang/AbstractStringBuilder", name := "getValue", desc := "()[B" } : Jvm.MethodName) jdk_68_method_64_code (1 : Nat) (Option.some (Jvm.ClassFile.FieldType.array Jvm.ClassFile.FieldType.byte))).before args0 about1 = true := code_word (m := ⟨21, 7⟩) (meth := k21m7) (c := k21c7) (by decide +kernel) rfl rfl rfl (by decide +kernel)
set_option maxRecDepth 65536 in
theorem w_c38 : (Jvm.Cond.code ({ cls := "java/lang/StringBuilder", name := "length", desc := "()I" } : Jvm.MethodName) jdk_67_method_93_code (1 : Nat) (Option.some Jvm.ClassFile.FieldType.int)).before args0 about1 = true := code_word (m := ⟨22, 4⟩) (meth := k22m4) (c := k22c4) (by decide +kernel) rfl rfl rfl (by decide +kernel)
set_option maxRecDepth 65536 in
theorem w_c39 : (Jvm.Cond.code ({ cls := "java/lang/AbstractStringBuilder", name := "length", desc := "()I" } : Jvm.MethodName) jdk_68_method_6_code (1 : Nat) (Option.some Jvm.ClassFile.FieldType.int)).before args0 about1 = true := code_word (m := ⟨21, 2⟩) (meth := k21m2) (c := k21c2) (by decide +kernel) rfl rfl rfl (by decide +kernel)
set_option maxRecDepth 65536 in
theorem w_c40 : (Jvm.Cond.code ({ cls := "java/util/Arrays", name := "copyOfRange", desc := "([BII)[B" } : Jvm.MethodName) jdk_65_method_132_code (3 : Nat) (Option.some (Jvm.ClassFile.FieldType.array Jvm.ClassFile.FieldType.byte))).before args0 about1 = true := code_word (m := ⟨27, 3⟩) (meth := k27m3) (c := k27c3) (by decide +kernel) rfl rfl rfl (by decide +kernel)
set_option maxRecDepth 65536 in
theorem w_c41 : (Jvm.Cond.code ({ cls := "java/util/Arrays", name := "copyOfRangeByte", desc := "([BII)[B" } : Jvm.MethodName) jdk_65_method_133_code (5 : Nat) (Option.some (Jvm.ClassFile.FieldType.array Jvm.ClassFile.FieldType.byte))).before args0 about1 = true := code_word (m := ⟨27, 4⟩) (meth := k27m4) (c := k27c4) (by decide +kernel) rfl rfl rfl (by decide +kernel)
set_option maxRecDepth 65536 in
theorem w_c42 : (Jvm.Cond.code ({ cls := "java/util/Arrays", name := "checkLength", desc := "(II)V" } : Jvm.MethodName) jdk_65_method_131_code (2 : Nat) (Option.none : Option Jvm.ClassFile.FieldType)).before args0 about1 = true := code_word (m := ⟨27, 2⟩) (meth := k27m2) (c := k27c2) (by decide +kernel) rfl rfl rfl (by decide +kernel)
set_option maxRecDepth 65536 in
theorem w_c43 : (Jvm.Cond.code ({ cls := "java/lang/Math", name := "min", desc := "(II)I" } : Jvm.MethodName) jdk_29_method_69_code (2 : Nat) (Option.some Jvm.ClassFile.FieldType.int)).before args0 about1 = true := code_word (m := ⟨19, 2⟩) (meth := k19m2) (c := k19c2) (by decide +kernel) rfl rfl rfl (by decide +kernel)
set_option maxRecDepth 65536 in
theorem w_c44 : (Jvm.Cond.code ({ cls := "java/lang/AbstractStringBuilder", name := "newCapacity", desc := "(I)I" } : Jvm.MethodName) jdk_68_method_10_code (6 : Nat) (Option.some Jvm.ClassFile.FieldType.int)).before args0 about1 = true := code_word (m := ⟨21, 4⟩) (meth := k21m4) (c := k21c4) (by decide +kernel) rfl rfl rfl (by decide +kernel)
set_option maxRecDepth 65536 in
theorem w_c45 : (Jvm.Cond.code ({ cls := "jdk/internal/util/ArraysSupport", name := "newLength", desc := "(III)I" } : Jvm.MethodName) jdk_48_method_27_code (4 : Nat) (Option.some Jvm.ClassFile.FieldType.int)).before args0 about1 = true := code_word (m := ⟨28, 1⟩) (meth := k28m1) (c := k28c1) (by decide +kernel) rfl rfl rfl (by decide +kernel)
set_option maxRecDepth 65536 in
theorem w_c46 : (Jvm.Cond.code ({ cls := "java/util/Arrays", name := "copyOf", desc := "([BI)[B" } : Jvm.MethodName) jdk_65_method_121_code (3 : Nat) (Option.some (Jvm.ClassFile.FieldType.array Jvm.ClassFile.FieldType.byte))).before args0 about1 = true := code_word (m := ⟨27, 1⟩) (meth := k27m1) (c := k27c1) (by decide +kernel) rfl rfl rfl (by decide +kernel)
def codes1 : List Jvm.Cond := [Jvm.Cond.code x code maxLocals ret, Jvm.Cond.code ({ cls := "com/example/vesch/vesch/engine/Trace", name := "<init>", desc := "(Z)V" } : Jvm.MethodName) prog_54_method_1_code (2 : Nat) (Option.none : Option Jvm.ClassFile.FieldType), Jvm.Cond.code ({ cls := "java/lang/Object", name := "<init>", desc := "()V" } : Jvm.MethodName) object_method_1_code (1 : Nat) (Option.none : Option Jvm.ClassFile.FieldType), Jvm.Cond.code ({ cls := "com/example/vesch/vesch/engine/Trace", name := "isOn", desc := "()Z" } : Jvm.MethodName) prog_54_method_2_code (1 : Nat) (Option.some Jvm.ClassFile.FieldType.boolean), Jvm.Cond.code ({ cls := "java/lang/String", name := "valueOf", desc := "(C)Ljava/lang/String;" } : Jvm.MethodName) jdk_42_method_139_code (1 : Nat) (Option.some (Jvm.ClassFile.FieldType.object "java/lang/String")), Jvm.Cond.code ({ cls := "java/lang/StringLatin1", name := "canEncode", desc := "(C)Z" } : Jvm.MethodName) jdk_43_method_3_code (1 : Nat) (Option.some Jvm.ClassFile.FieldType.boolean), Jvm.Cond.code ({ cls := "java/lang/StringLatin1", name := "toBytes", desc := "(C)[B" } : Jvm.MethodName) jdk_43_method_46_code (1 : Nat) (Option.some (Jvm.ClassFile.FieldType.array Jvm.ClassFile.FieldType.byte)), Jvm.Cond.code ({ cls := "java/lang/String", name := "<init>", desc := "([BB)V" } : Jvm.MethodName) jdk_42_method_151_code (3 : Nat) (Option.none : Option Jvm.ClassFile.FieldType), Jvm.Cond.code ({ cls := "com/example/vesch/vesch/engine/Trace", name := "add", desc := "(Ljava/lang/String;)V" } : Jvm.MethodName) prog_54_method_3_code (2 : Nat) (Option.none : Option Jvm.ClassFile.FieldType), Jvm.Cond.code ({ cls := "com/example/vesch/vesch/engine/Trace", name := "add", desc := "(Ljava/lang/String;J)V" } : Jvm.MethodName) prog_54_method_4_code (4 : Nat) (Option.none : Option Jvm.ClassFile.FieldType), Jvm.Cond.code ({ cls := "com/example/vesch/vesch/engine/Trace", name := "add", desc := "(Ljava/lang/String;JJ)V" } : Jvm.MethodName) prog_54_method_5_code (6 : Nat) (Option.none : Option Jvm.ClassFile.FieldType), Jvm.Cond.code ({ cls := "java/util/ArrayList", name := "<init>", desc := "()V" } : Jvm.MethodName) jdk_38_method_2_code (1 : Nat) (Option.none : Option Jvm.ClassFile.FieldType), Jvm.Cond.code ({ cls := "java/util/AbstractList", name := "<init>", desc := "()V" } : Jvm.MethodName) jdk_39_method_1_code (1 : Nat) (Option.none : Option Jvm.ClassFile.FieldType), Jvm.Cond.code ({ cls := "java/util/AbstractCollection", name := "<init>", desc := "()V" } : Jvm.MethodName) jdk_22_method_1_code (1 : Nat) (Option.none : Option Jvm.ClassFile.FieldType), Jvm.Cond.code ({ cls := "java/util/ArrayList", name := "add", desc := "(Ljava/lang/Object;)Z" } : Jvm.MethodName) jdk_38_method_25_code (2 : Nat) (Option.some Jvm.ClassFile.FieldType.boolean), Jvm.Cond.code ({ cls := "java/util/ArrayList", name := "add", desc := "(Ljava/lang/Object;[Ljava/lang/Object;I)V" } : Jvm.MethodName) jdk_38_method_24_code (4 : Nat) (Option.none : Option Jvm.ClassFile.FieldType), Jvm.Cond.code ({ cls := "java/util/ArrayList", name := "grow", desc := "()[Ljava/lang/Object;" } : Jvm.MethodName) jdk_38_method_7_code (1 : Nat) (Option.some (Jvm.ClassFile.FieldType.array (Jvm.ClassFile.FieldType.object "java/lang/Object"))), Jvm.Cond.code ({ cls := "java/util/ArrayList", name := "grow", desc := "(I)[Ljava/lang/Object;" } : Jvm.MethodName) jdk_38_method_6_code (4 : Nat) (Option.some (Jvm.ClassFile.FieldType.array (Jvm.ClassFile.FieldType.object "java/lang/Object"))), Jvm.Cond.code ({ cls := "java/lang/Math", name := "max", desc := "(II)I" } : Jvm.MethodName) jdk_29_method_65_code (2 : Nat) (Option.some Jvm.ClassFile.FieldType.int), Jvm.Cond.code ({ cls := "java/lang/StringBuilder", name := "<init>", desc := "()V" } : Jvm.MethodName) jdk_67_method_1_code (1 : Nat) (Option.none : Option Jvm.ClassFile.FieldType), Jvm.Cond.code ({ cls := "java/lang/AbstractStringBuilder", name := "<init>", desc := "(I)V" } : Jvm.MethodName) jdk_68_method_2_code (2 : Nat) (Option.none : Option Jvm.ClassFile.FieldType), Jvm.Cond.code ({ cls := "java/lang/StringBuilder", name := "append", desc := "(Ljava/lang/String;)Ljava/lang/StringBuilder;" } : Jvm.MethodName) jdk_67_method_7_code (2 : Nat) (Option.some (Jvm.ClassFile.FieldType.object "java/lang/StringBuilder")), Jvm.Cond.code ({ cls := "java/lang/AbstractStringBuilder", name := "append", desc := "(Ljava/lang/String;)Ljava/lang/AbstractStringBuilder;" } : Jvm.MethodName) jdk_68_method_22_code (3 : Nat) (Option.some (Jvm.ClassFile.FieldType.object "java/lang/AbstractStringBuilder")), Jvm.Cond.code ({ cls := "java/lang/String", name := "length", desc := "()I" } : Jvm.MethodName) jdk_42_method_54_code (1 : Nat) (Option.some Jvm.ClassFile.FieldType.int), Jvm.Cond.code ({ cls := "java/lang/String", name := "coder", desc := "()B" } : Jvm.MethodName) jdk_42_method_152_code (1 : Nat) (Option.some Jvm.ClassFile.FieldType.byte), Jvm.Cond.code ({ cls := "java/lang/AbstractStringBuilder", name := "ensureCapacityInternal", desc := "(I)V" } : Jvm.MethodName) jdk_68_method_9_code (3 : Nat) (Option.none : Option Jvm.ClassFile.FieldType), Jvm.Cond.code ({ cls := "java/lang/AbstractStringBuilder", name := "putStringAt", desc := "(ILjava/lang/String;)V" } : Jvm.MethodName) jdk_68_method_73_code (3 : Nat) (Option.none : Option Jvm.ClassFile.FieldType), Jvm.Cond.code ({ cls := "java/lang/AbstractStringBuilder", name := "inflateIfNeededFor", desc := "(Ljava/lang/String;)V" } : Jvm.MethodName) jdk_68_method_71_code (2 : Nat) (Option.none : Option Jvm.ClassFile.FieldType), Jvm.Cond.code ({ cls := "java/lang/String", name := "getBytes", desc := "([BIB)V" } : Jvm.MethodName) jdk_42_method_147_code (4 : Nat) (Option.none : Option Jvm.ClassFile.FieldType), Jvm.Cond.code ({ cls := "java/lang/StringBuilder", name := "append", desc := "(J)Ljava/lang/StringBuilder;" } : Jvm.MethodName) jdk_67_method_16_code (3 : Nat) (Option.some (Jvm.ClassFile.FieldType.object "java/lang/StringBuilder")), Jvm.Cond.code ({ cls := "java/lang/AbstractStringBuilder", name := "append", desc := "(J)Ljava/lang/AbstractStringBuilder;" } : Jvm.MethodName) jdk_68_method_33_code (5 : Nat) (Option.some (Jvm.ClassFile.FieldType.object "java/lang/AbstractStringBuilder")), Jvm.Cond.code ({ cls := "java/lang/Long", name := "stringSize", desc := "(J)I" } : Jvm.MethodName) jdk_35_method_15_code (6 : Nat) (Option.some Jvm.ClassFile.FieldType.int), Jvm.Cond.code ({ cls := "java/lang/AbstractStringBuilder", name := "isLatin1", desc := "()Z" } : Jvm.MethodName) jdk_68_method_68_code (1 : Nat) (Option.some Jvm.ClassFile.FieldType.boolean), Jvm.Cond.code ({ cls := "java/lang/Long", name := "getChars", desc := "(JI[B)I" } : Jvm.MethodName) jdk_35_method_14_code (11 : Nat) (Option.some Jvm.ClassFile.FieldType.int), Jvm.Cond.code ({ cls := "java/lang/StringBuilder", name := "toString", desc := "()Ljava/lang/String;" } : Jvm.MethodName) jdk_67_method_42_code (1 : Nat) (Option.some (Jvm.ClassFile.FieldType.object "java/lang/String")), Jvm.Cond.code ({ cls := "java/lang/String", name := "<init>", desc := "(Ljava/lang/StringBuilder;)V" } : Jvm.MethodName) jdk_42_method_53_code (2 : Nat) (Option.none : Option Jvm.ClassFile.FieldType), Jvm.Cond.code ({ cls := "java/lang/String", name := "<init>", desc := "(Ljava/lang/AbstractStringBuilder;Ljava/lang/Void;)V" } : Jvm.MethodName) jdk_42_method_150_code (5 : Nat) (Option.none : Option Jvm.ClassFile.FieldType), Jvm.Cond.code ({ cls := "java/lang/AbstractStringBuilder", name := "getValue", desc := "()[B" } : Jvm.MethodName) jdk_68_method_64_code (1 : Nat) (Option.some (Jvm.ClassFile.FieldType.array Jvm.ClassFile.FieldType.byte)), Jvm.Cond.code ({ cls := "java/lang/StringBuilder", name := "length", desc := "()I" } : Jvm.MethodName) jdk_67_method_93_code (1 : Nat) (Option.some Jvm.ClassFile.FieldType.int), Jvm.Cond.code ({ cls := "java/lang/AbstractStringBuilder", name := "length", desc := "()I" } : Jvm.MethodName) jdk_68_method_6_code (1 : Nat) (Option.some Jvm.ClassFile.FieldType.int), Jvm.Cond.code ({ cls := "java/util/Arrays", name := "copyOfRange", desc := "([BII)[B" } : Jvm.MethodName) jdk_65_method_132_code (3 : Nat) (Option.some (Jvm.ClassFile.FieldType.array Jvm.ClassFile.FieldType.byte)), Jvm.Cond.code ({ cls := "java/util/Arrays", name := "copyOfRangeByte", desc := "([BII)[B" } : Jvm.MethodName) jdk_65_method_133_code (5 : Nat) (Option.some (Jvm.ClassFile.FieldType.array Jvm.ClassFile.FieldType.byte)), Jvm.Cond.code ({ cls := "java/util/Arrays", name := "checkLength", desc := "(II)V" } : Jvm.MethodName) jdk_65_method_131_code (2 : Nat) (Option.none : Option Jvm.ClassFile.FieldType), Jvm.Cond.code ({ cls := "java/lang/Math", name := "min", desc := "(II)I" } : Jvm.MethodName) jdk_29_method_69_code (2 : Nat) (Option.some Jvm.ClassFile.FieldType.int), Jvm.Cond.code ({ cls := "java/lang/AbstractStringBuilder", name := "newCapacity", desc := "(I)I" } : Jvm.MethodName) jdk_68_method_10_code (6 : Nat) (Option.some Jvm.ClassFile.FieldType.int), Jvm.Cond.code ({ cls := "jdk/internal/util/ArraysSupport", name := "newLength", desc := "(III)I" } : Jvm.MethodName) jdk_48_method_27_code (4 : Nat) (Option.some Jvm.ClassFile.FieldType.int), Jvm.Cond.code ({ cls := "java/util/Arrays", name := "copyOf", desc := "([BI)[B" } : Jvm.MethodName) jdk_65_method_121_code (3 : Nat) (Option.some (Jvm.ClassFile.FieldType.array Jvm.ClassFile.FieldType.byte))]
set_option maxRecDepth 65536 in
theorem codes_eq : words1.filter isCode = codes1 := rfl
theorem w_codes : ∀ c ∈ words1.filter isCode, c.before args0 about1 = true := by
  rw [codes_eq]
  intro c hc
  simp only [codes1, List.mem_cons, List.not_mem_nil, or_false] at hc
  rcases hc with rfl | rfl | rfl | rfl | rfl | rfl | rfl | rfl | rfl | rfl | rfl | rfl | rfl | rfl | rfl | rfl | rfl | rfl | rfl | rfl | rfl | rfl | rfl | rfl | rfl | rfl | rfl | rfl | rfl | rfl | rfl | rfl | rfl | rfl | rfl | rfl | rfl | rfl | rfl | rfl | rfl | rfl | rfl | rfl | rfl | rfl | rfl
  · exact w_c0
  · exact w_c1
  · exact w_c2
  · exact w_c3
  · exact w_c4
  · exact w_c5
  · exact w_c6
  · exact w_c7
  · exact w_c8
  · exact w_c9
  · exact w_c10
  · exact w_c11
  · exact w_c12
  · exact w_c13
  · exact w_c14
  · exact w_c15
  · exact w_c16
  · exact w_c17
  · exact w_c18
  · exact w_c19
  · exact w_c20
  · exact w_c21
  · exact w_c22
  · exact w_c23
  · exact w_c24
  · exact w_c25
  · exact w_c26
  · exact w_c27
  · exact w_c28
  · exact w_c29
  · exact w_c30
  · exact w_c31
  · exact w_c32
  · exact w_c33
  · exact w_c34
  · exact w_c35
  · exact w_c36
  · exact w_c37
  · exact w_c38
  · exact w_c39
  · exact w_c40
  · exact w_c41
  · exact w_c42
  · exact w_c43
  · exact w_c44
  · exact w_c45
  · exact w_c46
set_option maxRecDepth 65536 in
theorem w_t1 : (words1.take 24).all (fun c => isCode c || c.before args0 about1) = true := by decide +kernel
set_option maxRecDepth 65536 in
theorem w_t2 : ((words1.drop 24).take 24).all (fun c => isCode c || c.before args0 about1) = true := by decide +kernel
set_option maxRecDepth 65536 in
theorem w_t3 : (((words1.drop 24).drop 24).take 24).all (fun c => isCode c || c.before args0 about1) = true := by decide +kernel
set_option maxRecDepth 65536 in
theorem w_t4 : ((((words1.drop 24).drop 24).drop 24).take 24).all (fun c => isCode c || c.before args0 about1) = true := by decide +kernel
set_option maxRecDepth 65536 in
theorem w_t5 : (((((words1.drop 24).drop 24).drop 24).drop 24).take 24).all (fun c => isCode c || c.before args0 about1) = true := by decide +kernel
set_option maxRecDepth 65536 in
theorem w_t6 : ((((((words1.drop 24).drop 24).drop 24).drop 24).drop 24).take 24).all (fun c => isCode c || c.before args0 about1) = true := by decide +kernel
set_option maxRecDepth 65536 in
theorem w_t7 : (((((((words1.drop 24).drop 24).drop 24).drop 24).drop 24).drop 24).take 24).all (fun c => isCode c || c.before args0 about1) = true := by decide +kernel
set_option maxRecDepth 65536 in
theorem w_t8 : ((((((((words1.drop 24).drop 24).drop 24).drop 24).drop 24).drop 24).drop 24).take 24).all (fun c => isCode c || c.before args0 about1) = true := by decide +kernel
set_option maxRecDepth 65536 in
theorem w_t9 : (((((((((words1.drop 24).drop 24).drop 24).drop 24).drop 24).drop 24).drop 24).drop 24).take 24).all (fun c => isCode c || c.before args0 about1) = true := by decide +kernel
set_option maxRecDepth 65536 in
theorem w_t10 : ((((((((((words1.drop 24).drop 24).drop 24).drop 24).drop 24).drop 24).drop 24).drop 24).drop 24).take 24).all (fun c => isCode c || c.before args0 about1) = true := by decide +kernel
set_option maxRecDepth 65536 in
theorem w_t11 : (((((((((((words1.drop 24).drop 24).drop 24).drop 24).drop 24).drop 24).drop 24).drop 24).drop 24).drop 24).take 24).all (fun c => isCode c || c.before args0 about1) = true := by decide +kernel
set_option maxRecDepth 65536 in
theorem w_t12 : (((((((((((words1.drop 24).drop 24).drop 24).drop 24).drop 24).drop 24).drop 24).drop 24).drop 24).drop 24).drop 24).all (fun c => isCode c || c.before args0 about1) = true := by decide +kernel
theorem w_tables : (allAtoms (Jvm.Cond.code x code maxLocals ret :: tables_1)).before args0 about1 = true := by
  rw [allAtoms_all]
  show words1.all (fun c => c.before args0 about1) = true
  refine all_split ?_ w_codes
  rw [← List.take_append_drop 24 words1, List.all_append, w_t1, ← List.take_append_drop 24 (words1.drop 24), List.all_append, w_t2, ← List.take_append_drop 24 ((words1.drop 24).drop 24), List.all_append, w_t3, ← List.take_append_drop 24 (((words1.drop 24).drop 24).drop 24), List.all_append, w_t4, ← List.take_append_drop 24 ((((words1.drop 24).drop 24).drop 24).drop 24), List.all_append, w_t5, ← List.take_append_drop 24 (((((words1.drop 24).drop 24).drop 24).drop 24).drop 24), List.all_append, w_t6, ← List.take_append_drop 24 ((((((words1.drop 24).drop 24).drop 24).drop 24).drop 24).drop 24), List.all_append, w_t7, ← List.take_append_drop 24 (((((((words1.drop 24).drop 24).drop 24).drop 24).drop 24).drop 24).drop 24), List.all_append, w_t8, ← List.take_append_drop 24 ((((((((words1.drop 24).drop 24).drop 24).drop 24).drop 24).drop 24).drop 24).drop 24), List.all_append, w_t9, ← List.take_append_drop 24 (((((((((words1.drop 24).drop 24).drop 24).drop 24).drop 24).drop 24).drop 24).drop 24).drop 24), List.all_append, w_t10, ← List.take_append_drop 24 ((((((((((words1.drop 24).drop 24).drop 24).drop 24).drop 24).drop 24).drop 24).drop 24).drop 24).drop 24), List.all_append, w_t11, w_t12]
  rfl
set_option maxRecDepth 65536 in
theorem w_rest : rest_1_c.before args0 about1 = true := by decide +kernel
set_option maxRecDepth 65536 in
theorem w_case : (Jvm.Cond.and given_1 narrow_1).before args0 about1 = true := by decide +kernel
set_option maxRecDepth 65536 in
theorem w_consts : constsHeld consts_1 about1 := Jvm.Lit.constsHeldB_iff.mp (by decide +kernel)
theorem w_applies : (headSpec (Jvm.Cond.code x code maxLocals ret :: tables_1) room_1).applies x e0.platform about1 = true :=
  (Spec.applies_iff w_frames).mpr ⟨w_running, w_runnable, w_alone, w_named, w_hears, w_ripe, w_room, w_tables⟩
theorem atStart : AtStart classFile x code maxLocals ret World_1 tables_1 room_1 Calls_1 rest_1 Pre_1 launch0 p0 e0 about1 theMethod args0 below0 :=
  ⟨lists_1, trivial, launch0.admits_env _ _ _, launch0.least_env, fairChoices_fair.cas, fairChoices_fair.clock, w_frames, w_args, w_heap, w_applies, ⟨w_consts, trivial⟩, w_rest, w_case⟩
end start1
theorem witness_1 : WitnessClaimed_1 := ⟨start1.p0, start1.e0, start1.about1, start1.theMethod, start1.args0, start1.below0, start1.atStart⟩
end Jvm.Pilot.@@N@@
