import JvmDerived
import JvmDerived.Pilot.@@N@@Statement
import JvmDerived.Pilot.@@N@@Code
set_option linter.unusedVariables false
set_option linter.unusedSimpArgs false
namespace Jvm.RoadKit
open Sem ClassFile Op Lib Jvm.Stand Jvm.Free Jvm.LawKit
section New
variable {p : Program} {l : Launch} {e : Env} {R : Room} {s : State} {m : MethodId} {args : Array Value} {below : List Frame} {meth : Method} {c : Code} {T : State} {locs : List Loc} {cells slots : Nat}
theorem retI (X : Stand p l e R s m args below meth c T locs cells slots) (hx : p.tables.exec = Jvm.exec) {pc : Nat} {Ls : Array Slot} {z : Int32} {rest : List Value} (hret : meth.sig.returnType = some .int) (hd : decode c.code pc = .ok (.ireturn, 1)) {fs : List Frame}
    (hl : ∀ (f : JFrame) (acts : List Action), f.method = m → f.locked = none → f.entered = [] → (doReturn e (T.setTop f) acts (some (.int z))).1 = T.setFrames fs) : Steps p.tables e below (T.setTop (mkF m pc Ls (.int z :: rest))) (T.setFrames fs) := by
  have hm' : T.vm.method? m = some meth := X.method'
  have hn : narrow .int (.int z) = .int z := rfl
  show Steps p.tables e below (T.setTop { method := m, pc := pc, locals := Ls, stack := _ :: rest, locked := none }) _
  jvm_step X.here [X.here.top, hx, hd, hm', hret, hn]
  first | (intro acts; rw [hl _ acts rfl rfl rfl]) | rw [hl _ _ rfl rfl rfl]
  exact Steps.refl _
end New
end Jvm.RoadKit
namespace Jvm.Pilot.@@N@@
open Jvm Jvm.ClassFile Sem Op Lib Jvm.Free Jvm.Stand Jvm.LawKit Jvm.RoadKit Bundle Jvm.Pilot.@@N@@.Jvm.D
def own_rem (x y : Int32) : Int32 := x - (x / y) * y
section OwnSteps
variable {tb : Tables} [Ours tb] {e : Env} {below : List Frame} {T target : State} {m : MethodId} {c : Code} {pc : Nat} {ls : Array Slot} {st : List Value}
theorem own_iloadN (h : At T m c below) (hx : tb.exec = Jvm.exec) {k : Fin 4} {v : Int32} (hd : decode c.code pc = .ok (.iload_n k, 1)) (hl : ls[k.val]? = some (.val (.int v))) (hr : Steps tb e below (T.setTop (mkF m (pc + 1) ls (.int v :: st))) target) : Steps tb e below (T.setTop (mkF m pc ls (st))) target := XS.iloadN h hx rfl hd hl hr
theorem own_iload (h : At T m c below) (hx : tb.exec = Jvm.exec) {k : Nat} {v : Int32} (hd : decode c.code pc = .ok (.iload k, 2)) (hl : ls[k]? = some (.val (.int v))) (hr : Steps tb e below (T.setTop (mkF m (pc + 2) ls (.int v :: st))) target) : Steps tb e below (T.setTop (mkF m pc ls (st))) target := XS.iload h hx rfl hd hl hr
theorem own_istoreN (h : At T m c below) (hx : tb.exec = Jvm.exec) {k : Fin 4} {v : Int32} {l' : Array Slot} (hd : decode c.code pc = .ok (.istore_n k, 1)) (hl : storeLocals ls k.val (.int v) = some l') (hr : Steps tb e below (T.setTop (mkF m (pc + 1) l' (st))) target) : Steps tb e below (T.setTop (mkF m pc ls (.int v :: st))) target := XS.istoreN h hx rfl hd rfl hl hr
theorem own_istore (h : At T m c below) (hx : tb.exec = Jvm.exec) {k : Nat} {v : Int32} {l' : Array Slot} (hd : decode c.code pc = .ok (.istore k, 2)) (hl : storeLocals ls k (.int v) = some l') (hr : Steps tb e below (T.setTop (mkF m (pc + 2) l' (st))) target) : Steps tb e below (T.setTop (mkF m pc ls (.int v :: st))) target := XS.istore h hx rfl hd rfl hl hr
theorem own_lloadN (h : At T m c below) (hx : tb.exec = Jvm.exec) {k : Fin 4} {v : Int64} (hd : decode c.code pc = .ok (.lload_n k, 1)) (hl : ls[k.val]? = some (.val (.long v))) (hr : Steps tb e below (T.setTop (mkF m (pc + 1) ls (.long v :: st))) target) : Steps tb e below (T.setTop (mkF m pc ls (st))) target := XS.lloadN h hx rfl hd hl hr
theorem own_lload (h : At T m c below) (hx : tb.exec = Jvm.exec) {k : Nat} {v : Int64} (hd : decode c.code pc = .ok (.lload k, 2)) (hl : ls[k]? = some (.val (.long v))) (hr : Steps tb e below (T.setTop (mkF m (pc + 2) ls (.long v :: st))) target) : Steps tb e below (T.setTop (mkF m pc ls (st))) target := XS.lload h hx rfl hd hl hr
theorem own_lstoreN (h : At T m c below) (hx : tb.exec = Jvm.exec) {k : Fin 4} {v : Int64} {l' : Array Slot} (hd : decode c.code pc = .ok (.lstore_n k, 1)) (hl : storeLocals ls k.val (.long v) = some l') (hr : Steps tb e below (T.setTop (mkF m (pc + 1) l' (st))) target) : Steps tb e below (T.setTop (mkF m pc ls (.long v :: st))) target := XS.lstoreN h hx rfl hd rfl hl hr
theorem own_lstore (h : At T m c below) (hx : tb.exec = Jvm.exec) {k : Nat} {v : Int64} {l' : Array Slot} (hd : decode c.code pc = .ok (.lstore k, 2)) (hl : storeLocals ls k (.long v) = some l') (hr : Steps tb e below (T.setTop (mkF m (pc + 2) l' (st))) target) : Steps tb e below (T.setTop (mkF m pc ls (.long v :: st))) target := XS.lstore h hx rfl hd rfl hl hr
theorem own_dloadN (h : At T m c below) (hx : tb.exec = Jvm.exec) {k : Fin 4} {v : UInt64} (hd : decode c.code pc = .ok (.dload_n k, 1)) (hl : ls[k.val]? = some (.val (.double v))) (hr : Steps tb e below (T.setTop (mkF m (pc + 1) ls (.double v :: st))) target) : Steps tb e below (T.setTop (mkF m pc ls (st))) target := XS.dloadN h hx rfl hd hl hr
theorem own_dload (h : At T m c below) (hx : tb.exec = Jvm.exec) {k : Nat} {v : UInt64} (hd : decode c.code pc = .ok (.dload k, 2)) (hl : ls[k]? = some (.val (.double v))) (hr : Steps tb e below (T.setTop (mkF m (pc + 2) ls (.double v :: st))) target) : Steps tb e below (T.setTop (mkF m pc ls (st))) target := XS.dload h hx rfl hd hl hr
theorem own_dstoreN (h : At T m c below) (hx : tb.exec = Jvm.exec) {k : Fin 4} {v : UInt64} {l' : Array Slot} (hd : decode c.code pc = .ok (.dstore_n k, 1)) (hl : storeLocals ls k.val (.double v) = some l') (hr : Steps tb e below (T.setTop (mkF m (pc + 1) l' (st))) target) : Steps tb e below (T.setTop (mkF m pc ls (.double v :: st))) target := XS.dstoreN h hx rfl hd rfl hl hr
theorem own_dstore (h : At T m c below) (hx : tb.exec = Jvm.exec) {k : Nat} {v : UInt64} {l' : Array Slot} (hd : decode c.code pc = .ok (.dstore k, 2)) (hl : storeLocals ls k (.double v) = some l') (hr : Steps tb e below (T.setTop (mkF m (pc + 2) l' (st))) target) : Steps tb e below (T.setTop (mkF m pc ls (.double v :: st))) target := XS.dstore h hx rfl hd rfl hl hr
theorem own_aloadN (h : At T m c below) (hx : tb.exec = Jvm.exec) {k : Fin 4} {v : Value} (hd : decode c.code pc = .ok (.aload_n k, 1)) (hl : ls[k.val]? = some (.val v)) (hv : v.isRef = true) (hr : Steps tb e below (T.setTop (mkF m (pc + 1) ls (v :: st))) target) : Steps tb e below (T.setTop (mkF m pc ls (st))) target := XS.aloadN h hx rfl hd hl hv hr
theorem own_aload (h : At T m c below) (hx : tb.exec = Jvm.exec) {k : Nat} {v : Value} (hd : decode c.code pc = .ok (.aload k, 2)) (hl : ls[k]? = some (.val v)) (hv : v.isRef = true) (hr : Steps tb e below (T.setTop (mkF m (pc + 2) ls (v :: st))) target) : Steps tb e below (T.setTop (mkF m pc ls (st))) target := XS.aload h hx rfl hd hl hv hr
theorem own_astoreN (h : At T m c below) (hx : tb.exec = Jvm.exec) {k : Fin 4} {v : Value} {l' : Array Slot} (hd : decode c.code pc = .ok (.astore_n k, 1)) (hv : v.isRef = true) (hl : storeLocals ls k.val v = some l') (hr : Steps tb e below (T.setTop (mkF m (pc + 1) l' (st))) target) : Steps tb e below (T.setTop (mkF m pc ls (v :: st))) target := XS.astoreN h hx rfl hd rfl hv hl hr
theorem own_astore (h : At T m c below) (hx : tb.exec = Jvm.exec) {k : Nat} {v : Value} {l' : Array Slot} (hd : decode c.code pc = .ok (.astore k, 2)) (hv : v.isRef = true) (hl : storeLocals ls k v = some l') (hr : Steps tb e below (T.setTop (mkF m (pc + 2) l' (st))) target) : Steps tb e below (T.setTop (mkF m pc ls (v :: st))) target := XS.astore h hx rfl hd rfl hv hl hr
theorem own_iconst (h : At T m c below) (hx : tb.exec = Jvm.exec) {i : Int} (z : Int32) (hd : decode c.code pc = .ok (.iconst i, 1)) (hz : Int32.ofInt i = z) (hr : Steps tb e below (T.setTop (mkF m (pc + 1) ls (.int z :: st))) target) : Steps tb e below (T.setTop (mkF m pc ls st)) target := by
  subst hz; exact XS.iconst h hx rfl hd hr
theorem own_bipush (h : At T m c below) (hx : tb.exec = Jvm.exec) {i : Int} (z : Int32) (hd : decode c.code pc = .ok (.bipush i, 2)) (hz : (Int8.ofInt i).toInt32 = z) (hr : Steps tb e below (T.setTop (mkF m (pc + 2) ls (.int z :: st))) target) : Steps tb e below (T.setTop (mkF m pc ls st)) target := by
  subst hz; exact XS.bipush h hx rfl hd hr
theorem own_sipush (h : At T m c below) (hx : tb.exec = Jvm.exec) {i : Int} (z : Int32) (hd : decode c.code pc = .ok (.sipush i, 3)) (hz : (Int16.ofInt i).toInt32 = z) (hr : Steps tb e below (T.setTop (mkF m (pc + 3) ls (.int z :: st))) target) : Steps tb e below (T.setTop (mkF m pc ls st)) target := by
  subst hz; exact XS.sipush h hx rfl hd hr
theorem own_lconst0 (h : At T m c below) (hx : tb.exec = Jvm.exec) (hd : decode c.code pc = .ok (.lconst 0, 1)) (hr : Steps tb e below (T.setTop (mkF m (pc + 1) ls (.long (0 : Int64) :: st))) target) : Steps tb e below (T.setTop (mkF m pc ls st)) target := XS.lconst h hx rfl hd hr
theorem own_lconst1 (h : At T m c below) (hx : tb.exec = Jvm.exec) (hd : decode c.code pc = .ok (.lconst 1, 1)) (hr : Steps tb e below (T.setTop (mkF m (pc + 1) ls (.long (1 : Int64) :: st))) target) : Steps tb e below (T.setTop (mkF m pc ls st)) target := XS.lconst h hx rfl hd hr
theorem own_aconstNull (h : At T m c below) (hx : tb.exec = Jvm.exec)  (hd : decode c.code pc = .ok (.aconst_null, 1)) (hr : Steps tb e below (T.setTop (mkF m (pc + 1) ls (.null :: st))) target) : Steps tb e below (T.setTop (mkF m pc ls (st))) target := XS.aconstNull h hx rfl hd hr
theorem own_iadd (h : At T m c below) (hx : tb.exec = Jvm.exec) {x y : Int32} (hd : decode c.code pc = .ok (.iadd, 1)) (hr : Steps tb e below (T.setTop (mkF m (pc + 1) ls (.int (x + y) :: st))) target) : Steps tb e below (T.setTop (mkF m pc ls (.int y :: .int x :: st))) target := XS.iadd h hx rfl hd rfl hr
theorem own_isub (h : At T m c below) (hx : tb.exec = Jvm.exec) {x y : Int32} (hd : decode c.code pc = .ok (.isub, 1)) (hr : Steps tb e below (T.setTop (mkF m (pc + 1) ls (.int (x - y) :: st))) target) : Steps tb e below (T.setTop (mkF m pc ls (.int y :: .int x :: st))) target := XS.isub h hx rfl hd rfl hr
theorem own_imul (h : At T m c below) (hx : tb.exec = Jvm.exec) {x y : Int32} (hd : decode c.code pc = .ok (.imul, 1)) (hr : Steps tb e below (T.setTop (mkF m (pc + 1) ls (.int (x * y) :: st))) target) : Steps tb e below (T.setTop (mkF m pc ls (.int y :: .int x :: st))) target := XS.imul h hx rfl hd rfl hr
theorem own_iand (h : At T m c below) (hx : tb.exec = Jvm.exec) {x y : Int32} (hd : decode c.code pc = .ok (.iand, 1)) (hr : Steps tb e below (T.setTop (mkF m (pc + 1) ls (.int (x &&& y) :: st))) target) : Steps tb e below (T.setTop (mkF m pc ls (.int y :: .int x :: st))) target := XS.iand h hx rfl hd rfl hr
theorem own_ior (h : At T m c below) (hx : tb.exec = Jvm.exec) {x y : Int32} (hd : decode c.code pc = .ok (.ior, 1)) (hr : Steps tb e below (T.setTop (mkF m (pc + 1) ls (.int (x ||| y) :: st))) target) : Steps tb e below (T.setTop (mkF m pc ls (.int y :: .int x :: st))) target := XS.ior h hx rfl hd rfl hr
theorem own_ixor (h : At T m c below) (hx : tb.exec = Jvm.exec) {x y : Int32} (hd : decode c.code pc = .ok (.ixor, 1)) (hr : Steps tb e below (T.setTop (mkF m (pc + 1) ls (.int (x ^^^ y) :: st))) target) : Steps tb e below (T.setTop (mkF m pc ls (.int y :: .int x :: st))) target := XS.ixor h hx rfl hd rfl hr
theorem own_idiv (h : At T m c below) (hx : tb.exec = Jvm.exec) {x y : Int32} (hd : decode c.code pc = .ok (.idiv, 1)) (hy : y ≠ 0) (hr : Steps tb e below (T.setTop (mkF m (pc + 1) ls (.int (x / y) :: st))) target) : Steps tb e below (T.setTop (mkF m pc ls (.int y :: .int x :: st))) target := XS.idiv h hx rfl hd rfl hy hr
theorem own_ladd (h : At T m c below) (hx : tb.exec = Jvm.exec) {x y : Int64} (hd : decode c.code pc = .ok (.ladd, 1)) (hr : Steps tb e below (T.setTop (mkF m (pc + 1) ls (.long (x + y) :: st))) target) : Steps tb e below (T.setTop (mkF m pc ls (.long y :: .long x :: st))) target := XS.ladd h hx rfl hd rfl hr
theorem own_lsub (h : At T m c below) (hx : tb.exec = Jvm.exec) {x y : Int64} (hd : decode c.code pc = .ok (.lsub, 1)) (hr : Steps tb e below (T.setTop (mkF m (pc + 1) ls (.long (x - y) :: st))) target) : Steps tb e below (T.setTop (mkF m pc ls (.long y :: .long x :: st))) target := XS.lsub h hx rfl hd rfl hr
theorem own_lmul (h : At T m c below) (hx : tb.exec = Jvm.exec) {x y : Int64} (hd : decode c.code pc = .ok (.lmul, 1)) (hr : Steps tb e below (T.setTop (mkF m (pc + 1) ls (.long (x * y) :: st))) target) : Steps tb e below (T.setTop (mkF m pc ls (.long y :: .long x :: st))) target := XS.lmul h hx rfl hd rfl hr
theorem own_land (h : At T m c below) (hx : tb.exec = Jvm.exec) {x y : Int64} (hd : decode c.code pc = .ok (.land, 1)) (hr : Steps tb e below (T.setTop (mkF m (pc + 1) ls (.long (x &&& y) :: st))) target) : Steps tb e below (T.setTop (mkF m pc ls (.long y :: .long x :: st))) target := XS.land h hx rfl hd rfl hr
theorem own_lor (h : At T m c below) (hx : tb.exec = Jvm.exec) {x y : Int64} (hd : decode c.code pc = .ok (.lor, 1)) (hr : Steps tb e below (T.setTop (mkF m (pc + 1) ls (.long (x ||| y) :: st))) target) : Steps tb e below (T.setTop (mkF m pc ls (.long y :: .long x :: st))) target := XS.lor h hx rfl hd rfl hr
theorem own_lxor (h : At T m c below) (hx : tb.exec = Jvm.exec) {x y : Int64} (hd : decode c.code pc = .ok (.lxor, 1)) (hr : Steps tb e below (T.setTop (mkF m (pc + 1) ls (.long (x ^^^ y) :: st))) target) : Steps tb e below (T.setTop (mkF m pc ls (.long y :: .long x :: st))) target := XS.lxor h hx rfl hd rfl hr
theorem own_ldiv (h : At T m c below) (hx : tb.exec = Jvm.exec) {x y : Int64} (hd : decode c.code pc = .ok (.ldiv, 1)) (hy : y ≠ 0) (hr : Steps tb e below (T.setTop (mkF m (pc + 1) ls (.long (x / y) :: st))) target) : Steps tb e below (T.setTop (mkF m pc ls (.long y :: .long x :: st))) target := XS.ldiv h hx rfl hd rfl hy hr
theorem own_irem (h : At T m c below) (hx : tb.exec = Jvm.exec) {x y : Int32} (hd : decode c.code pc = .ok (.irem, 1)) (hy : y ≠ 0) (hr : Steps tb e below (T.setTop (mkF m (pc + 1) ls (.int (own_rem x y) :: st))) target) : Steps tb e below (T.setTop (mkF m pc ls (.int y :: .int x :: st))) target := XS.irem h hx rfl hd rfl hy hr
theorem own_ishl (h : At T m c below) (hx : tb.exec = Jvm.exec) {x : Int32} {y : Int32} (hd : decode c.code pc = .ok (.ishl, 1)) (hr : Steps tb e below (T.setTop (mkF m (pc + 1) ls (.int (x <<< (y &&& 31)) :: st))) target) : Steps tb e below (T.setTop (mkF m pc ls (.int y :: .int x :: st))) target := XS.ishl h hx rfl hd rfl hr
theorem own_ishr (h : At T m c below) (hx : tb.exec = Jvm.exec) {x : Int32} {y : Int32} (hd : decode c.code pc = .ok (.ishr, 1)) (hr : Steps tb e below (T.setTop (mkF m (pc + 1) ls (.int (x >>> (y &&& 31)) :: st))) target) : Steps tb e below (T.setTop (mkF m pc ls (.int y :: .int x :: st))) target := XS.ishr h hx rfl hd rfl hr
theorem own_iushr (h : At T m c below) (hx : tb.exec = Jvm.exec) {x : Int32} {y : Int32} (hd : decode c.code pc = .ok (.iushr, 1)) (hr : Steps tb e below (T.setTop (mkF m (pc + 1) ls (.int ((x.toUInt32 >>> (y &&& 31).toUInt32).toInt32) :: st))) target) : Steps tb e below (T.setTop (mkF m pc ls (.int y :: .int x :: st))) target := XS.iushr h hx rfl hd rfl hr
theorem own_lshl (h : At T m c below) (hx : tb.exec = Jvm.exec) {x : Int64} {y : Int32} (hd : decode c.code pc = .ok (.lshl, 1)) (hr : Steps tb e below (T.setTop (mkF m (pc + 1) ls (.long (x <<< (y &&& 0x3f).toInt64) :: st))) target) : Steps tb e below (T.setTop (mkF m pc ls (.int y :: .long x :: st))) target := XS.lshl h hx rfl hd rfl hr
theorem own_lshr (h : At T m c below) (hx : tb.exec = Jvm.exec) {x : Int64} {y : Int32} (hd : decode c.code pc = .ok (.lshr, 1)) (hr : Steps tb e below (T.setTop (mkF m (pc + 1) ls (.long (x >>> (y &&& 0x3f).toInt64) :: st))) target) : Steps tb e below (T.setTop (mkF m pc ls (.int y :: .long x :: st))) target := XS.lshr h hx rfl hd rfl hr
theorem own_lushr (h : At T m c below) (hx : tb.exec = Jvm.exec) {x : Int64} {y : Int32} (hd : decode c.code pc = .ok (.lushr, 1)) (hr : Steps tb e below (T.setTop (mkF m (pc + 1) ls (.long ((x.toUInt64 >>> (y &&& 0x3f).toInt64.toUInt64).toInt64) :: st))) target) : Steps tb e below (T.setTop (mkF m pc ls (.int y :: .long x :: st))) target := XS.lushr h hx rfl hd rfl hr
theorem own_ineg (h : At T m c below) (hx : tb.exec = Jvm.exec) {x : Int32} (hd : decode c.code pc = .ok (.ineg, 1)) (hr : Steps tb e below (T.setTop (mkF m (pc + 1) ls (.int (-x) :: st))) target) : Steps tb e below (T.setTop (mkF m pc ls (.int x :: st))) target := XS.ineg h hx rfl hd rfl hr
theorem own_lneg (h : At T m c below) (hx : tb.exec = Jvm.exec) {x : Int64} (hd : decode c.code pc = .ok (.lneg, 1)) (hr : Steps tb e below (T.setTop (mkF m (pc + 1) ls (.long (-x) :: st))) target) : Steps tb e below (T.setTop (mkF m pc ls (.long x :: st))) target := XS.lneg h hx rfl hd rfl hr
theorem own_i2l (h : At T m c below) (hx : tb.exec = Jvm.exec) {x : Int32} (hd : decode c.code pc = .ok (.i2l, 1)) (hr : Steps tb e below (T.setTop (mkF m (pc + 1) ls (.long x.toInt64 :: st))) target) : Steps tb e below (T.setTop (mkF m pc ls (.int x :: st))) target := XS.i2l h hx rfl hd rfl hr
theorem own_l2i (h : At T m c below) (hx : tb.exec = Jvm.exec) {x : Int64} (hd : decode c.code pc = .ok (.l2i, 1)) (hr : Steps tb e below (T.setTop (mkF m (pc + 1) ls (.int x.toInt32 :: st))) target) : Steps tb e below (T.setTop (mkF m pc ls (.long x :: st))) target := XS.l2i h hx rfl hd rfl hr
theorem own_i2b (h : At T m c below) (hx : tb.exec = Jvm.exec) {x : Int32} (hd : decode c.code pc = .ok (.i2b, 1)) (hr : Steps tb e below (T.setTop (mkF m (pc + 1) ls (.int x.toInt8.toInt32 :: st))) target) : Steps tb e below (T.setTop (mkF m pc ls (.int x :: st))) target := XS.i2b h hx rfl hd rfl hr
theorem own_i2s (h : At T m c below) (hx : tb.exec = Jvm.exec) {x : Int32} (hd : decode c.code pc = .ok (.i2s, 1)) (hr : Steps tb e below (T.setTop (mkF m (pc + 1) ls (.int x.toInt16.toInt32 :: st))) target) : Steps tb e below (T.setTop (mkF m pc ls (.int x :: st))) target := XS.i2s h hx rfl hd rfl hr
theorem own_i2c (h : At T m c below) (hx : tb.exec = Jvm.exec) {x : Int32} (hd : decode c.code pc = .ok (.i2c, 1)) (hr : Steps tb e below (T.setTop (mkF m (pc + 1) ls (.int x.toUInt32.toUInt16.toUInt32.toInt32 :: st))) target) : Steps tb e below (T.setTop (mkF m pc ls (.int x :: st))) target := XS.i2c h hx rfl hd rfl hr
theorem own_lcmp (h : At T m c below) (hx : tb.exec = Jvm.exec) {x y : Int64} (hd : decode c.code pc = .ok (.lcmp, 1)) (hr : Steps tb e below (T.setTop (mkF m (pc + 1) ls (.int (lcmpW x y) :: st))) target) : Steps tb e below (T.setTop (mkF m pc ls (.long y :: .long x :: st))) target := XS.lcmp h hx rfl hd rfl hr
theorem own_iinc (h : At T m c below) (hx : tb.exec = Jvm.exec) {k : Nat} {cst : Int} {x : Int32} {l' : Array Slot} (z : Int32) (hd : decode c.code pc = .ok (.iinc k cst, 3)) (hl : ls[k]? = some (.val (.int x))) (hz : Int32.ofInt cst = z) (hl' : storeLocals ls k (.int (x + z)) = some l') (hr : Steps tb e below (T.setTop (mkF m (pc + 3) l' st)) target) : Steps tb e below (T.setTop (mkF m pc ls st)) target := by
  subst hz; exact XS.iinc h hx rfl hd hl hl' hr
theorem own_dup (h : At T m c below) (hx : tb.exec = Jvm.exec) {x : Value} (hd : decode c.code pc = .ok (.dup, 1)) (hc : x.category = 1) (hr : Steps tb e below (T.setTop (mkF m (pc + 1) ls (x :: x :: st))) target) : Steps tb e below (T.setTop (mkF m pc ls (x :: st))) target := XS.dup h hx rfl hd rfl hc hr
theorem own_dupX1 (h : At T m c below) (hx : tb.exec = Jvm.exec) {x y : Value} (hd : decode c.code pc = .ok (.dup_x1, 1)) (hc : x.category = 1) (hc2 : y.category = 1) (hr : Steps tb e below (T.setTop (mkF m (pc + 1) ls (x :: y :: x :: st))) target) : Steps tb e below (T.setTop (mkF m pc ls (x :: y :: st))) target := XS.dupX1 h hx rfl hd rfl hc hc2 hr
theorem own_pop (h : At T m c below) (hx : tb.exec = Jvm.exec) {x : Value} (hd : decode c.code pc = .ok (.pop, 1)) (hc : x.category = 1) (hr : Steps tb e below (T.setTop (mkF m (pc + 1) ls (st))) target) : Steps tb e below (T.setTop (mkF m pc ls (x :: st))) target := XS.pop h hx rfl hd rfl hc hr
theorem own_goto (h : At T m c below) (hx : tb.exec = Jvm.exec) {o : Int} (pc0 pc' : Nat) (hpc : pc = pc0) (hd : decode c.code pc = .ok (.goto o, 3)) (ho : 0 ≤ (pc0 : Int) + o) (hp : ((pc0 : Int) + o).toNat = pc') (hr : Steps tb e below (T.setTop (mkF m pc' ls (st))) target) : Steps tb e below (T.setTop (mkF m pc ls (st))) target := XS.goto h hx rfl hpc hd ho hp hr
theorem own_ifYes (h : At T m c below) (hx : tb.exec = Jvm.exec) {cd : ClassFile.Cond} {o : Int} {x : Int32} (pc0 pc' : Nat) (hpc : pc = pc0) (hd : decode c.code pc = .ok (.ifCond cd o, 3)) (hc : ifCond.holds cd x = true) (ho : 0 ≤ (pc0 : Int) + o) (hp : ((pc0 : Int) + o).toNat = pc') (hr : Steps tb e below (T.setTop (mkF m pc' ls (st))) target) : Steps tb e below (T.setTop (mkF m pc ls (.int x :: st))) target := XS.ifYes h hx rfl hpc hd rfl hc ho hp hr
theorem own_ifNo (h : At T m c below) (hx : tb.exec = Jvm.exec) {cd : ClassFile.Cond} {o : Int} {x : Int32} (hd : decode c.code pc = .ok (.ifCond cd o, 3)) (hc : ifCond.holds cd x = false) (hr : Steps tb e below (T.setTop (mkF m (pc + 3) ls (st))) target) : Steps tb e below (T.setTop (mkF m pc ls (.int x :: st))) target := XS.ifNo h hx rfl hd rfl hc hr
theorem own_icmpYes (h : At T m c below) (hx : tb.exec = Jvm.exec) {cd : ClassFile.Cond} {o : Int} {x y : Int32} (pc0 pc' : Nat) (hpc : pc = pc0) (hd : decode c.code pc = .ok (.if_icmp cd o, 3)) (hc : if_icmp.holds cd x y = true) (ho : 0 ≤ (pc0 : Int) + o) (hp : ((pc0 : Int) + o).toNat = pc') (hr : Steps tb e below (T.setTop (mkF m pc' ls (st))) target) : Steps tb e below (T.setTop (mkF m pc ls (.int y :: .int x :: st))) target := XS.icmpYes h hx rfl hpc hd rfl hc ho hp hr
theorem own_icmpNo (h : At T m c below) (hx : tb.exec = Jvm.exec) {cd : ClassFile.Cond} {o : Int} {x y : Int32} (hd : decode c.code pc = .ok (.if_icmp cd o, 3)) (hc : if_icmp.holds cd x y = false) (hr : Steps tb e below (T.setTop (mkF m (pc + 3) ls (st))) target) : Steps tb e below (T.setTop (mkF m pc ls (.int y :: .int x :: st))) target := XS.icmpNo h hx rfl hd rfl hc hr
theorem own_ifnullYes (h : At T m c below) (hx : tb.exec = Jvm.exec) {o : Int} (pc0 pc' : Nat) (hpc : pc = pc0) (hd : decode c.code pc = .ok (.ifnull o, 3)) (ho : 0 ≤ (pc0 : Int) + o) (hp : ((pc0 : Int) + o).toNat = pc') (hr : Steps tb e below (T.setTop (mkF m pc' ls (st))) target) : Steps tb e below (T.setTop (mkF m pc ls (.null :: st))) target := XS.ifnullYes h hx rfl hpc hd rfl ho hp hr
theorem own_ifnullNo (h : At T m c below) (hx : tb.exec = Jvm.exec) {o : Int} {b : Addr} (hd : decode c.code pc = .ok (.ifnull o, 3)) (hr : Steps tb e below (T.setTop (mkF m (pc + 3) ls (st))) target) : Steps tb e below (T.setTop (mkF m pc ls (.ref b :: st))) target := XS.ifnullNo h hx rfl hd rfl hr
theorem own_ifnonnullYes (h : At T m c below) (hx : tb.exec = Jvm.exec) {o : Int} {b : Addr} (pc0 pc' : Nat) (hpc : pc = pc0) (hd : decode c.code pc = .ok (.ifnonnull o, 3)) (ho : 0 ≤ (pc0 : Int) + o) (hp : ((pc0 : Int) + o).toNat = pc') (hr : Steps tb e below (T.setTop (mkF m pc' ls (st))) target) : Steps tb e below (T.setTop (mkF m pc ls (.ref b :: st))) target := XS.ifnonnullYes h hx rfl hpc hd rfl ho hp hr
theorem own_ifnonnullNo (h : At T m c below) (hx : tb.exec = Jvm.exec) {o : Int} (hd : decode c.code pc = .ok (.ifnonnull o, 3)) (hr : Steps tb e below (T.setTop (mkF m (pc + 3) ls (st))) target) : Steps tb e below (T.setTop (mkF m pc ls (.null :: st))) target := XS.ifnonnullNo h hx rfl hd rfl hr
end OwnSteps

open Jvm.FP Jvm.Free.Fl in
theorem own_m1 (a b : Int32) (a1 : 1 ≤ a.toInt) (a2 : a.toInt ≤ 65536) (b1 : 1 ≤ b.toInt) (b2 : b.toInt ≤ 65536) : FP.dmul (FP.l2d a.toInt64) (FP.l2d b.toInt64) = FP.l2d (a.toInt64 * b.toInt64) ∧ 1 ≤ (a.toInt64 * b.toInt64).toInt ∧ (a.toInt64 * b.toInt64).toInt ≤ 4294967296 := by
  have e1 := c_i2l a
  have e2 := c_i2l b
  have p1 : 1 ≤ a.toInt * b.toInt := Int.le_trans (by omega) (Int.mul_le_mul a1 b1 (by omega) (by omega))
  have p2 : a.toInt * b.toInt ≤ 4294967296 := Int.le_trans (Int.mul_le_mul a2 b2 (by omega) (by omega)) (by omega)
  have hm := c_lmul a.toInt64 b.toInt64
  rw [e1, e2] at hm
  have r := rng64 (a.toInt64 * b.toInt64)
  refine ⟨dmul_w ⟨by omega, by omega⟩ ⟨by omega, by omega⟩ (fun z => ?_) (fun z => ?_) (by rw [e1, e2]; omega) (by rw [e1, e2]; omega), by omega, by omega⟩
  · have := congrArg Int64.toInt z; have k : (0 : Int64).toInt = 0 := rfl; omega
  · have := congrArg Int64.toInt z; have k : (0 : Int64).toInt = 0 := rfl; omega
theorem own_lit : (4696837146684686336 : UInt64) = FP.l2d (1000000 : Int64) := by decide +kernel
open Jvm.FP Jvm.Free.Fl in
theorem own_m2 (x : Int64) (a1 : 1 ≤ x.toInt) (a2 : x.toInt ≤ 4294967296) : FP.dmul (FP.l2d x) (4696837146684686336 : UInt64) = FP.l2d (x * (1000000 : Int64)) := by
  rw [own_lit]
  have k : (1000000 : Int64).toInt = 1000000 := by decide
  refine dmul_w ⟨by omega, by omega⟩ ⟨by omega, by omega⟩ (fun z => ?_) (fun z => ?_) (by rw [k]; omega) (by rw [k]; omega)
  · have := congrArg Int64.toInt z; have k : (0 : Int64).toInt = 0 := rfl; omega
  · have := congrArg Int64.toInt z; have k : (0 : Int64).toInt = 0 := rfl; omega
open Jvm.FP Jvm.Free.Fl in
theorem own_dn (x : Int64) (c : Int32) (h : 1 ≤ c.toInt) : NoNaN64 (FP.ddiv (FP.l2d x) (FP.l2d c.toInt64)) :=
  ddiv_out (l2d_fin x).noNaN (l2d_fin _) (l2d_nz (fun z => by have := congrArg Int64.toInt z; rw [c_i2l] at this; have k : (0 : Int64).toInt = 0 := rfl; omega))
def own_max (p1 p2 : Int32) : Int32 := if p1 < p2 then p2 else p1
theorem own_max1 (x : Int32) : 1 ≤ (own_max (1 : Int32) x).toInt := by
  unfold own_max; split
  · rename_i h; rw [Int32.lt_iff_toInt_lt] at h; have k : (1 : Int32).toInt = 1 := rfl; omega
  · decide
theorem own_w (x : Int32) : 1 ≤ ((x &&& (65535 : Int32)) + (1 : Int32)).toInt ∧ ((x &&& (65535 : Int32)) + (1 : Int32)).toInt ≤ 65536 := by
  have hm := c_mask x 65535 16 (by decide) (by decide)
  have ha := c_iadd (x &&& (65535 : Int32)) 1
  have k : (1 : Int32).toInt = 1 := rfl
  have r := rng32 ((x &&& (65535 : Int32)) + 1)
  omega
theorem ef_rm5 (m : MethodId) (x0 : Int32) (x1 : Int32) : entryFrame m #[(.int x0), (.int x1)] 2 = mkF m 0 #[.val (.int x0), .val (.int x1)] [] := by first | (simp [entryFrame, mkF, argsToLocals, Value.category]; done) | rfl
def Q5 (Z : State) (p1 : Int32) (p2 : Int32) (h0 : Heap) (n0 : Nat) (v : Option Value) (h : Heap) (L : List Loc) : Prop := v = some (.int (own_max p1 p2)) ∧ Fr n0 L ∧ h = h0
theorem d_jdk_29_method_65_code_0 : decode jdk_29_method_65_code 0 = .ok (.iload_n 0, 1) := by decide +kernel
theorem d_jdk_29_method_65_code_1 : decode jdk_29_method_65_code 1 = .ok (.iload_n 1, 1) := by decide +kernel
theorem d_jdk_29_method_65_code_2 : decode jdk_29_method_65_code 2 = .ok (.if_icmp .lt 7, 3) := by decide +kernel
theorem d_jdk_29_method_65_code_9 : decode jdk_29_method_65_code 9 = .ok (.iload_n 1, 1) := by decide +kernel
theorem d_jdk_29_method_65_code_10 : decode jdk_29_method_65_code 10 = .ok (.ireturn, 1) := by decide +kernel
theorem d_jdk_29_method_65_code_5 : decode jdk_29_method_65_code 5 = .ok (.iload_n 0, 1) := by decide +kernel
theorem d_jdk_29_method_65_code_6 : decode jdk_29_method_65_code 6 = .ok (.goto 4, 3) := by decide +kernel
set_option maxRecDepth 65536 in
set_option maxHeartbeats 40000000 in
theorem rm5 (l : Launch) (Z : State) (a0 : Array Value) (hw : ∀ d ∈ tables_1, d.before a0 Z = true) (ws : List Jvm.Cond) (p1 : Int32) (p2 : Int32) (h0 : Heap) (n0 : Nat) (Z0 : n0 ≤ h0.size) :
    MetFree l (⟨"java/lang/Math", "max", "(II)I"⟩ : MethodName) (head1 (Jvm.Cond.code (⟨"java/lang/Math", "max", "(II)I"⟩ : MethodName) jdk_29_method_65_code 2 (some .int) :: ws) ({ frames := 0, cells := 0, slots := 0, locals := 0 } : Room)) (fun a U => a = #[(.int p1), (.int p2)] ∧ Z.Warmed39 U.vm ∧ U.heap = h0) (fun _ _ _ _ _ => True) (fun _ U o U' => ∃ v L, o = .returned v ∧ Q5 Z p1 p2 h0 n0 v U'.heap L ∧ FrameEnd U o U' L ({ frames := 0, cells := 0, slots := 0, locals := 0 } : Room).cells ({ frames := 0, cells := 0, slots := 0, locals := 0 } : Room).slots) := by
  refine MetFree.of_bodySF (Jvm.Free.JP.mathPlain rfl (by decide +kernel)) hisR ?_
  intro p e s m args below meth c s₁ Bd hml0 hP hK
  obtain ⟨rfl, hZ, hh⟩ := hP
  have hx := Bd.exec
  have hby := Bd.bytes
  have hml : c.maxLocals = 2 := hml0
  have hown : s.vm.findClass "java/lang/Math" = some m.cls := findClass_of_methodNamed Bd.named
  have hnm := (name_of_methodNamed Bd.named Bd.method).1
  have X0 : Stand p l e ({ frames := 0, cells := 0, slots := 0, locals := 0 } : Room) s m #[(.int p1), (.int p2)] below meth c s₁ [] 0 0 := Stand.of_body Bd
  have e0 : s₁.heap = h0 := by rw [← hh, Bd.state]; rfl
  have N0 := Fr.nil n0
  have pre0 : ∀ t, Steps p.tables e below (s₁.setTop (mkF m 0 #[.val (.int p1), .val (.int p2)] [])) t → Steps p.tables e below (s₁.setTop (entryFrame m #[(.int p1), (.int p2)] 2)) t := fun t k => castTop (ef_rm5 m p1 p2) k
  have G1 : ∀ t, Steps p.tables e below (s₁.setTop (mkF m 2 #[.val (.int p1), .val (.int p2)] [(.int p2), (.int p1)])) t → Steps p.tables e below (s₁.setTop (mkF m 0 #[.val (.int p1), .val (.int p2)] [])) t := by
    intro tG kG
    refine own_iloadN X0.here hx (hb hby d_jdk_29_method_65_code_0) rfl ?_
    refine own_iloadN X0.here hx (hb hby d_jdk_29_method_65_code_1) rfl ?_
    exact kG
  by_cases hc2 : p1 < p2
  · obtain ⟨fs, hr, hrun, hended, hW, hsame⟩ := X0.leave (v := some (.int p2)) (fun h => by rw [Bd.returns] at h; cases h)
    refine ⟨_, _, pre0 _ ?_, hrun, hended, _, _, rfl, ?_, ⟨_, rfl⟩, hW, hsame.mono (by decide) (by decide)⟩
    · refine G1 _ ?_
      refine own_icmpYes X0.here hx 2 9 rfl (hb hby d_jdk_29_method_65_code_2) (tlt hc2).1 (by decide) (by decide) ?_
      refine own_iloadN X0.here hx (hb hby d_jdk_29_method_65_code_9) rfl ?_
      exact retI X0 hx Bd.returns (hb hby d_jdk_29_method_65_code_10) hr
    · show Q5 Z p1 p2 h0 n0 _ s₁.heap _
      rw [e0]
      exact ⟨by simp only [own_max, if_pos hc2], N0, rfl⟩
  · obtain ⟨fs, hr, hrun, hended, hW, hsame⟩ := X0.leave (v := some (.int p1)) (fun h => by rw [Bd.returns] at h; cases h)
    refine ⟨_, _, pre0 _ ?_, hrun, hended, _, _, rfl, ?_, ⟨_, rfl⟩, hW, hsame.mono (by decide) (by decide)⟩
    · refine G1 _ ?_
      refine own_icmpNo X0.here hx (hb hby d_jdk_29_method_65_code_2) (flt hc2).1 ?_
      refine own_iloadN X0.here hx (hb hby d_jdk_29_method_65_code_5) rfl ?_
      refine own_goto X0.here hx 6 10 rfl (hb hby d_jdk_29_method_65_code_6) (by decide) (by decide) ?_
      exact retI X0 hx Bd.returns (hb hby d_jdk_29_method_65_code_10) hr
    · show Q5 Z p1 p2 h0 n0 _ s₁.heap _
      rw [e0]
      exact ⟨by simp only [own_max, if_neg hc2], N0, rfl⟩
theorem ef_rm1 (m : MethodId) (x0 : Addr) : entryFrame m #[(.ref x0)] 1 = mkF m 0 #[.val (.ref x0)] [] := by first | (simp [entryFrame, mkF, argsToLocals, Value.category]; done) | rfl
theorem pn_java_lang_Record : plainName "java/lang/Record" = true := by first | (simp [plainName, overriddenIn]; done) | decide +kernel
def Q1 (Z : State) (a1 : Addr) (h0 : Heap) (n0 : Nat) (v : Option Value) (h : Heap) (L : List Loc) : Prop := v = none ∧ Fr n0 L ∧ h = h0
theorem d_jdk_30_method_1_code_0 : decode jdk_30_method_1_code 0 = .ok (.aload_n 0, 1) := by decide +kernel
theorem d_jdk_30_method_1_code_1 : decode jdk_30_method_1_code 1 = .ok (.invokespecial 1, 3) := by decide +kernel
theorem d_jdk_30_method_1_code_4 : decode jdk_30_method_1_code 4 = .ok (.return_, 1) := by decide +kernel
set_option maxRecDepth 65536 in
set_option maxHeartbeats 40000000 in
theorem rm1 (l : Launch) (Z : State) (a0 : Array Value) (hw : ∀ d ∈ tables_1, d.before a0 Z = true) (ws : List Jvm.Cond) (a1 : Addr) (h0 : Heap) (n0 : Nat) (Z0 : n0 ≤ h0.size) :
    MetFree l (⟨"java/lang/Record", "<init>", "()V"⟩ : MethodName) (head1 (Jvm.Cond.code (⟨"java/lang/Record", "<init>", "()V"⟩ : MethodName) jdk_30_method_1_code 1 none :: ws) ({ frames := 1, cells := 0, slots := 0, locals := 12 } : Room)) (fun a U => a = #[(.ref a1)] ∧ Z.Warmed39 U.vm ∧ U.heap = h0) (fun _ _ _ _ _ => True) (fun _ U o U' => ∃ v L, o = .returned v ∧ Q1 Z a1 h0 n0 v U'.heap L ∧ FrameEnd U o U' L ({ frames := 1, cells := 0, slots := 0, locals := 12 } : Room).cells ({ frames := 1, cells := 0, slots := 0, locals := 12 } : Room).slots) := by
  refine MetFree.of_bodySF (plainFor_of_name pn_java_lang_Record) hisR ?_
  intro p e s m args below meth c s₁ Bd hml0 hP hK
  obtain ⟨rfl, hZ, hh⟩ := hP
  have hx := Bd.exec
  have hby := Bd.bytes
  have hml : c.maxLocals = 1 := hml0
  have hown : s.vm.findClass "java/lang/Record" = some m.cls := findClass_of_methodNamed Bd.named
  have hnm := (name_of_methodNamed Bd.named Bd.method).1
  have X0 : Stand p l e ({ frames := 1, cells := 0, slots := 0, locals := 12 } : Room) s m #[(.ref a1)] below meth c s₁ [] 0 0 := Stand.of_body Bd
  have e0 : s₁.heap = h0 := by rw [← hh, Bd.state]; rfl
  have N0 := Fr.nil n0
  have pre0 : ∀ t, Steps p.tables e below (s₁.setTop (mkF m 0 #[.val (.ref a1)] [])) t → Steps p.tables e below (s₁.setTop (entryFrame m #[(.ref a1)] 1)) t := fun t k => castTop (ef_rm1 m a1) k
  obtain ⟨T2, X2, e2, st2⟩ := initO X0 hx hZ hown (hw _ (List.mem_of_getElem? (i := 17) rfl)) (hw _ (List.mem_of_getElem? (i := 18) rfl)) (hw _ (List.mem_of_getElem? (i := 19) rfl)) e0 (g := (mkF m 1 #[.val (.ref a1)] [(.ref a1)])) rfl (by rw [hml]; rfl) rfl (hb hby d_jdk_30_method_1_code_1) (by decide) (W := 0) (by show 2 * 0 + _ ≤ _; exact Nat.le_of_eq rfl) (by decide)
  obtain ⟨fs, hr, hrun, hended, hW, hsame⟩ := X2.leave (v := none) (fun _ => rfl)
  refine ⟨_, _, pre0 _ ?_, hrun, hended, _, _, rfl, ?_, ⟨_, rfl⟩, hW, hsame.mono (by decide) (by decide)⟩
  · refine own_aloadN X0.here hx (hb hby d_jdk_30_method_1_code_0) rfl rfl ?_
    refine st2 _ ?_
    show Steps p.tables e below (T2.setTop (mkF m 4 #[.val (.ref a1)] [])) _
    exact X2.returnOut hx Bd.returns (hb hby d_jdk_30_method_1_code_4) hr
  · show Q1 Z a1 h0 n0 _ T2.heap _
    rw [e2]
    exact ⟨rfl, N0, rfl⟩
theorem ef_rm2 (m : MethodId) (x0 : Addr) (x1 : Int32) (x2 : Int32) (x3 : Int32) (x4 : Int32) (x5 : Int32) (x6 : Int32) : entryFrame m #[(.ref x0), (.int x1), (.int x2), (.int x3), (.int x4), (.int x5), (.int x6)] 7 = mkF m 0 #[.val (.ref x0), .val (.int x1), .val (.int x2), .val (.int x3), .val (.int x4), .val (.int x5), .val (.int x6)] [] := by first | (simp [entryFrame, mkF, argsToLocals, Value.category]; done) | rfl
theorem pn_dev_sluice_bench_Workload : plainName "dev/sluice/bench/Workload" = true := by first | (simp [plainName, overriddenIn]; done) | decide +kernel
def Q2 (Z : State) (a1 : Addr) (p1 : Int32) (p2 : Int32) (p3 : Int32) (p4 : Int32) (p5 : Int32) (p6 : Int32) (h0 : Heap) (n0 : Nat) (v : Option Value) (h : Heap) (L : List Loc) : Prop := v = none ∧ Fr n0 L ∧ Keep h0 h [a1] ∧ Exa Z h a1 "dev/sluice/bench/Workload" ∧ Fld Z h a1 "dev/sluice/bench/Workload" "batchSize" "I" (.int p3) ∧ Fld Z h a1 "dev/sluice/bench/Workload" "writers" "I" (.int p4) ∧ Fld Z h a1 "dev/sluice/bench/Workload" "writerCostMicros" "I" (.int p5)
theorem d_prog_30_method_1_code_0 : decode prog_30_method_1_code 0 = .ok (.aload_n 0, 1) := by decide +kernel
theorem d_prog_30_method_1_code_1 : decode prog_30_method_1_code 1 = .ok (.invokespecial 1, 3) := by decide +kernel
theorem pd_2829V : parseMethodDescriptor "()V" = some ⟨[], none⟩ := by decide +kernel
theorem d_prog_30_method_1_code_4 : decode prog_30_method_1_code 4 = .ok (.aload_n 0, 1) := by decide +kernel
theorem d_prog_30_method_1_code_5 : decode prog_30_method_1_code 5 = .ok (.iload_n 1, 1) := by decide +kernel
theorem d_prog_30_method_1_code_6 : decode prog_30_method_1_code 6 = .ok (.putfield 7, 3) := by decide +kernel
theorem d_prog_30_method_1_code_9 : decode prog_30_method_1_code 9 = .ok (.aload_n 0, 1) := by decide +kernel
theorem d_prog_30_method_1_code_10 : decode prog_30_method_1_code 10 = .ok (.iload_n 2, 1) := by decide +kernel
theorem d_prog_30_method_1_code_11 : decode prog_30_method_1_code 11 = .ok (.putfield 13, 3) := by decide +kernel
theorem d_prog_30_method_1_code_14 : decode prog_30_method_1_code 14 = .ok (.aload_n 0, 1) := by decide +kernel
theorem d_prog_30_method_1_code_15 : decode prog_30_method_1_code 15 = .ok (.iload_n 3, 1) := by decide +kernel
theorem d_prog_30_method_1_code_16 : decode prog_30_method_1_code 16 = .ok (.putfield 16, 3) := by decide +kernel
theorem d_prog_30_method_1_code_19 : decode prog_30_method_1_code 19 = .ok (.aload_n 0, 1) := by decide +kernel
theorem d_prog_30_method_1_code_20 : decode prog_30_method_1_code 20 = .ok (.iload 4, 2) := by decide +kernel
theorem d_prog_30_method_1_code_22 : decode prog_30_method_1_code 22 = .ok (.putfield 19, 3) := by decide +kernel
theorem d_prog_30_method_1_code_25 : decode prog_30_method_1_code 25 = .ok (.aload_n 0, 1) := by decide +kernel
theorem d_prog_30_method_1_code_26 : decode prog_30_method_1_code 26 = .ok (.iload 5, 2) := by decide +kernel
theorem d_prog_30_method_1_code_28 : decode prog_30_method_1_code 28 = .ok (.putfield 22, 3) := by decide +kernel
theorem d_prog_30_method_1_code_31 : decode prog_30_method_1_code 31 = .ok (.aload_n 0, 1) := by decide +kernel
theorem d_prog_30_method_1_code_32 : decode prog_30_method_1_code 32 = .ok (.iload 6, 2) := by decide +kernel
theorem d_prog_30_method_1_code_34 : decode prog_30_method_1_code 34 = .ok (.putfield 25, 3) := by decide +kernel
theorem d_prog_30_method_1_code_37 : decode prog_30_method_1_code 37 = .ok (.return_, 1) := by decide +kernel
set_option maxRecDepth 65536 in
set_option maxHeartbeats 40000000 in
theorem rm2 (l : Launch) (Z : State) (a0 : Array Value) (hw : ∀ d ∈ tables_1, d.before a0 Z = true) (ws : List Jvm.Cond) (a1 : Addr) (p1 : Int32) (p2 : Int32) (p3 : Int32) (p4 : Int32) (p5 : Int32) (p6 : Int32) (h0 : Heap) (n0 : Nat) (Z0 : n0 ≤ h0.size) (E1 : Exa Z h0 a1 "dev/sluice/bench/Workload") (g1 : n0 ≤ a1) (F_producers : Fld Z h0 a1 "dev/sluice/bench/Workload" "producers" "I" (.int (0 : Int32))) (F_items : Fld Z h0 a1 "dev/sluice/bench/Workload" "items" "I" (.int (0 : Int32))) (F_batchSize : Fld Z h0 a1 "dev/sluice/bench/Workload" "batchSize" "I" (.int (0 : Int32))) (F_writers : Fld Z h0 a1 "dev/sluice/bench/Workload" "writers" "I" (.int (0 : Int32))) (F_writerCostMicros : Fld Z h0 a1 "dev/sluice/bench/Workload" "writerCostMicros" "I" (.int (0 : Int32))) (F_lingerMillis : Fld Z h0 a1 "dev/sluice/bench/Workload" "lingerMillis" "I" (.int (0 : Int32))) :
    MetFree l (⟨"dev/sluice/bench/Workload", "<init>", "(IIIIII)V"⟩ : MethodName) (head1 (Jvm.Cond.code (⟨"dev/sluice/bench/Workload", "<init>", "(IIIIII)V"⟩ : MethodName) prog_30_method_1_code 7 none :: ws) ({ frames := 2, cells := 0, slots := 0, locals := 24 } : Room)) (fun a U => a = #[(.ref a1), (.int p1), (.int p2), (.int p3), (.int p4), (.int p5), (.int p6)] ∧ Z.Warmed39 U.vm ∧ U.heap = h0) (fun _ _ _ _ _ => True) (fun _ U o U' => ∃ v L, o = .returned v ∧ Q2 Z a1 p1 p2 p3 p4 p5 p6 h0 n0 v U'.heap L ∧ FrameEnd U o U' L ({ frames := 2, cells := 0, slots := 0, locals := 24 } : Room).cells ({ frames := 2, cells := 0, slots := 0, locals := 24 } : Room).slots) := by
  refine MetFree.of_bodySF (plainFor_of_name pn_dev_sluice_bench_Workload) hisR ?_
  intro p e s m args below meth c s₁ Bd hml0 hP hK
  obtain ⟨rfl, hZ, hh⟩ := hP
  have hx := Bd.exec
  have hby := Bd.bytes
  have hml : c.maxLocals = 7 := hml0
  have hown : s.vm.findClass "dev/sluice/bench/Workload" = some m.cls := findClass_of_methodNamed Bd.named
  have hnm := (name_of_methodNamed Bd.named Bd.method).1
  have X0 : Stand p l e ({ frames := 2, cells := 0, slots := 0, locals := 24 } : Room) s m #[(.ref a1), (.int p1), (.int p2), (.int p3), (.int p4), (.int p5), (.int p6)] below meth c s₁ [] 0 0 := Stand.of_body Bd
  have e0 : s₁.heap = h0 := by rw [← hh, Bd.state]; rfl
  have N0 := Fr.nil n0
  have pre0 : ∀ t, Steps p.tables e below (s₁.setTop (mkF m 0 #[.val (.ref a1), .val (.int p1), .val (.int p2), .val (.int p3), .val (.int p4), .val (.int p5), .val (.int p6)] [])) t → Steps p.tables e below (s₁.setTop (entryFrame m #[(.ref a1), (.int p1), (.int p2), (.int p3), (.int p4), (.int p5), (.int p6)] 7)) t := fun t k => castTop (ef_rm2 m a1 p1 p2 p3 p4 p5 p6) k
  obtain ⟨_, _, ⟨T3, L3, k3, n3⟩, -, X3, ⟨Lc3, hQ3, l3, y3, z3⟩, st3⟩ := X0.specialBack hx (y := (⟨"java/lang/Record", "<init>", "()V"⟩ : MethodName)) rfl hown (mvT hZ (hw _ (List.mem_of_getElem? (i := 12) rfl))) (mvT hZ (hw _ (List.mem_of_getElem? (i := 13) rfl))) (mvT hZ (hw _ (List.mem_of_getElem? (i := 16) rfl))) (by decide) (backOf (W := 0) (rm1 l Z a0 hw [] a1 h0 n0 Z0) hZ (hw _ (List.mem_of_getElem? (i := 16) rfl)) (hw _ (List.mem_of_getElem? (i := 15) rfl)) (by decide) (by decide)) (g := (mkF m 1 #[.val (.ref a1), .val (.int p1), .val (.int p2), .val (.int p3), .val (.int p4), .val (.int p5), .val (.int p6)] [(.ref a1)])) rfl (by rw [hml]; rfl) (Steps.refl _) (a := a1) (argsL := []) (rest := []) (lenOf pd_2829V rfl) rfl (by show 2 * 0 + _ ≤ _; exact Nat.le_of_eq rfl) (hb hby d_prog_30_method_1_code_1) (fun _ _ => ⟨rfl, e0, (by decide : 0 + 0 ≤ _), (by decide : 0 + 0 ≤ _)⟩)
  dsimp only [Pt.U, Pt.locs, Pt.cells, Pt.slots] at X3 l3 y3 z3 st3 hQ3
  subst l3 y3 z3
  obtain ⟨rfl, N3q, e3⟩ := hQ3
  have N3 := Fr.app N0 N3q
  obtain ⟨T4, h4, X4, e4, W4, st4⟩ := putF X3 hx hZ hown (host := "") (Or.inl (hw _ (List.mem_of_getElem? (i := 20) rfl))) Via.refl e3 F_producers E1 (Or.inr ⟨(hw _ (List.mem_of_getElem? (i := 21) rfl)), rfl, hnm⟩) (hw _ (List.mem_of_getElem? (i := 7) rfl)) (ty := .int) (by decide) rfl rfl (g := (mkF m 6 #[.val (.ref a1), .val (.int p1), .val (.int p2), .val (.int p3), .val (.int p4), .val (.int p5), .val (.int p6)] [(.int p1), (.ref a1)])) rfl rfl (hb hby d_prog_30_method_1_code_6)
  have f5 : Exa Z h4 a1 "dev/sluice/bench/Workload" := E1.wr W4
  have f7 : Fld Z h4 a1 "dev/sluice/bench/Workload" "items" "I" (.int 0) := F_items.other W4 (Or.inr (slot_ne (Or.inr (hw _ (List.mem_of_getElem? (i := 23) rfl))) (Or.inr (hw _ (List.mem_of_getElem? (i := 21) rfl))) (by decide) (t := .int) (t' := .int) (by decide) (by decide)))
  have f8 : Fld Z h4 a1 "dev/sluice/bench/Workload" "batchSize" "I" (.int 0) := F_batchSize.other W4 (Or.inr (slot_ne (Or.inr (hw _ (List.mem_of_getElem? (i := 25) rfl))) (Or.inr (hw _ (List.mem_of_getElem? (i := 21) rfl))) (by decide) (t := .int) (t' := .int) (by decide) (by decide)))
  have f9 : Fld Z h4 a1 "dev/sluice/bench/Workload" "writers" "I" (.int 0) := F_writers.other W4 (Or.inr (slot_ne (Or.inr (hw _ (List.mem_of_getElem? (i := 27) rfl))) (Or.inr (hw _ (List.mem_of_getElem? (i := 21) rfl))) (by decide) (t := .int) (t' := .int) (by decide) (by decide)))
  have f10 : Fld Z h4 a1 "dev/sluice/bench/Workload" "writerCostMicros" "I" (.int 0) := F_writerCostMicros.other W4 (Or.inr (slot_ne (Or.inr (hw _ (List.mem_of_getElem? (i := 29) rfl))) (Or.inr (hw _ (List.mem_of_getElem? (i := 21) rfl))) (by decide) (t := .int) (t' := .int) (by decide) (by decide)))
  have f11 : Fld Z h4 a1 "dev/sluice/bench/Workload" "lingerMillis" "I" (.int 0) := F_lingerMillis.other W4 (Or.inr (slot_ne (Or.inr (hw _ (List.mem_of_getElem? (i := 31) rfl))) (Or.inr (hw _ (List.mem_of_getElem? (i := 21) rfl))) (by decide) (t := .int) (t' := .int) (by decide) (by decide)))
  have f12 : Fld Z h4 a1 "dev/sluice/bench/Workload" "producers" "I" (.int p1) := F_producers.same W4
  have N4 := Fr.snoc X4 N3 g1
  have Z4 : n0 ≤ h4.size := Nat.le_trans Z0 (Keep.of_wr W4).1
  have K4 : Keep h0 h4 [a1] := (Keep.refl h0 [a1]).wr W4 (Or.inl (List.mem_of_getElem? (i := 0) rfl))
  obtain ⟨T13, h13, X13, e13, W13, st13⟩ := putF X4 hx hZ hown (host := "") (Or.inl (hw _ (List.mem_of_getElem? (i := 22) rfl))) Via.refl e4 f7 f5 (Or.inr ⟨(hw _ (List.mem_of_getElem? (i := 23) rfl)), rfl, hnm⟩) (hw _ (List.mem_of_getElem? (i := 7) rfl)) (ty := .int) (by decide) rfl rfl (g := (mkF m 11 #[.val (.ref a1), .val (.int p1), .val (.int p2), .val (.int p3), .val (.int p4), .val (.int p5), .val (.int p6)] [(.int p2), (.ref a1)])) rfl rfl (hb hby d_prog_30_method_1_code_11)
  have f14 : Exa Z h13 a1 "dev/sluice/bench/Workload" := f5.wr W13
  have f15 : Fld Z h13 a1 "dev/sluice/bench/Workload" "producers" "I" (.int p1) := f12.other W13 (Or.inr (slot_ne (Or.inr (hw _ (List.mem_of_getElem? (i := 21) rfl))) (Or.inr (hw _ (List.mem_of_getElem? (i := 23) rfl))) (by decide) (t := .int) (t' := .int) (by decide) (by decide)))
  have f17 : Fld Z h13 a1 "dev/sluice/bench/Workload" "batchSize" "I" (.int 0) := f8.other W13 (Or.inr (slot_ne (Or.inr (hw _ (List.mem_of_getElem? (i := 25) rfl))) (Or.inr (hw _ (List.mem_of_getElem? (i := 23) rfl))) (by decide) (t := .int) (t' := .int) (by decide) (by decide)))
  have f18 : Fld Z h13 a1 "dev/sluice/bench/Workload" "writers" "I" (.int 0) := f9.other W13 (Or.inr (slot_ne (Or.inr (hw _ (List.mem_of_getElem? (i := 27) rfl))) (Or.inr (hw _ (List.mem_of_getElem? (i := 23) rfl))) (by decide) (t := .int) (t' := .int) (by decide) (by decide)))
  have f19 : Fld Z h13 a1 "dev/sluice/bench/Workload" "writerCostMicros" "I" (.int 0) := f10.other W13 (Or.inr (slot_ne (Or.inr (hw _ (List.mem_of_getElem? (i := 29) rfl))) (Or.inr (hw _ (List.mem_of_getElem? (i := 23) rfl))) (by decide) (t := .int) (t' := .int) (by decide) (by decide)))
  have f20 : Fld Z h13 a1 "dev/sluice/bench/Workload" "lingerMillis" "I" (.int 0) := f11.other W13 (Or.inr (slot_ne (Or.inr (hw _ (List.mem_of_getElem? (i := 31) rfl))) (Or.inr (hw _ (List.mem_of_getElem? (i := 23) rfl))) (by decide) (t := .int) (t' := .int) (by decide) (by decide)))
  have f21 : Fld Z h13 a1 "dev/sluice/bench/Workload" "items" "I" (.int p2) := f7.same W13
  have N13 := Fr.snoc X13 N4 g1
  have Z13 : n0 ≤ h13.size := Nat.le_trans Z4 (Keep.of_wr W13).1
  have K13 : Keep h0 h13 [a1] := K4.wr W13 (Or.inl (List.mem_of_getElem? (i := 0) rfl))
  obtain ⟨T22, h22, X22, e22, W22, st22⟩ := putF X13 hx hZ hown (host := "") (Or.inl (hw _ (List.mem_of_getElem? (i := 24) rfl))) Via.refl e13 f17 f14 (Or.inr ⟨(hw _ (List.mem_of_getElem? (i := 25) rfl)), rfl, hnm⟩) (hw _ (List.mem_of_getElem? (i := 7) rfl)) (ty := .int) (by decide) rfl rfl (g := (mkF m 16 #[.val (.ref a1), .val (.int p1), .val (.int p2), .val (.int p3), .val (.int p4), .val (.int p5), .val (.int p6)] [(.int p3), (.ref a1)])) rfl rfl (hb hby d_prog_30_method_1_code_16)
  have f23 : Exa Z h22 a1 "dev/sluice/bench/Workload" := f14.wr W22
  have f24 : Fld Z h22 a1 "dev/sluice/bench/Workload" "producers" "I" (.int p1) := f15.other W22 (Or.inr (slot_ne (Or.inr (hw _ (List.mem_of_getElem? (i := 21) rfl))) (Or.inr (hw _ (List.mem_of_getElem? (i := 25) rfl))) (by decide) (t := .int) (t' := .int) (by decide) (by decide)))
  have f25 : Fld Z h22 a1 "dev/sluice/bench/Workload" "items" "I" (.int p2) := f21.other W22 (Or.inr (slot_ne (Or.inr (hw _ (List.mem_of_getElem? (i := 23) rfl))) (Or.inr (hw _ (List.mem_of_getElem? (i := 25) rfl))) (by decide) (t := .int) (t' := .int) (by decide) (by decide)))
  have f27 : Fld Z h22 a1 "dev/sluice/bench/Workload" "writers" "I" (.int 0) := f18.other W22 (Or.inr (slot_ne (Or.inr (hw _ (List.mem_of_getElem? (i := 27) rfl))) (Or.inr (hw _ (List.mem_of_getElem? (i := 25) rfl))) (by decide) (t := .int) (t' := .int) (by decide) (by decide)))
  have f28 : Fld Z h22 a1 "dev/sluice/bench/Workload" "writerCostMicros" "I" (.int 0) := f19.other W22 (Or.inr (slot_ne (Or.inr (hw _ (List.mem_of_getElem? (i := 29) rfl))) (Or.inr (hw _ (List.mem_of_getElem? (i := 25) rfl))) (by decide) (t := .int) (t' := .int) (by decide) (by decide)))
  have f29 : Fld Z h22 a1 "dev/sluice/bench/Workload" "lingerMillis" "I" (.int 0) := f20.other W22 (Or.inr (slot_ne (Or.inr (hw _ (List.mem_of_getElem? (i := 31) rfl))) (Or.inr (hw _ (List.mem_of_getElem? (i := 25) rfl))) (by decide) (t := .int) (t' := .int) (by decide) (by decide)))
  have f30 : Fld Z h22 a1 "dev/sluice/bench/Workload" "batchSize" "I" (.int p3) := f17.same W22
  have N22 := Fr.snoc X22 N13 g1
  have Z22 : n0 ≤ h22.size := Nat.le_trans Z13 (Keep.of_wr W22).1
  have K22 : Keep h0 h22 [a1] := K13.wr W22 (Or.inl (List.mem_of_getElem? (i := 0) rfl))
  obtain ⟨T31, h31, X31, e31, W31, st31⟩ := putF X22 hx hZ hown (host := "") (Or.inl (hw _ (List.mem_of_getElem? (i := 26) rfl))) Via.refl e22 f27 f23 (Or.inr ⟨(hw _ (List.mem_of_getElem? (i := 27) rfl)), rfl, hnm⟩) (hw _ (List.mem_of_getElem? (i := 7) rfl)) (ty := .int) (by decide) rfl rfl (g := (mkF m 22 #[.val (.ref a1), .val (.int p1), .val (.int p2), .val (.int p3), .val (.int p4), .val (.int p5), .val (.int p6)] [(.int p4), (.ref a1)])) rfl rfl (hb hby d_prog_30_method_1_code_22)
  have f32 : Exa Z h31 a1 "dev/sluice/bench/Workload" := f23.wr W31
  have f33 : Fld Z h31 a1 "dev/sluice/bench/Workload" "producers" "I" (.int p1) := f24.other W31 (Or.inr (slot_ne (Or.inr (hw _ (List.mem_of_getElem? (i := 21) rfl))) (Or.inr (hw _ (List.mem_of_getElem? (i := 27) rfl))) (by decide) (t := .int) (t' := .int) (by decide) (by decide)))
  have f34 : Fld Z h31 a1 "dev/sluice/bench/Workload" "items" "I" (.int p2) := f25.other W31 (Or.inr (slot_ne (Or.inr (hw _ (List.mem_of_getElem? (i := 23) rfl))) (Or.inr (hw _ (List.mem_of_getElem? (i := 27) rfl))) (by decide) (t := .int) (t' := .int) (by decide) (by decide)))
  have f35 : Fld Z h31 a1 "dev/sluice/bench/Workload" "batchSize" "I" (.int p3) := f30.other W31 (Or.inr (slot_ne (Or.inr (hw _ (List.mem_of_getElem? (i := 25) rfl))) (Or.inr (hw _ (List.mem_of_getElem? (i := 27) rfl))) (by decide) (t := .int) (t' := .int) (by decide) (by decide)))
  have f37 : Fld Z h31 a1 "dev/sluice/bench/Workload" "writerCostMicros" "I" (.int 0) := f28.other W31 (Or.inr (slot_ne (Or.inr (hw _ (List.mem_of_getElem? (i := 29) rfl))) (Or.inr (hw _ (List.mem_of_getElem? (i := 27) rfl))) (by decide) (t := .int) (t' := .int) (by decide) (by decide)))
  have f38 : Fld Z h31 a1 "dev/sluice/bench/Workload" "lingerMillis" "I" (.int 0) := f29.other W31 (Or.inr (slot_ne (Or.inr (hw _ (List.mem_of_getElem? (i := 31) rfl))) (Or.inr (hw _ (List.mem_of_getElem? (i := 27) rfl))) (by decide) (t := .int) (t' := .int) (by decide) (by decide)))
  have f39 : Fld Z h31 a1 "dev/sluice/bench/Workload" "writers" "I" (.int p4) := f27.same W31
  have N31 := Fr.snoc X31 N22 g1
  have Z31 : n0 ≤ h31.size := Nat.le_trans Z22 (Keep.of_wr W31).1
  have K31 : Keep h0 h31 [a1] := K22.wr W31 (Or.inl (List.mem_of_getElem? (i := 0) rfl))
  obtain ⟨T40, h40, X40, e40, W40, st40⟩ := putF X31 hx hZ hown (host := "") (Or.inl (hw _ (List.mem_of_getElem? (i := 28) rfl))) Via.refl e31 f37 f32 (Or.inr ⟨(hw _ (List.mem_of_getElem? (i := 29) rfl)), rfl, hnm⟩) (hw _ (List.mem_of_getElem? (i := 7) rfl)) (ty := .int) (by decide) rfl rfl (g := (mkF m 28 #[.val (.ref a1), .val (.int p1), .val (.int p2), .val (.int p3), .val (.int p4), .val (.int p5), .val (.int p6)] [(.int p5), (.ref a1)])) rfl rfl (hb hby d_prog_30_method_1_code_28)
  have f41 : Exa Z h40 a1 "dev/sluice/bench/Workload" := f32.wr W40
  have f42 : Fld Z h40 a1 "dev/sluice/bench/Workload" "producers" "I" (.int p1) := f33.other W40 (Or.inr (slot_ne (Or.inr (hw _ (List.mem_of_getElem? (i := 21) rfl))) (Or.inr (hw _ (List.mem_of_getElem? (i := 29) rfl))) (by decide) (t := .int) (t' := .int) (by decide) (by decide)))
  have f43 : Fld Z h40 a1 "dev/sluice/bench/Workload" "items" "I" (.int p2) := f34.other W40 (Or.inr (slot_ne (Or.inr (hw _ (List.mem_of_getElem? (i := 23) rfl))) (Or.inr (hw _ (List.mem_of_getElem? (i := 29) rfl))) (by decide) (t := .int) (t' := .int) (by decide) (by decide)))
  have f44 : Fld Z h40 a1 "dev/sluice/bench/Workload" "batchSize" "I" (.int p3) := f35.other W40 (Or.inr (slot_ne (Or.inr (hw _ (List.mem_of_getElem? (i := 25) rfl))) (Or.inr (hw _ (List.mem_of_getElem? (i := 29) rfl))) (by decide) (t := .int) (t' := .int) (by decide) (by decide)))
  have f45 : Fld Z h40 a1 "dev/sluice/bench/Workload" "writers" "I" (.int p4) := f39.other W40 (Or.inr (slot_ne (Or.inr (hw _ (List.mem_of_getElem? (i := 27) rfl))) (Or.inr (hw _ (List.mem_of_getElem? (i := 29) rfl))) (by decide) (t := .int) (t' := .int) (by decide) (by decide)))
  have f47 : Fld Z h40 a1 "dev/sluice/bench/Workload" "lingerMillis" "I" (.int 0) := f38.other W40 (Or.inr (slot_ne (Or.inr (hw _ (List.mem_of_getElem? (i := 31) rfl))) (Or.inr (hw _ (List.mem_of_getElem? (i := 29) rfl))) (by decide) (t := .int) (t' := .int) (by decide) (by decide)))
  have f48 : Fld Z h40 a1 "dev/sluice/bench/Workload" "writerCostMicros" "I" (.int p5) := f37.same W40
  have N40 := Fr.snoc X40 N31 g1
  have Z40 : n0 ≤ h40.size := Nat.le_trans Z31 (Keep.of_wr W40).1
  have K40 : Keep h0 h40 [a1] := K31.wr W40 (Or.inl (List.mem_of_getElem? (i := 0) rfl))
  obtain ⟨T49, h49, X49, e49, W49, st49⟩ := putF X40 hx hZ hown (host := "") (Or.inl (hw _ (List.mem_of_getElem? (i := 30) rfl))) Via.refl e40 f47 f41 (Or.inr ⟨(hw _ (List.mem_of_getElem? (i := 31) rfl)), rfl, hnm⟩) (hw _ (List.mem_of_getElem? (i := 7) rfl)) (ty := .int) (by decide) rfl rfl (g := (mkF m 34 #[.val (.ref a1), .val (.int p1), .val (.int p2), .val (.int p3), .val (.int p4), .val (.int p5), .val (.int p6)] [(.int p6), (.ref a1)])) rfl rfl (hb hby d_prog_30_method_1_code_34)
  have f50 : Exa Z h49 a1 "dev/sluice/bench/Workload" := f41.wr W49
  have f51 : Fld Z h49 a1 "dev/sluice/bench/Workload" "producers" "I" (.int p1) := f42.other W49 (Or.inr (slot_ne (Or.inr (hw _ (List.mem_of_getElem? (i := 21) rfl))) (Or.inr (hw _ (List.mem_of_getElem? (i := 31) rfl))) (by decide) (t := .int) (t' := .int) (by decide) (by decide)))
  have f52 : Fld Z h49 a1 "dev/sluice/bench/Workload" "items" "I" (.int p2) := f43.other W49 (Or.inr (slot_ne (Or.inr (hw _ (List.mem_of_getElem? (i := 23) rfl))) (Or.inr (hw _ (List.mem_of_getElem? (i := 31) rfl))) (by decide) (t := .int) (t' := .int) (by decide) (by decide)))
  have f53 : Fld Z h49 a1 "dev/sluice/bench/Workload" "batchSize" "I" (.int p3) := f44.other W49 (Or.inr (slot_ne (Or.inr (hw _ (List.mem_of_getElem? (i := 25) rfl))) (Or.inr (hw _ (List.mem_of_getElem? (i := 31) rfl))) (by decide) (t := .int) (t' := .int) (by decide) (by decide)))
  have f54 : Fld Z h49 a1 "dev/sluice/bench/Workload" "writers" "I" (.int p4) := f45.other W49 (Or.inr (slot_ne (Or.inr (hw _ (List.mem_of_getElem? (i := 27) rfl))) (Or.inr (hw _ (List.mem_of_getElem? (i := 31) rfl))) (by decide) (t := .int) (t' := .int) (by decide) (by decide)))
  have f55 : Fld Z h49 a1 "dev/sluice/bench/Workload" "writerCostMicros" "I" (.int p5) := f48.other W49 (Or.inr (slot_ne (Or.inr (hw _ (List.mem_of_getElem? (i := 29) rfl))) (Or.inr (hw _ (List.mem_of_getElem? (i := 31) rfl))) (by decide) (t := .int) (t' := .int) (by decide) (by decide)))
  have f57 : Fld Z h49 a1 "dev/sluice/bench/Workload" "lingerMillis" "I" (.int p6) := f47.same W49
  have N49 := Fr.snoc X49 N40 g1
  have Z49 : n0 ≤ h49.size := Nat.le_trans Z40 (Keep.of_wr W49).1
  have K49 : Keep h0 h49 [a1] := K40.wr W49 (Or.inl (List.mem_of_getElem? (i := 0) rfl))
  obtain ⟨fs, hr, hrun, hended, hW, hsame⟩ := X49.leave (v := none) (fun _ => rfl)
  refine ⟨_, _, pre0 _ ?_, hrun, hended, _, _, rfl, ?_, ⟨_, rfl⟩, hW, hsame.mono (by decide) (by decide)⟩
  · refine own_aloadN X0.here hx (hb hby d_prog_30_method_1_code_0) rfl rfl ?_
    refine st3.trans ?_
    show Steps p.tables e below (T3.setTop (mkF m 4 #[.val (.ref a1), .val (.int p1), .val (.int p2), .val (.int p3), .val (.int p4), .val (.int p5), .val (.int p6)] [])) _
    refine own_aloadN X3.here hx (hb hby d_prog_30_method_1_code_4) rfl rfl ?_
    refine own_iloadN X3.here hx (hb hby d_prog_30_method_1_code_5) rfl ?_
    refine st4 _ ?_
    show Steps p.tables e below (T4.setTop (mkF m 9 #[.val (.ref a1), .val (.int p1), .val (.int p2), .val (.int p3), .val (.int p4), .val (.int p5), .val (.int p6)] [])) _
    refine own_aloadN X4.here hx (hb hby d_prog_30_method_1_code_9) rfl rfl ?_
    refine own_iloadN X4.here hx (hb hby d_prog_30_method_1_code_10) rfl ?_
    refine st13 _ ?_
    show Steps p.tables e below (T13.setTop (mkF m 14 #[.val (.ref a1), .val (.int p1), .val (.int p2), .val (.int p3), .val (.int p4), .val (.int p5), .val (.int p6)] [])) _
    refine own_aloadN X13.here hx (hb hby d_prog_30_method_1_code_14) rfl rfl ?_
    refine own_iloadN X13.here hx (hb hby d_prog_30_method_1_code_15) rfl ?_
    refine st22 _ ?_
    show Steps p.tables e below (T22.setTop (mkF m 19 #[.val (.ref a1), .val (.int p1), .val (.int p2), .val (.int p3), .val (.int p4), .val (.int p5), .val (.int p6)] [])) _
    refine own_aloadN X22.here hx (hb hby d_prog_30_method_1_code_19) rfl rfl ?_
    refine own_iload X22.here hx (hb hby d_prog_30_method_1_code_20) rfl ?_
    refine st31 _ ?_
    show Steps p.tables e below (T31.setTop (mkF m 25 #[.val (.ref a1), .val (.int p1), .val (.int p2), .val (.int p3), .val (.int p4), .val (.int p5), .val (.int p6)] [])) _
    refine own_aloadN X31.here hx (hb hby d_prog_30_method_1_code_25) rfl rfl ?_
    refine own_iload X31.here hx (hb hby d_prog_30_method_1_code_26) rfl ?_
    refine st40 _ ?_
    show Steps p.tables e below (T40.setTop (mkF m 31 #[.val (.ref a1), .val (.int p1), .val (.int p2), .val (.int p3), .val (.int p4), .val (.int p5), .val (.int p6)] [])) _
    refine own_aloadN X40.here hx (hb hby d_prog_30_method_1_code_31) rfl rfl ?_
    refine own_iload X40.here hx (hb hby d_prog_30_method_1_code_32) rfl ?_
    refine st49 _ ?_
    show Steps p.tables e below (T49.setTop (mkF m 37 #[.val (.ref a1), .val (.int p1), .val (.int p2), .val (.int p3), .val (.int p4), .val (.int p5), .val (.int p6)] [])) _
    exact X49.returnOut hx Bd.returns (hb hby d_prog_30_method_1_code_37) hr
  · show Q2 Z a1 p1 p2 p3 p4 p5 p6 h0 n0 _ T49.heap _
    rw [e49]
    exact ⟨rfl, N49, K49, f50, f53, f54, f55⟩
theorem ef_rm3 (m : MethodId) (x0 : Addr) : entryFrame m #[(.ref x0)] 1 = mkF m 0 #[.val (.ref x0)] [] := by first | (simp [entryFrame, mkF, argsToLocals, Value.category]; done) | rfl
def Q3 (Z : State) (a1 : Addr) (kb : Int32) (kw : Int32) (kc : Int32) (h0 : Heap) (n0 : Nat) (v : Option Value) (h : Heap) (L : List Loc) : Prop := v = some (.double (FP.ddiv (FP.l2d ((kw.toInt64 * kb.toInt64) * (1000000 : Int64))) (FP.l2d kc.toInt64))) ∧ Fr n0 L ∧ h = h0
theorem d_prog_30_method_4_code_0 : decode prog_30_method_4_code 0 = .ok (.aload_n 0, 1) := by decide +kernel
theorem d_prog_30_method_4_code_1 : decode prog_30_method_4_code 1 = .ok (.getfield 19, 3) := by decide +kernel
theorem d_prog_30_method_4_code_4 : decode prog_30_method_4_code 4 = .ok (.i2d, 1) := by decide +kernel
theorem d_prog_30_method_4_code_5 : decode prog_30_method_4_code 5 = .ok (.aload_n 0, 1) := by decide +kernel
theorem d_prog_30_method_4_code_6 : decode prog_30_method_4_code 6 = .ok (.getfield 16, 3) := by decide +kernel
theorem d_prog_30_method_4_code_9 : decode prog_30_method_4_code 9 = .ok (.i2d, 1) := by decide +kernel
theorem d_prog_30_method_4_code_10 : decode prog_30_method_4_code 10 = .ok (.dmul, 1) := by decide +kernel
theorem d_prog_30_method_4_code_11 : decode prog_30_method_4_code 11 = .ok (.ldc2_w 30, 3) := by decide +kernel
theorem d_prog_30_method_4_code_14 : decode prog_30_method_4_code 14 = .ok (.dmul, 1) := by decide +kernel
theorem d_prog_30_method_4_code_15 : decode prog_30_method_4_code 15 = .ok (.aload_n 0, 1) := by decide +kernel
theorem d_prog_30_method_4_code_16 : decode prog_30_method_4_code 16 = .ok (.getfield 22, 3) := by decide +kernel
theorem d_prog_30_method_4_code_19 : decode prog_30_method_4_code 19 = .ok (.i2d, 1) := by decide +kernel
theorem d_prog_30_method_4_code_20 : decode prog_30_method_4_code 20 = .ok (.ddiv, 1) := by decide +kernel
theorem d_prog_30_method_4_code_21 : decode prog_30_method_4_code 21 = .ok (.dreturn, 1) := by decide +kernel
set_option maxRecDepth 65536 in
set_option maxHeartbeats 40000000 in
theorem rm3 (l : Launch) (Z : State) (a0 : Array Value) (hw : ∀ d ∈ tables_1, d.before a0 Z = true) (ws : List Jvm.Cond) (a1 : Addr) (kb : Int32) (kw : Int32) (kc : Int32) (h0 : Heap) (n0 : Nat) (Z0 : n0 ≤ h0.size) (F_batchSize : Fld Z h0 a1 "dev/sluice/bench/Workload" "batchSize" "I" (.int kb)) (F_writers : Fld Z h0 a1 "dev/sluice/bench/Workload" "writers" "I" (.int kw)) (F_writerCostMicros : Fld Z h0 a1 "dev/sluice/bench/Workload" "writerCostMicros" "I" (.int kc)) (hw1 : 1 ≤ kw.toInt) (hw2 : kw.toInt ≤ 65536) (hb1 : 1 ≤ kb.toInt) (hb2 : kb.toInt ≤ 65536) (hc1 : 1 ≤ kc.toInt) :
    MetFree l (⟨"dev/sluice/bench/Workload", "boundItemsPerSecond", "()D"⟩ : MethodName) (head1 (Jvm.Cond.code (⟨"dev/sluice/bench/Workload", "boundItemsPerSecond", "()D"⟩ : MethodName) prog_30_method_4_code 1 (some .double) :: ws) ({ frames := 0, cells := 0, slots := 0, locals := 0 } : Room)) (fun a U => a = #[(.ref a1)] ∧ Z.Warmed39 U.vm ∧ U.heap = h0) (fun _ _ _ _ _ => True) (fun _ U o U' => ∃ v L, o = .returned v ∧ Q3 Z a1 kb kw kc h0 n0 v U'.heap L ∧ FrameEnd U o U' L ({ frames := 0, cells := 0, slots := 0, locals := 0 } : Room).cells ({ frames := 0, cells := 0, slots := 0, locals := 0 } : Room).slots) := by
  refine MetFree.of_bodySF (plainFor_of_name pn_dev_sluice_bench_Workload) hisR ?_
  intro p e s m args below meth c s₁ Bd hml0 hP hK
  obtain ⟨rfl, hZ, hh⟩ := hP
  have hx := Bd.exec
  have hby := Bd.bytes
  have hml : c.maxLocals = 1 := hml0
  have hown : s.vm.findClass "dev/sluice/bench/Workload" = some m.cls := findClass_of_methodNamed Bd.named
  have hnm := (name_of_methodNamed Bd.named Bd.method).1
  have X0 : Stand p l e ({ frames := 0, cells := 0, slots := 0, locals := 0 } : Room) s m #[(.ref a1)] below meth c s₁ [] 0 0 := Stand.of_body Bd
  have e0 : s₁.heap = h0 := by rw [← hh, Bd.state]; rfl
  have N0 := Fr.nil n0
  have pre0 : ∀ t, Steps p.tables e below (s₁.setTop (mkF m 0 #[.val (.ref a1)] [])) t → Steps p.tables e below (s₁.setTop (entryFrame m #[(.ref a1)] 1)) t := fun t k => castTop (ef_rm3 m a1) k
  obtain ⟨T58, X58, e58, st58⟩ := getF X0 hx hZ hown (host := "") (Or.inl (hw _ (List.mem_of_getElem? (i := 26) rfl))) Via.refl e0 F_writers (g := (mkF m 1 #[.val (.ref a1)] [(.ref a1)])) rfl rfl (hb hby d_prog_30_method_4_code_1)
  obtain ⟨T59, X59, e59, st59⟩ := getF X58 hx hZ hown (host := "") (Or.inl (hw _ (List.mem_of_getElem? (i := 24) rfl))) Via.refl e58 F_batchSize (g := (mkF m 6 #[.val (.ref a1)] [(.ref a1), (.double (FP.l2d kw.toInt64))])) rfl rfl (hb hby d_prog_30_method_4_code_6)
  obtain ⟨T60, X60, e60, st60⟩ := getF X59 hx hZ hown (host := "") (Or.inl (hw _ (List.mem_of_getElem? (i := 28) rfl))) Via.refl e59 F_writerCostMicros (g := (mkF m 16 #[.val (.ref a1)] [(.ref a1), (.double (FP.l2d ((kw.toInt64 * kb.toInt64) * (1000000 : Int64))))])) rfl rfl (hb hby d_prog_30_method_4_code_16)
  obtain ⟨fs, hr, hrun, hended, hW, hsame⟩ := X60.leave (v := some (.double (FP.ddiv (FP.l2d ((kw.toInt64 * kb.toInt64) * (1000000 : Int64))) (FP.l2d kc.toInt64)))) (fun h => by rw [Bd.returns] at h; cases h)
  refine ⟨_, _, pre0 _ ?_, hrun, hended, _, _, rfl, ?_, ⟨_, rfl⟩, hW, hsame.mono (by decide) (by decide)⟩
  · refine own_aloadN X0.here hx (hb hby d_prog_30_method_4_code_0) rfl rfl ?_
    refine st58 _ ?_
    show Steps p.tables e below (T58.setTop (mkF m 4 #[.val (.ref a1)] [(.int kw)])) _
    refine XS.i2dS X58.here hx rfl (hb hby d_prog_30_method_4_code_4) rfl (i2d_w _) ?_
    show Steps p.tables e below (T58.setTop (mkF m 5 #[.val (.ref a1)] [(.double (FP.l2d kw.toInt64))])) _
    refine own_aloadN X58.here hx (hb hby d_prog_30_method_4_code_5) rfl rfl ?_
    refine st59 _ ?_
    show Steps p.tables e below (T59.setTop (mkF m 9 #[.val (.ref a1)] [(.int kb), (.double (FP.l2d kw.toInt64))])) _
    refine XS.i2dS X59.here hx rfl (hb hby d_prog_30_method_4_code_9) rfl (i2d_w _) ?_
    show Steps p.tables e below (T59.setTop (mkF m 10 #[.val (.ref a1)] [(.double (FP.l2d kb.toInt64)), (.double (FP.l2d kw.toInt64))])) _
    refine XS.dmulS X59.here hx rfl (hb hby d_prog_30_method_4_code_10) rfl (nn_w (own_m1 kw kb hw1 hw2 hb1 hb2).1) (own_m1 kw kb hw1 hw2 hb1 hb2).1 ?_
    show Steps p.tables e below (T59.setTop (mkF m 11 #[.val (.ref a1)] [(.double (FP.l2d (kw.toInt64 * kb.toInt64)))])) _
    refine X59.ldc2DoubleC hx hown (mvT hZ (hw _ (List.mem_of_getElem? (i := 37) rfl))) (g := (mkF m 11 #[.val (.ref a1)] [(.double (FP.l2d (kw.toInt64 * kb.toInt64)))])) rfl (hb hby d_prog_30_method_4_code_11) _ ?_
    show Steps p.tables e below (T59.setTop (mkF m 14 #[.val (.ref a1)] [(.double (4696837146684686336 : UInt64)), (.double (FP.l2d (kw.toInt64 * kb.toInt64)))])) _
    refine XS.dmulS X59.here hx rfl (hb hby d_prog_30_method_4_code_14) rfl (nn_w (own_m2 _ (own_m1 kw kb hw1 hw2 hb1 hb2).2.1 (own_m1 kw kb hw1 hw2 hb1 hb2).2.2)) (own_m2 _ (own_m1 kw kb hw1 hw2 hb1 hb2).2.1 (own_m1 kw kb hw1 hw2 hb1 hb2).2.2) ?_
    show Steps p.tables e below (T59.setTop (mkF m 15 #[.val (.ref a1)] [(.double (FP.l2d ((kw.toInt64 * kb.toInt64) * (1000000 : Int64))))])) _
    refine own_aloadN X59.here hx (hb hby d_prog_30_method_4_code_15) rfl rfl ?_
    refine st60 _ ?_
    show Steps p.tables e below (T60.setTop (mkF m 19 #[.val (.ref a1)] [(.int kc), (.double (FP.l2d ((kw.toInt64 * kb.toInt64) * (1000000 : Int64))))])) _
    refine XS.i2dS X60.here hx rfl (hb hby d_prog_30_method_4_code_19) rfl (i2d_w _) ?_
    show Steps p.tables e below (T60.setTop (mkF m 20 #[.val (.ref a1)] [(.double (FP.l2d kc.toInt64)), (.double (FP.l2d ((kw.toInt64 * kb.toInt64) * (1000000 : Int64))))])) _
    refine XS.ddivS X60.here hx rfl (hb hby d_prog_30_method_4_code_20) rfl (own_dn _ _ hc1) rfl ?_
    show Steps p.tables e below (T60.setTop (mkF m 21 #[.val (.ref a1)] [(.double (FP.ddiv (FP.l2d ((kw.toInt64 * kb.toInt64) * (1000000 : Int64))) (FP.l2d kc.toInt64)))])) _
    jvm_step X60.here [X60.here.top, hx, (hb hby d_prog_30_method_4_code_21), X60.method', Bd.returns, narrow]
    first | (intro acts; rw [hr _ acts rfl rfl rfl]) | rw [hr _ _ rfl rfl rfl]
    exact Steps.refl _
  · show Q3 Z a1 kb kw kc h0 n0 _ T60.heap _
    rw [e60]
    exact ⟨rfl, N0, rfl⟩
theorem ef_rm0 (m : MethodId) (x0 : Int32) (x1 : Int32) (x2 : Int32) (x3 : Int32) (x4 : Int32) (x5 : Int32) : entryFrame m #[(.int x0), (.int x1), (.int x2), (.int x3), (.int x4), (.int x5)] maxLocals = mkF m 0 #[.val (.int x0), .val (.int x1), .val (.int x2), .val (.int x3), .val (.int x4), .val (.int x5), .unset, .unset, .unset, .unset, .unset, .unset, .unset, .unset, .unset, .unset] [] := by first | (simp [entryFrame, mkF, argsToLocals, Value.category, maxLocals]; done) | rfl
theorem pn_dev_sluice_bench_WorkloadBoundItemsPerSecondPinLaw : plainName "dev/sluice/bench/WorkloadBoundItemsPerSecondPinLaw" = true := by first | (simp [plainName, overriddenIn]; done) | decide +kernel
def Q0 (Z : State) (p0 : Int32) (p1 : Int32) (p2 : Int32) (p3 : Int32) (p4 : Int32) (p5 : Int32) (h0 : Heap) (n0 : Nat) (v : Option Value) (h : Heap) (L : List Loc) : Prop := v = some (.int (1 : Int32)) ∧ Fr n0 L
theorem pd_28II29I : parseMethodDescriptor "(II)I" = some ⟨[.int, .int], some .int⟩ := by decide +kernel
theorem pd_28IIIIII29V : parseMethodDescriptor "(IIIIII)V" = some ⟨[.int, .int, .int, .int, .int, .int], none⟩ := by decide +kernel
theorem pd_2829D : parseMethodDescriptor "()D" = some ⟨[], some .double⟩ := by decide +kernel
set_option maxRecDepth 65536 in
set_option maxHeartbeats 40000000 in
theorem rm0 (l : Launch) (Z : State) (a0 : Array Value) (hw : ∀ d ∈ tables_1, d.before a0 Z = true) (ws : List Jvm.Cond) (p0 : Int32) (p1 : Int32) (p2 : Int32) (p3 : Int32) (p4 : Int32) (p5 : Int32) (h0 : Heap) (n0 : Nat) (Z0 : n0 ≤ h0.size) :
    MetFree l x (head1 (Jvm.Cond.code x code maxLocals ret :: ws) room_1) (fun a U => a = #[(.int p0), (.int p1), (.int p2), (.int p3), (.int p4), (.int p5)] ∧ Z.Warmed39 U.vm ∧ U.heap = h0) (fun _ _ _ _ _ => True) (fun _ U o U' => ∃ v L, o = .returned v ∧ Q0 Z p0 p1 p2 p3 p4 p5 h0 n0 v U'.heap L ∧ FrameEnd U o U' L 16 128) := by
  refine MetFree.of_bodySF (plainFor_of_name pn_dev_sluice_bench_WorkloadBoundItemsPerSecondPinLaw) hisR ?_
  intro p e s m args below meth c s₁ Bd hml0 hP hK
  obtain ⟨rfl, hZ, hh⟩ := hP
  have hx := Bd.exec
  have hby := Bd.bytes
  have hml : c.maxLocals = 16 := hml0
  have hown : s.vm.findClass "dev/sluice/bench/WorkloadBoundItemsPerSecondPinLaw" = some m.cls := findClass_of_methodNamed Bd.named
  have hnm := (name_of_methodNamed Bd.named Bd.method).1
  have X0 : Stand p l e room_1 s m #[(.int p0), (.int p1), (.int p2), (.int p3), (.int p4), (.int p5)] below meth c s₁ [] 0 0 := Stand.of_body Bd
  have e0 : s₁.heap = h0 := by rw [← hh, Bd.state]; rfl
  have N0 := Fr.nil n0
  have pre0 : ∀ t, Steps p.tables e below (s₁.setTop (mkF m 0 #[.val (.int p0), .val (.int p1), .val (.int p2), .val (.int p3), .val (.int p4), .val (.int p5), .unset, .unset, .unset, .unset, .unset, .unset, .unset, .unset, .unset, .unset] [])) t → Steps p.tables e below (s₁.setTop (entryFrame m #[(.int p0), (.int p1), (.int p2), (.int p3), (.int p4), (.int p5)] maxLocals)) t := fun t k => castTop (ef_rm0 m p0 p1 p2 p3 p4 p5) k
  obtain ⟨_, _, ⟨T61, L61, k61, n61⟩, -, X61, ⟨Lc61, hQ61, l61, y61, z61⟩, st61⟩ := Jvm.LawKit.callS X0 hx (y := (⟨"java/lang/Math", "max", "(II)I"⟩ : MethodName)) hown (mvT hZ (hw _ (List.mem_of_getElem? (i := 2) rfl))) (mvT hZ (hw _ (List.mem_of_getElem? (i := 3) rfl))) (mvT hZ (hw _ (List.mem_of_getElem? (i := 4) rfl))) (mvT hZ (hw _ (List.mem_of_getElem? (i := 5) rfl))) (by decide) (backOf (W := 0) (rm5 l Z a0 hw [] (1 : Int32) (p4 &&& (2147483647 : Int32)) h0 n0 Z0) hZ (hw _ (List.mem_of_getElem? (i := 5) rfl)) (hw _ (List.mem_of_getElem? (i := 4) rfl)) (by decide) (by decide)) (g := (mkF m 22 #[.val (.int p0), .val (.int p1), .val (.int p2), .val (.int p3), .val (.int p4), .val (.int p5), .val (.int ((p3 &&& (65535 : Int32)) + (1 : Int32))), .val (.int ((p2 &&& (65535 : Int32)) + (1 : Int32))), .unset, .unset, .unset, .unset, .unset, .unset, .unset, .unset] [(.int (p4 &&& (2147483647 : Int32))), (.int 1)])) rfl (by rw [hml]; rfl) (argsL := [(.int 1), (.int (p4 &&& (2147483647 : Int32)))]) (rest := []) (lenOf pd_28II29I rfl) rfl (by show 2 * 0 + _ ≤ _; exact Nat.le_of_eq rfl) (hb hby at_22) (fun _ _ => ⟨rfl, e0, (by decide : 0 + 0 ≤ _), (by decide : 0 + 0 ≤ _)⟩)
  dsimp only [Pt.U, Pt.locs, Pt.cells, Pt.slots] at X61 l61 y61 z61 st61 hQ61
  subst l61 y61 z61
  obtain ⟨rfl, N61q, e61⟩ := hQ61
  have N61 := Fr.app N0 N61q
  obtain ⟨T62, h62, X62, e62, E62, A62, D62, -, st62⟩ := newO X61 hx hZ hown (hw _ (List.mem_of_getElem? (i := 6) rfl)) (hw _ (List.mem_of_getElem? (i := 7) rfl)) (hw _ (List.mem_of_getElem? (i := 8) rfl)) e61 (g := (mkF m 27 #[.val (.int p0), .val (.int p1), .val (.int p2), .val (.int p3), .val (.int p4), .val (.int p5), .val (.int ((p3 &&& (65535 : Int32)) + (1 : Int32))), .val (.int ((p2 &&& (65535 : Int32)) + (1 : Int32))), .val (.int (own_max (1 : Int32) (p4 &&& (2147483647 : Int32)))), .unset, .unset, .unset, .unset, .unset, .unset, .unset] [])) rfl (hb hby at_27) (by decide) (by decide)
  obtain ⟨b62, g62⟩ : ∃ z, z = h0.size := ⟨_, rfl⟩
  rw [← g62] at A62 D62 st62
  have E62' := E62
  have gg62 : n0 ≤ b62 := Nat.le_trans Z0 (Nat.le_of_eq g62.symm)
  have Z62 : n0 ≤ h62.size := Nat.le_trans Z0 E62.1
  have f63 : Fld Z h62 b62 "dev/sluice/bench/Workload" "producers" "I" (.int 0) := D62 (Or.inr (hw _ (List.mem_of_getElem? (i := 21) rfl))) (ty := .int) (by decide)
  have f64 : Fld Z h62 b62 "dev/sluice/bench/Workload" "items" "I" (.int 0) := D62 (Or.inr (hw _ (List.mem_of_getElem? (i := 23) rfl))) (ty := .int) (by decide)
  have f65 : Fld Z h62 b62 "dev/sluice/bench/Workload" "batchSize" "I" (.int 0) := D62 (Or.inr (hw _ (List.mem_of_getElem? (i := 25) rfl))) (ty := .int) (by decide)
  have f66 : Fld Z h62 b62 "dev/sluice/bench/Workload" "writers" "I" (.int 0) := D62 (Or.inr (hw _ (List.mem_of_getElem? (i := 27) rfl))) (ty := .int) (by decide)
  have f67 : Fld Z h62 b62 "dev/sluice/bench/Workload" "writerCostMicros" "I" (.int 0) := D62 (Or.inr (hw _ (List.mem_of_getElem? (i := 29) rfl))) (ty := .int) (by decide)
  have f68 : Fld Z h62 b62 "dev/sluice/bench/Workload" "lingerMillis" "I" (.int 0) := D62 (Or.inr (hw _ (List.mem_of_getElem? (i := 31) rfl))) (ty := .int) (by decide)
  obtain ⟨_, _, ⟨T69, L69, k69, n69⟩, -, X69, ⟨Lc69, hQ69, l69, y69, z69⟩, st69⟩ := X62.specialBack hx (y := (⟨"dev/sluice/bench/Workload", "<init>", "(IIIIII)V"⟩ : MethodName)) rfl hown (mvT hZ (hw _ (List.mem_of_getElem? (i := 9) rfl))) (mvT hZ (hw _ (List.mem_of_getElem? (i := 10) rfl))) (mvT hZ (hw _ (List.mem_of_getElem? (i := 11) rfl))) (by decide) (backOf (W := 1) (rm2 l Z a0 hw [] b62 p0 p1 ((p2 &&& (65535 : Int32)) + (1 : Int32)) ((p3 &&& (65535 : Int32)) + (1 : Int32)) (own_max (1 : Int32) (p4 &&& (2147483647 : Int32))) p5 h62 n0 Z62 A62 gg62 f63 f64 f65 f66 f67 f68) hZ (hw _ (List.mem_of_getElem? (i := 11) rfl)) (hw _ (List.mem_of_getElem? (i := 8) rfl)) (by decide) (by decide)) (g := (mkF m 41 #[.val (.int p0), .val (.int p1), .val (.int p2), .val (.int p3), .val (.int p4), .val (.int p5), .val (.int ((p3 &&& (65535 : Int32)) + (1 : Int32))), .val (.int ((p2 &&& (65535 : Int32)) + (1 : Int32))), .val (.int (own_max (1 : Int32) (p4 &&& (2147483647 : Int32)))), .unset, .unset, .unset, .unset, .unset, .unset, .unset] [(.int p5), (.int (own_max (1 : Int32) (p4 &&& (2147483647 : Int32)))), (.int ((p3 &&& (65535 : Int32)) + (1 : Int32))), (.int ((p2 &&& (65535 : Int32)) + (1 : Int32))), (.int p1), (.int p0), (.ref b62), (.ref b62)])) rfl (by rw [hml]; rfl) (Steps.refl _) (a := b62) (argsL := [(.int p0), (.int p1), (.int ((p2 &&& (65535 : Int32)) + (1 : Int32))), (.int ((p3 &&& (65535 : Int32)) + (1 : Int32))), (.int (own_max (1 : Int32) (p4 &&& (2147483647 : Int32)))), (.int p5)]) (rest := [(.ref b62)]) (lenOf pd_28IIIIII29V rfl) rfl (by show 2 * 0 + _ ≤ _; exact Nat.le_of_eq rfl) (hb hby at_41) (fun _ _ => ⟨rfl, e62, (by decide : 1 + 0 ≤ _), (by decide : 6 + 0 ≤ _)⟩)
  dsimp only [Pt.U, Pt.locs, Pt.cells, Pt.slots] at X69 l69 y69 z69 st69 hQ69
  subst l69 y69 z69
  obtain ⟨rfl, N69q, K69, E69x, F69_batchSize, F69_writers, F69_writerCostMicros⟩ := hQ69
  have N69 := Fr.app N61 N69q
  have Z69 : n0 ≤ T69.heap.size := Nat.le_trans Z62 K69.1
  obtain ⟨cq70, kq70, q70a, q70b, q70c⟩ := isOf hZ rfl E69x
  obtain ⟨_, _, ⟨T70, L70, k70, n70⟩, -, X70, ⟨Lc70, hQ70, l70, y70, z70⟩, st70⟩ := X69.virtualBack hx (y := (⟨"dev/sluice/bench/Workload", "boundItemsPerSecond", "()D"⟩ : MethodName)) (z := (⟨"dev/sluice/bench/Workload", "boundItemsPerSecond", "()D"⟩ : MethodName)) hown (mvT hZ (hw _ (List.mem_of_getElem? (i := 32) rfl))) (mvT hZ (hw _ (List.mem_of_getElem? (i := 33) rfl))) (notFace_of_selects (args := #[]) (mvT hZ (hw _ (List.mem_of_getElem? (i := 35) rfl)))) (mvT hZ (hw _ (List.mem_of_getElem? (i := 35) rfl))) (mvT hZ (hw _ (List.mem_of_getElem? (i := 34) rfl))) (by decide) (backOf (W := 0) (rm3 l Z a0 hw [] b62 ((p2 &&& (65535 : Int32)) + (1 : Int32)) ((p3 &&& (65535 : Int32)) + (1 : Int32)) (own_max (1 : Int32) (p4 &&& (2147483647 : Int32))) T69.heap n0 Z69 F69_batchSize F69_writers F69_writerCostMicros (own_w _).1 (own_w _).2 (own_w _).1 (own_w _).2 (own_max1 _)) hZ (hw _ (List.mem_of_getElem? (i := 36) rfl)) (hw _ (List.mem_of_getElem? (i := 8) rfl)) (by decide) (by decide)) q70a q70c (g := (mkF m 48 #[.val (.int p0), .val (.int p1), .val (.int p2), .val (.int p3), .val (.int p4), .val (.int p5), .val (.int ((p3 &&& (65535 : Int32)) + (1 : Int32))), .val (.int ((p2 &&& (65535 : Int32)) + (1 : Int32))), .val (.int (own_max (1 : Int32) (p4 &&& (2147483647 : Int32)))), .val (.ref b62), .unset, .unset, .unset, .unset, .unset, .unset] [(.ref b62)])) rfl (by rw [hml]; rfl) (Steps.refl _) (argsL := []) (rest := []) (lenOf pd_2829D rfl) rfl (by show 2 * 0 + _ ≤ _; exact Nat.le_of_eq rfl) (hb hby at_48) (fun _ _ => ⟨rfl, rfl, (by decide : 1 + 0 ≤ _), (by decide : 6 + 0 ≤ _)⟩)
  dsimp only [Pt.U, Pt.locs, Pt.cells, Pt.slots] at X70 l70 y70 z70 st70 hQ70
  subst l70 y70 z70
  obtain ⟨rfl, N70q, e70⟩ := hQ70
  have N70 := Fr.app N69 N70q
  obtain ⟨fs, hr, hrun, hended, hW, hsame⟩ := X70.leave (v := some (.int 1)) (fun h => by rw [Bd.returns] at h; cases h)
  refine ⟨_, _, pre0 _ ?_, hrun, hended, _, _, rfl, ?_, ⟨_, rfl⟩, hW, hsame.mono (by decide) (by decide)⟩
  · refine own_iloadN X0.here hx (hb hby at_0) rfl ?_
    refine X0.ldcInt hx hown (mvT hZ (hw _ (List.mem_of_getElem? (i := 0) rfl))) (g := (mkF m 1 #[.val (.int p0), .val (.int p1), .val (.int p2), .val (.int p3), .val (.int p4), .val (.int p5), .unset, .unset, .unset, .unset, .unset, .unset, .unset, .unset, .unset, .unset] [(.int p3)])) rfl (hb hby at_1) _ ?_
    show Steps p.tables e below (s₁.setTop (mkF m 3 #[.val (.int p0), .val (.int p1), .val (.int p2), .val (.int p3), .val (.int p4), .val (.int p5), .unset, .unset, .unset, .unset, .unset, .unset, .unset, .unset, .unset, .unset] [(.int 65535), (.int p3)])) _
    refine own_iand X0.here hx (hb hby at_3) ?_
    refine own_iconst X0.here hx (1 : Int32) (hb hby at_4) rfl ?_
    refine own_iadd X0.here hx (hb hby at_5) ?_
    refine own_istore X0.here hx (hb hby at_6) (l' := #[.val (.int p0), .val (.int p1), .val (.int p2), .val (.int p3), .val (.int p4), .val (.int p5), .val (.int ((p3 &&& (65535 : Int32)) + (1 : Int32))), .unset, .unset, .unset, .unset, .unset, .unset, .unset, .unset, .unset]) rfl ?_
    refine own_iloadN X0.here hx (hb hby at_8) rfl ?_
    refine X0.ldcInt hx hown (mvT hZ (hw _ (List.mem_of_getElem? (i := 0) rfl))) (g := (mkF m 9 #[.val (.int p0), .val (.int p1), .val (.int p2), .val (.int p3), .val (.int p4), .val (.int p5), .val (.int ((p3 &&& (65535 : Int32)) + (1 : Int32))), .unset, .unset, .unset, .unset, .unset, .unset, .unset, .unset, .unset] [(.int p2)])) rfl (hb hby at_9) _ ?_
    show Steps p.tables e below (s₁.setTop (mkF m 11 #[.val (.int p0), .val (.int p1), .val (.int p2), .val (.int p3), .val (.int p4), .val (.int p5), .val (.int ((p3 &&& (65535 : Int32)) + (1 : Int32))), .unset, .unset, .unset, .unset, .unset, .unset, .unset, .unset, .unset] [(.int 65535), (.int p2)])) _
    refine own_iand X0.here hx (hb hby at_11) ?_
    refine own_iconst X0.here hx (1 : Int32) (hb hby at_12) rfl ?_
    refine own_iadd X0.here hx (hb hby at_13) ?_
    refine own_istore X0.here hx (hb hby at_14) (l' := #[.val (.int p0), .val (.int p1), .val (.int p2), .val (.int p3), .val (.int p4), .val (.int p5), .val (.int ((p3 &&& (65535 : Int32)) + (1 : Int32))), .val (.int ((p2 &&& (65535 : Int32)) + (1 : Int32))), .unset, .unset, .unset, .unset, .unset, .unset, .unset, .unset]) rfl ?_
    refine own_iconst X0.here hx (1 : Int32) (hb hby at_16) rfl ?_
    refine own_iload X0.here hx (hb hby at_17) rfl ?_
    refine X0.ldcInt hx hown (mvT hZ (hw _ (List.mem_of_getElem? (i := 1) rfl))) (g := (mkF m 19 #[.val (.int p0), .val (.int p1), .val (.int p2), .val (.int p3), .val (.int p4), .val (.int p5), .val (.int ((p3 &&& (65535 : Int32)) + (1 : Int32))), .val (.int ((p2 &&& (65535 : Int32)) + (1 : Int32))), .unset, .unset, .unset, .unset, .unset, .unset, .unset, .unset] [(.int p4), (.int 1)])) rfl (hb hby at_19) _ ?_
    show Steps p.tables e below (s₁.setTop (mkF m 21 #[.val (.int p0), .val (.int p1), .val (.int p2), .val (.int p3), .val (.int p4), .val (.int p5), .val (.int ((p3 &&& (65535 : Int32)) + (1 : Int32))), .val (.int ((p2 &&& (65535 : Int32)) + (1 : Int32))), .unset, .unset, .unset, .unset, .unset, .unset, .unset, .unset] [(.int 2147483647), (.int p4), (.int 1)])) _
    refine own_iand X0.here hx (hb hby at_21) ?_
    refine st61 _ ?_
    show Steps p.tables e below (T61.setTop (mkF m 25 #[.val (.int p0), .val (.int p1), .val (.int p2), .val (.int p3), .val (.int p4), .val (.int p5), .val (.int ((p3 &&& (65535 : Int32)) + (1 : Int32))), .val (.int ((p2 &&& (65535 : Int32)) + (1 : Int32))), .unset, .unset, .unset, .unset, .unset, .unset, .unset, .unset] [(.int (own_max (1 : Int32) (p4 &&& (2147483647 : Int32))))])) _
    refine own_istore X61.here hx (hb hby at_25) (l' := #[.val (.int p0), .val (.int p1), .val (.int p2), .val (.int p3), .val (.int p4), .val (.int p5), .val (.int ((p3 &&& (65535 : Int32)) + (1 : Int32))), .val (.int ((p2 &&& (65535 : Int32)) + (1 : Int32))), .val (.int (own_max (1 : Int32) (p4 &&& (2147483647 : Int32)))), .unset, .unset, .unset, .unset, .unset, .unset, .unset]) rfl ?_
    refine st62 _ ?_
    show Steps p.tables e below (T62.setTop (mkF m 30 #[.val (.int p0), .val (.int p1), .val (.int p2), .val (.int p3), .val (.int p4), .val (.int p5), .val (.int ((p3 &&& (65535 : Int32)) + (1 : Int32))), .val (.int ((p2 &&& (65535 : Int32)) + (1 : Int32))), .val (.int (own_max (1 : Int32) (p4 &&& (2147483647 : Int32)))), .unset, .unset, .unset, .unset, .unset, .unset, .unset] [(.ref b62)])) _
    refine own_dup X62.here hx (hb hby at_30) rfl ?_
    refine own_iloadN X62.here hx (hb hby at_31) rfl ?_
    refine own_iloadN X62.here hx (hb hby at_32) rfl ?_
    refine own_iload X62.here hx (hb hby at_33) rfl ?_
    refine own_iload X62.here hx (hb hby at_35) rfl ?_
    refine own_iload X62.here hx (hb hby at_37) rfl ?_
    refine own_iload X62.here hx (hb hby at_39) rfl ?_
    refine st69.trans ?_
    show Steps p.tables e below (T69.setTop (mkF m 44 #[.val (.int p0), .val (.int p1), .val (.int p2), .val (.int p3), .val (.int p4), .val (.int p5), .val (.int ((p3 &&& (65535 : Int32)) + (1 : Int32))), .val (.int ((p2 &&& (65535 : Int32)) + (1 : Int32))), .val (.int (own_max (1 : Int32) (p4 &&& (2147483647 : Int32)))), .unset, .unset, .unset, .unset, .unset, .unset, .unset] [(.ref b62)])) _
    refine own_astore X69.here hx (hb hby at_44) rfl (l' := #[.val (.int p0), .val (.int p1), .val (.int p2), .val (.int p3), .val (.int p4), .val (.int p5), .val (.int ((p3 &&& (65535 : Int32)) + (1 : Int32))), .val (.int ((p2 &&& (65535 : Int32)) + (1 : Int32))), .val (.int (own_max (1 : Int32) (p4 &&& (2147483647 : Int32)))), .val (.ref b62), .unset, .unset, .unset, .unset, .unset, .unset]) rfl ?_
    refine own_aload X69.here hx (hb hby at_46) rfl rfl ?_
    refine st70.trans ?_
    show Steps p.tables e below (T70.setTop (mkF m 51 #[.val (.int p0), .val (.int p1), .val (.int p2), .val (.int p3), .val (.int p4), .val (.int p5), .val (.int ((p3 &&& (65535 : Int32)) + (1 : Int32))), .val (.int ((p2 &&& (65535 : Int32)) + (1 : Int32))), .val (.int (own_max (1 : Int32) (p4 &&& (2147483647 : Int32)))), .val (.ref b62), .unset, .unset, .unset, .unset, .unset, .unset] [(.double (FP.ddiv (FP.l2d ((((p3 &&& (65535 : Int32)) + (1 : Int32)).toInt64 * ((p2 &&& (65535 : Int32)) + (1 : Int32)).toInt64) * (1000000 : Int64))) (FP.l2d (own_max (1 : Int32) (p4 &&& (2147483647 : Int32))).toInt64)))])) _
    refine own_dstore X70.here hx (hb hby at_51) (l' := #[.val (.int p0), .val (.int p1), .val (.int p2), .val (.int p3), .val (.int p4), .val (.int p5), .val (.int ((p3 &&& (65535 : Int32)) + (1 : Int32))), .val (.int ((p2 &&& (65535 : Int32)) + (1 : Int32))), .val (.int (own_max (1 : Int32) (p4 &&& (2147483647 : Int32)))), .val (.ref b62), .val (.double (FP.ddiv (FP.l2d ((((p3 &&& (65535 : Int32)) + (1 : Int32)).toInt64 * ((p2 &&& (65535 : Int32)) + (1 : Int32)).toInt64) * (1000000 : Int64))) (FP.l2d (own_max (1 : Int32) (p4 &&& (2147483647 : Int32))).toInt64))), .second, .unset, .unset, .unset, .unset]) rfl ?_
    refine own_iload X70.here hx (hb hby at_53) rfl ?_
    refine own_i2l X70.here hx (hb hby at_55) ?_
    refine own_iload X70.here hx (hb hby at_56) rfl ?_
    refine own_i2l X70.here hx (hb hby at_58) ?_
    refine own_lmul X70.here hx (hb hby at_59) ?_
    refine X70.ldc2Long hx hown (mvT hZ (hw _ (List.mem_of_getElem? (i := 38) rfl))) (g := (mkF m 60 #[.val (.int p0), .val (.int p1), .val (.int p2), .val (.int p3), .val (.int p4), .val (.int p5), .val (.int ((p3 &&& (65535 : Int32)) + (1 : Int32))), .val (.int ((p2 &&& (65535 : Int32)) + (1 : Int32))), .val (.int (own_max (1 : Int32) (p4 &&& (2147483647 : Int32)))), .val (.ref b62), .val (.double (FP.ddiv (FP.l2d ((((p3 &&& (65535 : Int32)) + (1 : Int32)).toInt64 * ((p2 &&& (65535 : Int32)) + (1 : Int32)).toInt64) * (1000000 : Int64))) (FP.l2d (own_max (1 : Int32) (p4 &&& (2147483647 : Int32))).toInt64))), .second, .unset, .unset, .unset, .unset] [(.long ((((p3 &&& (65535 : Int32)) + (1 : Int32)).toInt64) * (((p2 &&& (65535 : Int32)) + (1 : Int32)).toInt64)))])) rfl (hb hby at_60) _ ?_
    show Steps p.tables e below (T70.setTop (mkF m 63 #[.val (.int p0), .val (.int p1), .val (.int p2), .val (.int p3), .val (.int p4), .val (.int p5), .val (.int ((p3 &&& (65535 : Int32)) + (1 : Int32))), .val (.int ((p2 &&& (65535 : Int32)) + (1 : Int32))), .val (.int (own_max (1 : Int32) (p4 &&& (2147483647 : Int32)))), .val (.ref b62), .val (.double (FP.ddiv (FP.l2d ((((p3 &&& (65535 : Int32)) + (1 : Int32)).toInt64 * ((p2 &&& (65535 : Int32)) + (1 : Int32)).toInt64) * (1000000 : Int64))) (FP.l2d (own_max (1 : Int32) (p4 &&& (2147483647 : Int32))).toInt64))), .second, .unset, .unset, .unset, .unset] [(.long 1000000), (.long ((((p3 &&& (65535 : Int32)) + (1 : Int32)).toInt64) * (((p2 &&& (65535 : Int32)) + (1 : Int32)).toInt64)))])) _
    refine own_lmul X70.here hx (hb hby at_63) ?_
    refine own_lstore X70.here hx (hb hby at_64) (l' := #[.val (.int p0), .val (.int p1), .val (.int p2), .val (.int p3), .val (.int p4), .val (.int p5), .val (.int ((p3 &&& (65535 : Int32)) + (1 : Int32))), .val (.int ((p2 &&& (65535 : Int32)) + (1 : Int32))), .val (.int (own_max (1 : Int32) (p4 &&& (2147483647 : Int32)))), .val (.ref b62), .val (.double (FP.ddiv (FP.l2d ((((p3 &&& (65535 : Int32)) + (1 : Int32)).toInt64 * ((p2 &&& (65535 : Int32)) + (1 : Int32)).toInt64) * (1000000 : Int64))) (FP.l2d (own_max (1 : Int32) (p4 &&& (2147483647 : Int32))).toInt64))), .second, .val (.long (((((p3 &&& (65535 : Int32)) + (1 : Int32)).toInt64) * (((p2 &&& (65535 : Int32)) + (1 : Int32)).toInt64)) * (1000000 : Int64))), .second, .unset, .unset]) rfl ?_
    refine own_lload X70.here hx (hb hby at_66) rfl ?_
    refine XS.l2dS X70.here hx rfl (hb hby at_68) rfl rfl ?_
    show Steps p.tables e below (T70.setTop (mkF m 69 #[.val (.int p0), .val (.int p1), .val (.int p2), .val (.int p3), .val (.int p4), .val (.int p5), .val (.int ((p3 &&& (65535 : Int32)) + (1 : Int32))), .val (.int ((p2 &&& (65535 : Int32)) + (1 : Int32))), .val (.int (own_max (1 : Int32) (p4 &&& (2147483647 : Int32)))), .val (.ref b62), .val (.double (FP.ddiv (FP.l2d ((((p3 &&& (65535 : Int32)) + (1 : Int32)).toInt64 * ((p2 &&& (65535 : Int32)) + (1 : Int32)).toInt64) * (1000000 : Int64))) (FP.l2d (own_max (1 : Int32) (p4 &&& (2147483647 : Int32))).toInt64))), .second, .val (.long (((((p3 &&& (65535 : Int32)) + (1 : Int32)).toInt64) * (((p2 &&& (65535 : Int32)) + (1 : Int32)).toInt64)) * (1000000 : Int64))), .second, .unset, .unset] [(.double (FP.l2d (((((p3 &&& (65535 : Int32)) + (1 : Int32)).toInt64) * (((p2 &&& (65535 : Int32)) + (1 : Int32)).toInt64)) * (1000000 : Int64))))])) _
    refine own_iload X70.here hx (hb hby at_69) rfl ?_
    refine XS.i2dS X70.here hx rfl (hb hby at_71) rfl (i2d_w _) ?_
    show Steps p.tables e below (T70.setTop (mkF m 72 #[.val (.int p0), .val (.int p1), .val (.int p2), .val (.int p3), .val (.int p4), .val (.int p5), .val (.int ((p3 &&& (65535 : Int32)) + (1 : Int32))), .val (.int ((p2 &&& (65535 : Int32)) + (1 : Int32))), .val (.int (own_max (1 : Int32) (p4 &&& (2147483647 : Int32)))), .val (.ref b62), .val (.double (FP.ddiv (FP.l2d ((((p3 &&& (65535 : Int32)) + (1 : Int32)).toInt64 * ((p2 &&& (65535 : Int32)) + (1 : Int32)).toInt64) * (1000000 : Int64))) (FP.l2d (own_max (1 : Int32) (p4 &&& (2147483647 : Int32))).toInt64))), .second, .val (.long (((((p3 &&& (65535 : Int32)) + (1 : Int32)).toInt64) * (((p2 &&& (65535 : Int32)) + (1 : Int32)).toInt64)) * (1000000 : Int64))), .second, .unset, .unset] [(.double (FP.l2d (own_max (1 : Int32) (p4 &&& (2147483647 : Int32))).toInt64)), (.double (FP.l2d (((((p3 &&& (65535 : Int32)) + (1 : Int32)).toInt64) * (((p2 &&& (65535 : Int32)) + (1 : Int32)).toInt64)) * (1000000 : Int64))))])) _
    refine XS.ddivS X70.here hx rfl (hb hby at_72) rfl (own_dn _ _ (own_max1 _)) rfl ?_
    show Steps p.tables e below (T70.setTop (mkF m 73 #[.val (.int p0), .val (.int p1), .val (.int p2), .val (.int p3), .val (.int p4), .val (.int p5), .val (.int ((p3 &&& (65535 : Int32)) + (1 : Int32))), .val (.int ((p2 &&& (65535 : Int32)) + (1 : Int32))), .val (.int (own_max (1 : Int32) (p4 &&& (2147483647 : Int32)))), .val (.ref b62), .val (.double (FP.ddiv (FP.l2d ((((p3 &&& (65535 : Int32)) + (1 : Int32)).toInt64 * ((p2 &&& (65535 : Int32)) + (1 : Int32)).toInt64) * (1000000 : Int64))) (FP.l2d (own_max (1 : Int32) (p4 &&& (2147483647 : Int32))).toInt64))), .second, .val (.long (((((p3 &&& (65535 : Int32)) + (1 : Int32)).toInt64) * (((p2 &&& (65535 : Int32)) + (1 : Int32)).toInt64)) * (1000000 : Int64))), .second, .unset, .unset] [(.double (FP.ddiv (FP.l2d (((((p3 &&& (65535 : Int32)) + (1 : Int32)).toInt64) * (((p2 &&& (65535 : Int32)) + (1 : Int32)).toInt64)) * (1000000 : Int64))) (FP.l2d (own_max (1 : Int32) (p4 &&& (2147483647 : Int32))).toInt64)))])) _
    refine own_dstore X70.here hx (hb hby at_73) (l' := #[.val (.int p0), .val (.int p1), .val (.int p2), .val (.int p3), .val (.int p4), .val (.int p5), .val (.int ((p3 &&& (65535 : Int32)) + (1 : Int32))), .val (.int ((p2 &&& (65535 : Int32)) + (1 : Int32))), .val (.int (own_max (1 : Int32) (p4 &&& (2147483647 : Int32)))), .val (.ref b62), .val (.double (FP.ddiv (FP.l2d ((((p3 &&& (65535 : Int32)) + (1 : Int32)).toInt64 * ((p2 &&& (65535 : Int32)) + (1 : Int32)).toInt64) * (1000000 : Int64))) (FP.l2d (own_max (1 : Int32) (p4 &&& (2147483647 : Int32))).toInt64))), .second, .val (.long (((((p3 &&& (65535 : Int32)) + (1 : Int32)).toInt64) * (((p2 &&& (65535 : Int32)) + (1 : Int32)).toInt64)) * (1000000 : Int64))), .second, .val (.double (FP.ddiv (FP.l2d (((((p3 &&& (65535 : Int32)) + (1 : Int32)).toInt64) * (((p2 &&& (65535 : Int32)) + (1 : Int32)).toInt64)) * (1000000 : Int64))) (FP.l2d (own_max (1 : Int32) (p4 &&& (2147483647 : Int32))).toInt64))), .second]) rfl ?_
    refine own_dload X70.here hx (hb hby at_75) rfl ?_
    refine own_dload X70.here hx (hb hby at_77) rfl ?_
    refine XS.dcmpS X70.here hx rfl (hb hby at_79) rfl (dcmpV_self (own_dn _ _ (own_max1 _)) .l) ?_
    show Steps p.tables e below (T70.setTop (mkF m 80 #[.val (.int p0), .val (.int p1), .val (.int p2), .val (.int p3), .val (.int p4), .val (.int p5), .val (.int ((p3 &&& (65535 : Int32)) + (1 : Int32))), .val (.int ((p2 &&& (65535 : Int32)) + (1 : Int32))), .val (.int (own_max (1 : Int32) (p4 &&& (2147483647 : Int32)))), .val (.ref b62), .val (.double (FP.ddiv (FP.l2d ((((p3 &&& (65535 : Int32)) + (1 : Int32)).toInt64 * ((p2 &&& (65535 : Int32)) + (1 : Int32)).toInt64) * (1000000 : Int64))) (FP.l2d (own_max (1 : Int32) (p4 &&& (2147483647 : Int32))).toInt64))), .second, .val (.long (((((p3 &&& (65535 : Int32)) + (1 : Int32)).toInt64) * (((p2 &&& (65535 : Int32)) + (1 : Int32)).toInt64)) * (1000000 : Int64))), .second, .val (.double (FP.ddiv (FP.l2d (((((p3 &&& (65535 : Int32)) + (1 : Int32)).toInt64) * (((p2 &&& (65535 : Int32)) + (1 : Int32)).toInt64)) * (1000000 : Int64))) (FP.l2d (own_max (1 : Int32) (p4 &&& (2147483647 : Int32))).toInt64))), .second] [(.int 0)])) _
    refine own_ifNo X70.here hx (hb hby at_80) ((if0 _ _).trans (teq (by decide : (0 : Int32) = (0 : Int32))).2) ?_
    refine own_iconst X70.here hx (1 : Int32) (hb hby at_83) rfl ?_
    refine own_goto X70.here hx 84 88 rfl (hb hby at_84) (by decide) (by decide) ?_
    exact retN X70 hx (t := .boolean) Bd.returns (by simp) (hb hby at_88) hr
  · show Q0 Z p0 p1 p2 p3 p4 p5 h0 n0 _ T70.heap _
    rw [e70]
    exact ⟨rfl, N70⟩
set_option maxRecDepth 65536 in
set_option maxHeartbeats 40000000 in
theorem comes_1 {Post : Tables → Env → Array Value → State → Outcome → State → Prop} (hpost : ∀ tb e args s v u, (limb_1_1.after args s (.returned v) u = true ∧ limb_1_2.after args s (.returned v) u = true ∧ True) → FrameEnd s (.returned v) u (Jvm.fieldLocs frame_1_writes args s ++ Jvm.arrayLocs frame_1_arrays args s ++ Jvm.staticLocs frame_1_statics s) 16 128 → Post tb e args s (.returned v) u) :
    ArmFor flags0 classFile x code maxLocals ret World_1 tables_1 room_1 Calls_1 rest_1 Pre_1 Post := by
  intro l hfl _ _ p e ha hc hk s m args below hf hA hF happ hP
  obtain ⟨hcalls, hrest, hpre⟩ := hP
  obtain ⟨-, -, -, hnamed, -, -, -, hat⟩ := (Spec.applies_iff hf).mp happ
  obtain ⟨hg, hn⟩ := and_e (Cond.before_iff.mp (show (Jvm.Cond.and given_1 narrow_1).before args s = true from hpre))
  obtain ⟨gv1, gv2⟩ := and_e hg
  obtain ⟨gv3, gv4⟩ := and_e gv2
  obtain ⟨gv5, gv6⟩ := and_e gv4
  obtain ⟨gv7, gv8⟩ := and_e gv6
  obtain ⟨gv9, gv10⟩ := and_e gv8
  obtain ⟨gv11, gv12⟩ := and_e gv10
  obtain ⟨w0, w1, w2, w3, w4, w5, rfl⟩ : ∃ w0 w1 w2 w3 w4 w5 : Value, args = #[w0, w1, w2, w3, w4, w5] := by
    have hs : args.size = 6 := by simpa [Cond.value, given_1] using gv1
    obtain ⟨L⟩ := args
    match L, hs with
    | [w0, w1, w2, w3, w4, w5], _ => exact ⟨w0, w1, w2, w3, w4, w5, rfl⟩
  have hw := fun d (hd : d ∈ tables_1) => atoms_spec (ws := Jvm.Cond.code x code maxLocals ret :: tables_1) hat d (List.mem_cons_of_mem _ hd)
  have hfit : Fit s := fun {y c} hc i hi => by
    obtain ⟨ha, rfl⟩ := Array.getElem?_eq_some_iff.mp hc
    have q := List.all_eq_true.mp ((Array.all_eq_true_iff_forall_mem.mp hF) _ (Array.getElem_mem ha)) i (List.mem_range.mpr hi)
    simpa [Array.getElem?_eq_getElem hi] using q
  obtain ⟨i0, ei0⟩ := is_v gv3
  obtain rfl : w0 = (.int i0) := Option.some.inj ei0
  obtain ⟨i1, ei1⟩ := is_v gv5
  obtain rfl : w1 = (.int i1) := Option.some.inj ei1
  obtain ⟨i2, ei2⟩ := is_v gv7
  obtain rfl : w2 = (.int i2) := Option.some.inj ei2
  obtain ⟨i3, ei3⟩ := is_v gv9
  obtain rfl : w3 = (.int i3) := Option.some.inj ei3
  obtain ⟨i4, ei4⟩ := is_v gv11
  obtain rfl : w4 = (.int i4) := Option.some.inj ei4
  obtain ⟨i5, ei5⟩ := is_v gv12
  obtain rfl : w5 = (.int i5) := Option.some.inj ei5
  obtain ⟨n, o, h1, h2, h3, _, L, rfl, ⟨rfl, N⟩, hq⟩ := rm0 l s _ hw tables_1 i0 i1 i2 i3 i4 i5  s.heap s.heap.size (Nat.le_refl _)  p e ha hc hk s m _ below hf ((Spec.applies_iff_loose hf).mp happ).1 ⟨rfl, State.Warmed39.refl s, rfl⟩ trivial
  refine ⟨n, _, h1, h2, h3, hpost _ _ _ _ _ _ ⟨Cond.after_iff.mpr rfl, Cond.after_iff.mpr (eq_i res_at (Term.int_eval (1)) rfl), trivial⟩ ⟨hq.1, hq.2.1, (hq.2.2.sift fun y hy => Or.inr (N y hy)).mono (by decide) (by decide)⟩⟩
theorem main_1_1 : Claimed_1_1 := comes_1 fun _ _ _ _ _ _ h hF => ⟨h.1, hF⟩
theorem main_1_2 : Claimed_1_2 := comes_1 fun _ _ _ _ _ _ h hF => ⟨h.2.1, hF⟩
end Jvm.Pilot.@@N@@
namespace Jvm.Pilot.@@N@@
open Jvm Jvm.ClassFile Sem Op Lib Jvm.Free Jvm.Stand Jvm.Pilot.@@N@@.Jvm.D
/-! MADE BY PROGRAM (witnessworld.py) out of the Statement's table words and the real class files: 11 classes; the members and pool entries that the words name. The judged class is class 1, her method 1. -/
namespace start1
open Jvm.ClassFile
def u (s : String) : CpInfo := .utf8 (stringToUtf16 s)
/-- a pool by its gaps: so many unusable entries, then the entry; so many at the end -/
def gap : Nat → List CpInfo → List CpInfo
  | 0, r => r
  | n + 1, r => .unusable :: gap n r
def poolList (es : List (Nat × CpInfo)) (last : Nat) : List CpInfo := es.foldr (fun e r => gap e.1 (e.2 :: r)) (gap last [])
def pool (es : List (Nat × CpInfo)) (last : Nat) : Array CpInfo := ⟨poolList es last⟩
def fileOf (pool : Array CpInfo) (this : Nat) (attrs : Array Attribute := #[]) (ms : Array MethodInfo := #[]) (fl : Nat := 33) (sup : Nat := 0) (ifs : Array Nat := #[]) (fds : Array FieldInfo := #[]) : ClassFile where
  minorVersion := 0
  majorVersion := 65
  constantPool := pool
  accessFlags := fl
  thisClass := this
  superClass := sup
  interfaces := ifs
  fields := fds
  methods := ms
  attributes := attrs
def plain (name : String) (sup : Option ClassId) : Class where
  name := name
  kind := .ordinary
  loader := none
  accessFlags := 33
  super := sup
  interfaces := #[]
  cf := none
  fields := #[]
  methods := #[]
  instanceTypes := #[]
  staticTypes := #[]
  resolved := #[]
  callSites := []
  init := .initialized
  statics := none
  mirror := none

def pool0 : Array CpInfo := pool [(5, u "<init>"), (0, u "()V"), (1, .class_ 10), (1, u "java/lang/Object")] 113

def k0c0 : Code := { maxStack := 0, maxLocals := 1, code := object_method_1_code, exceptionTable := #[], attributes := #[] }
def k0m0 : Method := { name := "<init>", desc := "()V", sig := { parameters := [], returnType := none }, accessFlags := 1, code := some k0c0 }
/-- java/lang/Object -/
def k0 : Class := { plain "java/lang/Object" none with
  accessFlags := 33
  interfaces := #[]
  cf := some (fileOf pool0 8 #[] #[{ accessFlags := 1, nameIndex := 5, descriptorIndex := 6, attributes := #[] }] 33 0 #[] #[])
  fields := #[]
  methods := #[k0m0]
  instanceTypes := #[]
  staticTypes := #[]
  resolved := Array.replicate 124 none
  statics := none }

def pool1 : Array CpInfo := pool [(2, .class_ 4), (1, u "java/lang/Object"), (0, u "<init>"), (0, u "()V"), (0, .integer 65535), (0, .integer 2147483647), (0, .methodref 10 11), (0, .class_ 12), (0, .nameAndType 13 14), (0, u "java/lang/Math"), (0, u "max"), (0, u "(II)I"), (0, .class_ 16), (0, u "dev/sluice/bench/Workload"), (0, .methodref 15 18), (0, .nameAndType 5 19), (0, u "(IIIIII)V"), (0, .methodref 15 21), (0, .nameAndType 22 23), (0, u "boundItemsPerSecond"), (0, u "()D"), (0, .long 1000000), (1, .class_ 27), (0, u "dev/sluice/bench/WorkloadBoundItemsPerSecondPinLaw"), (2, u "law"), (0, u "(IIIIII)Z")] 3

def k1m0 : Method := { name := "<init>", desc := "()V", sig := { parameters := [], returnType := none }, accessFlags := 1, code := none }
def k1c1 : Code := { maxStack := 8, maxLocals := 16, code := code, exceptionTable := #[], attributes := #[] }
def k1m1 : Method := { name := "law", desc := "(IIIIII)Z", sig := { parameters := [.int, .int, .int, .int, .int, .int], returnType := some .boolean }, accessFlags := 9, code := some k1c1 }
/-- dev/sluice/bench/WorkloadBoundItemsPerSecondPinLaw -/
def k1 : Class := { plain "dev/sluice/bench/WorkloadBoundItemsPerSecondPinLaw" (some 0) with
  accessFlags := 49
  interfaces := #[]
  cf := some (fileOf pool1 26 #[] #[{ accessFlags := 1, nameIndex := 5, descriptorIndex := 6, attributes := #[] }, { accessFlags := 9, nameIndex := 30, descriptorIndex := 31, attributes := #[] }] 49 2 #[] #[])
  fields := #[]
  methods := #[k1m0, k1m1]
  instanceTypes := #[]
  staticTypes := #[]
  resolved := Array.replicate 35 none
  statics := none }

def pool2 : Array CpInfo := pool [(1, .class_ 2), (0, u "java/lang/Math"), (1, .class_ 6), (1, u "java/lang/Object"), (0, u "<init>"), (0, u "()V"), (89, .class_ 100), (1, u "java/lang/Math$RandomNumberGeneratorHolder"), (71, u "negativeZeroFloatBits"), (0, u "J"), (2, u "negativeZeroDoubleBits"), (21, u "max"), (46, u "$assertionsDisabled"), (0, u "Z"), (88, u "(II)I"), (2, u "twoToTheDoubleScaleDown"), (0, u "D"), (4, u "twoToTheDoubleScaleUp"), (9, u "E"), (3, u "PI"), (2, u "TAU"), (2, u "DEGREES_TO_RADIANS"), (0, u "RADIANS_TO_DEGREES")] 94

def k2m0 : Method := { name := "<init>", desc := "()V", sig := { parameters := [], returnType := none }, accessFlags := 2, code := none }
def k2c1 : Code := { maxStack := 2, maxLocals := 2, code := jdk_29_method_65_code, exceptionTable := #[], attributes := #[] }
def k2m1 : Method := { name := "max", desc := "(II)I", sig := { parameters := [.int, .int], returnType := some .int }, accessFlags := 9, code := some k2c1 }
/-- java/lang/Math -/
def k2 : Class := { plain "java/lang/Math" (some 0) with
  accessFlags := 49
  interfaces := #[]
  cf := some (fileOf pool2 1 #[.nestMembers #[98]] #[{ accessFlags := 2, nameIndex := 7, descriptorIndex := 8, attributes := #[] }, { accessFlags := 9, nameIndex := 198, descriptorIndex := 335, attributes := #[] }] 49 4 #[] #[{ accessFlags := 25, nameIndex := 354, descriptorIndex := 339, attributes := #[] }, { accessFlags := 25, nameIndex := 358, descriptorIndex := 339, attributes := #[] }, { accessFlags := 25, nameIndex := 361, descriptorIndex := 339, attributes := #[] }, { accessFlags := 26, nameIndex := 364, descriptorIndex := 339, attributes := #[] }, { accessFlags := 26, nameIndex := 365, descriptorIndex := 339, attributes := #[] }, { accessFlags := 26, nameIndex := 172, descriptorIndex := 173, attributes := #[] }, { accessFlags := 26, nameIndex := 176, descriptorIndex := 173, attributes := #[] }, { accessFlags := 8, nameIndex := 344, descriptorIndex := 339, attributes := #[] }, { accessFlags := 8, nameIndex := 338, descriptorIndex := 339, attributes := #[] }, { accessFlags := 4120, nameIndex := 245, descriptorIndex := 246, attributes := #[] }])
  fields := #[{ name := "E", type := .double, accessFlags := 25, slot := 0, constantValue := 0 }, { name := "PI", type := .double, accessFlags := 25, slot := 1, constantValue := 0 }, { name := "TAU", type := .double, accessFlags := 25, slot := 2, constantValue := 0 }, { name := "DEGREES_TO_RADIANS", type := .double, accessFlags := 26, slot := 3, constantValue := 0 }, { name := "RADIANS_TO_DEGREES", type := .double, accessFlags := 26, slot := 4, constantValue := 0 }, { name := "negativeZeroFloatBits", type := .long, accessFlags := 26, slot := 5, constantValue := 0 }, { name := "negativeZeroDoubleBits", type := .long, accessFlags := 26, slot := 6, constantValue := 0 }, { name := "twoToTheDoubleScaleUp", type := .double, accessFlags := 8, slot := 7, constantValue := 0 }, { name := "twoToTheDoubleScaleDown", type := .double, accessFlags := 8, slot := 8, constantValue := 0 }, { name := "$assertionsDisabled", type := .boolean, accessFlags := 4120, slot := 9, constantValue := 0 }]
  methods := #[k2m0, k2m1]
  instanceTypes := #[]
  staticTypes := #[.double, .double, .double, .double, .double, .long, .long, .double, .double, .boolean]
  resolved := Array.replicate 460 none
  statics := none }

def pool3 : Array CpInfo := pool [(1, .methodref 2 3), (0, .class_ 4), (0, .nameAndType 5 6), (0, u "java/lang/Object"), (0, u "<init>"), (0, u "()V"), (0, .class_ 8), (0, u "java/lang/Record")] 13

def k3c0 : Code := { maxStack := 1, maxLocals := 1, code := jdk_30_method_1_code, exceptionTable := #[], attributes := #[] }
def k3m0 : Method := { name := "<init>", desc := "()V", sig := { parameters := [], returnType := none }, accessFlags := 4, code := some k3c0 }
/-- java/lang/Record -/
def k3 : Class := { plain "java/lang/Record" (some 0) with
  accessFlags := 1057
  interfaces := #[]
  cf := some (fileOf pool3 7 #[] #[{ accessFlags := 4, nameIndex := 5, descriptorIndex := 6, attributes := #[] }] 1057 2 #[] #[])
  fields := #[]
  methods := #[k3m0]
  instanceTypes := #[]
  staticTypes := #[]
  resolved := Array.replicate 22 none
  statics := none }

def pool4 : Array CpInfo := pool [(1, .methodref 2 3), (0, .class_ 4), (0, .nameAndType 5 6), (0, u "java/lang/Record"), (0, u "<init>"), (0, u "()V"), (0, .fieldref 8 9), (0, .class_ 10), (0, .nameAndType 11 12), (0, u "dev/sluice/bench/Workload"), (0, u "producers"), (0, u "I"), (0, .fieldref 8 14), (0, .nameAndType 15 12), (0, u "items"), (0, .fieldref 8 17), (0, .nameAndType 18 12), (0, u "batchSize"), (0, .fieldref 8 20), (0, .nameAndType 21 12), (0, u "writers"), (0, .fieldref 8 23), (0, .nameAndType 24 12), (0, u "writerCostMicros"), (0, .fieldref 8 26), (0, .nameAndType 27 12), (0, u "lingerMillis"), (2, .double 4696837146684686336), (3, u "(IIIIII)V"), (19, u "boundItemsPerSecond"), (0, u "()D")] 30

def k4c0 : Code := { maxStack := 2, maxLocals := 7, code := prog_30_method_1_code, exceptionTable := #[], attributes := #[] }
def k4m0 : Method := { name := "<init>", desc := "(IIIIII)V", sig := { parameters := [.int, .int, .int, .int, .int, .int], returnType := none }, accessFlags := 0, code := some k4c0 }
def k4c1 : Code := { maxStack := 4, maxLocals := 1, code := prog_30_method_4_code, exceptionTable := #[], attributes := #[] }
def k4m1 : Method := { name := "boundItemsPerSecond", desc := "()D", sig := { parameters := [], returnType := some .double }, accessFlags := 0, code := some k4c1 }
/-- dev/sluice/bench/Workload -/
def k4 : Class := { plain "dev/sluice/bench/Workload" (some 3) with
  accessFlags := 48
  interfaces := #[]
  cf := some (fileOf pool4 8 #[] #[{ accessFlags := 0, nameIndex := 5, descriptorIndex := 34, attributes := #[] }, { accessFlags := 0, nameIndex := 54, descriptorIndex := 55, attributes := #[] }] 48 2 #[] #[{ accessFlags := 18, nameIndex := 11, descriptorIndex := 12, attributes := #[] }, { accessFlags := 18, nameIndex := 15, descriptorIndex := 12, attributes := #[] }, { accessFlags := 18, nameIndex := 18, descriptorIndex := 12, attributes := #[] }, { accessFlags := 18, nameIndex := 21, descriptorIndex := 12, attributes := #[] }, { accessFlags := 18, nameIndex := 24, descriptorIndex := 12, attributes := #[] }, { accessFlags := 18, nameIndex := 27, descriptorIndex := 12, attributes := #[] }])
  fields := #[{ name := "producers", type := .int, accessFlags := 18, slot := 0, constantValue := 0 }, { name := "items", type := .int, accessFlags := 18, slot := 1, constantValue := 0 }, { name := "batchSize", type := .int, accessFlags := 18, slot := 2, constantValue := 0 }, { name := "writers", type := .int, accessFlags := 18, slot := 3, constantValue := 0 }, { name := "writerCostMicros", type := .int, accessFlags := 18, slot := 4, constantValue := 0 }, { name := "lingerMillis", type := .int, accessFlags := 18, slot := 5, constantValue := 0 }]
  methods := #[k4m0, k4m1]
  instanceTypes := #[.int, .int, .int, .int, .int, .int]
  staticTypes := #[]
  resolved := Array.replicate 86 none
  statics := none }

def pool5 : Array CpInfo := pool [(1, u "java/lang/Cloneable"), (0, .class_ 1), (0, u "java/lang/Object"), (0, .class_ 3)] 3

/-- java/lang/Cloneable -/
def k5 : Class := { plain "java/lang/Cloneable" (some 0) with
  accessFlags := 1537
  interfaces := #[]
  cf := some (fileOf pool5 2 #[] #[] 1537 4 #[] #[])
  fields := #[]
  methods := #[]
  instanceTypes := #[]
  staticTypes := #[]
  resolved := Array.replicate 8 none
  statics := none }

def pool6 : Array CpInfo := pool [(1, u "java/io/Serializable"), (0, .class_ 1), (0, u "java/lang/Object"), (0, .class_ 3)] 3

/-- java/io/Serializable -/
def k6 : Class := { plain "java/io/Serializable" (some 0) with
  accessFlags := 1537
  interfaces := #[]
  cf := some (fileOf pool6 2 #[] #[] 1537 4 #[] #[])
  fields := #[]
  methods := #[]
  instanceTypes := #[]
  staticTypes := #[]
  resolved := Array.replicate 8 none
  statics := none }

/-- the primitive byte -/
def k7 : Class := { plain "byte" none with kind := .primitive 'B', accessFlags := 0x411 }
/-- [B -/
def k8 : Class := { plain "[B" (some 0) with kind := .array 7 .byte, interfaces := #[5, 6], accessFlags := 1041 }

/-- the primitive int -/
def k9 : Class := { plain "int" none with kind := .primitive 'I', accessFlags := 0x411 }
/-- [I -/
def k10 : Class := { plain "[I" (some 0) with kind := .array 9 .int, interfaces := #[5, 6], accessFlags := 1041 }

def heap : Heap := #[]
def classes : Array Class := #[k0, k1, k2, k3, k4, k5, k6, k7, k8, k9, k10]
def interned : List (Array UInt16 × Addr) := []
def slotsUsed : Nat := 0
def theMethod : MethodId := ⟨1, 1⟩
def args0 : Array Value := #[.int 5, .int 2, .int 3, .int 4, .int 5, .int 6]
def aboutOver (below : List Frame) : State where
  vm := { classes := classes, interned := interned.toArray }
  heap := heap
  slotsUsed := slotsUsed
  threads := #[{ frames := .invoking theMethod args0 :: below }]
def below0 : List Frame := [.native { method := ⟨0, 0⟩, args := #[] }]
def about1 : State := aboutOver below0
def p0 : Program := .bare "" "" ""
def e0 : Env := launch0.env 0 0 0
theorem w_frames : about1.frames = Frame.invoking theMethod args0 :: below0 := rfl
set_option maxRecDepth 65536 in
theorem w_args : argsFit about1.vm theMethod args0 = true := by decide +kernel
set_option maxRecDepth 65536 in
theorem w_heap : heapFits about1 = true := by decide +kernel
set_option maxRecDepth 65536 in
theorem w_runnable : about1.curStatus? = some .runnable := by decide +kernel
set_option maxRecDepth 65536 in
theorem w_alone : about1.alone = true := by decide +kernel
set_option maxRecDepth 65536 in
theorem w_named : about1.methodNamed? x = some theMethod := by decide +kernel
set_option maxRecDepth 65536 in
theorem w_hears : about1.hears theMethod below0 = true := by decide +kernel
set_option maxRecDepth 65536 in
theorem w_ripe : about1.ripe theMethod args0 below0 = true := by decide +kernel
theorem w_running : about1.status = .running := rfl
set_option maxRecDepth 65536 in
theorem w_room : about1.hasRoom e0.platform room_1 = true :=
  launch0.hasRoom_least _ room_1 (by decide +kernel) (by decide +kernel) (by decide +kernel) (by decide +kernel) (by decide +kernel) (by decide +kernel)
theorem allAtoms_all (ts : List Jvm.Cond) (a : Array Jvm.Value) (st : Jvm.State) : (allAtoms ts).before a st = ts.all (fun c => c.before a st) := by
  induction ts with
  | nil => rfl
  | cons c t ih =>
    show (Jvm.Cond.and c (allAtoms t)).before a st = _
    rw [Jvm.Cond.before_and, ih, List.all_cons]
def words1 : List Jvm.Cond := Jvm.Cond.code x code maxLocals ret :: tables_1
/-- a 'code' word, met by the world's own term for the bytes: nothing is compared byte by byte -/
theorem code_word {y : MethodName} {bytes : ByteArray} {mx : Nat} {rt : Option FieldType} {a : Array Value} {s : State} {m : MethodId} {meth : Method} {c : Code} (h1 : s.methodNamed? y = some m) (h2 : s.vm.method? m = some meth) (h3 : meth.code = some c) (h4 : c.code = bytes)
    (h5 : (c.maxLocals == mx && c.exceptionTable.isEmpty && decide (c.maxStack ≤ mostOperands) && decide (meth.sig.returnType = rt) && !meth.locks && decide (parseMethodDescriptor y.desc = some meth.sig)) = true) : (Jvm.Cond.code y bytes mx rt).before a s = true := by
  simp only [Bool.and_eq_true, beq_iff_eq, Bool.not_eq_true', decide_eq_true_eq] at h5
  obtain ⟨⟨⟨⟨⟨g1, g2⟩, g3⟩, g4⟩, g5⟩, g6⟩ := h5
  simp [Cond.before, Cond.holds, Cond.value, h1, h2, h3, h4, g1, g2, g3, g4, g5, g6]
def isCode : Jvm.Cond → Bool
  | .code _ _ _ _ => true
  | _ => false
theorem all_split {L : List Jvm.Cond} {P : Jvm.Cond → Bool} (h1 : L.all (fun c => isCode c || P c) = true) (h2 : ∀ c ∈ L.filter isCode, P c = true) : L.all P = true := by
  refine List.all_eq_true.mpr fun c hc => ?_
  have h := List.all_eq_true.mp h1 c hc
  rcases Bool.eq_false_or_eq_true (isCode c) with hi | hi
  · exact h2 c (List.mem_filter.mpr ⟨hc, hi⟩)
  · simpa [hi] using h
set_option maxRecDepth 65536 in
theorem w_c0 : (Jvm.Cond.code x code maxLocals ret).before args0 about1 = true := code_word (m := ⟨1, 1⟩) (meth := k1m1) (c := k1c1) (by decide +kernel) rfl rfl rfl (by decide +kernel)
set_option maxRecDepth 65536 in
theorem w_c1 : (Jvm.Cond.code ({ cls := "java/lang/Math", name := "max", desc := "(II)I" } : Jvm.MethodName) jdk_29_method_65_code (2 : Nat) (Option.some Jvm.ClassFile.FieldType.int)).before args0 about1 = true := code_word (m := ⟨2, 1⟩) (meth := k2m1) (c := k2c1) (by decide +kernel) rfl rfl rfl (by decide +kernel)
set_option maxRecDepth 65536 in
theorem w_c2 : (Jvm.Cond.code ({ cls := "dev/sluice/bench/Workload", name := "<init>", desc := "(IIIIII)V" } : Jvm.MethodName) prog_30_method_1_code (7 : Nat) (Option.none : Option Jvm.ClassFile.FieldType)).before args0 about1 = true := code_word (m := ⟨4, 0⟩) (meth := k4m0) (c := k4c0) (by decide +kernel) rfl rfl rfl (by decide +kernel)
set_option maxRecDepth 65536 in
theorem w_c3 : (Jvm.Cond.code ({ cls := "java/lang/Record", name := "<init>", desc := "()V" } : Jvm.MethodName) jdk_30_method_1_code (1 : Nat) (Option.none : Option Jvm.ClassFile.FieldType)).before args0 about1 = true := code_word (m := ⟨3, 0⟩) (meth := k3m0) (c := k3c0) (by decide +kernel) rfl rfl rfl (by decide +kernel)
set_option maxRecDepth 65536 in
theorem w_c4 : (Jvm.Cond.code ({ cls := "java/lang/Object", name := "<init>", desc := "()V" } : Jvm.MethodName) object_method_1_code (1 : Nat) (Option.none : Option Jvm.ClassFile.FieldType)).before args0 about1 = true := code_word (m := ⟨0, 0⟩) (meth := k0m0) (c := k0c0) (by decide +kernel) rfl rfl rfl (by decide +kernel)
set_option maxRecDepth 65536 in
theorem w_c5 : (Jvm.Cond.code ({ cls := "dev/sluice/bench/Workload", name := "boundItemsPerSecond", desc := "()D" } : Jvm.MethodName) prog_30_method_4_code (1 : Nat) (Option.some Jvm.ClassFile.FieldType.double)).before args0 about1 = true := code_word (m := ⟨4, 1⟩) (meth := k4m1) (c := k4c1) (by decide +kernel) rfl rfl rfl (by decide +kernel)
def codes1 : List Jvm.Cond := [Jvm.Cond.code x code maxLocals ret, Jvm.Cond.code ({ cls := "java/lang/Math", name := "max", desc := "(II)I" } : Jvm.MethodName) jdk_29_method_65_code (2 : Nat) (Option.some Jvm.ClassFile.FieldType.int), Jvm.Cond.code ({ cls := "dev/sluice/bench/Workload", name := "<init>", desc := "(IIIIII)V" } : Jvm.MethodName) prog_30_method_1_code (7 : Nat) (Option.none : Option Jvm.ClassFile.FieldType), Jvm.Cond.code ({ cls := "java/lang/Record", name := "<init>", desc := "()V" } : Jvm.MethodName) jdk_30_method_1_code (1 : Nat) (Option.none : Option Jvm.ClassFile.FieldType), Jvm.Cond.code ({ cls := "java/lang/Object", name := "<init>", desc := "()V" } : Jvm.MethodName) object_method_1_code (1 : Nat) (Option.none : Option Jvm.ClassFile.FieldType), Jvm.Cond.code ({ cls := "dev/sluice/bench/Workload", name := "boundItemsPerSecond", desc := "()D" } : Jvm.MethodName) prog_30_method_4_code (1 : Nat) (Option.some Jvm.ClassFile.FieldType.double)]
set_option maxRecDepth 65536 in
theorem codes_eq : words1.filter isCode = codes1 := rfl
theorem w_codes : ∀ c ∈ words1.filter isCode, c.before args0 about1 = true := by
  rw [codes_eq]
  intro c hc
  simp only [codes1, List.mem_cons, List.not_mem_nil, or_false] at hc
  rcases hc with rfl | rfl | rfl | rfl | rfl | rfl
  · exact w_c0
  · exact w_c1
  · exact w_c2
  · exact w_c3
  · exact w_c4
  · exact w_c5
set_option maxRecDepth 65536 in
theorem w_t1 : (words1.take 24).all (fun c => isCode c || c.before args0 about1) = true := by decide +kernel
set_option maxRecDepth 65536 in
theorem w_t2 : (words1.drop 24).all (fun c => isCode c || c.before args0 about1) = true := by decide +kernel
theorem w_tables : (allAtoms (Jvm.Cond.code x code maxLocals ret :: tables_1)).before args0 about1 = true := by
  rw [allAtoms_all]
  show words1.all (fun c => c.before args0 about1) = true
  refine all_split ?_ w_codes
  rw [← List.take_append_drop 24 words1, List.all_append, w_t1, w_t2]
  rfl
set_option maxRecDepth 65536 in
theorem w_case : (Jvm.Cond.and given_1 narrow_1).before args0 about1 = true := by decide +kernel
theorem w_applies : (headSpec (Jvm.Cond.code x code maxLocals ret :: tables_1) room_1).applies x e0.platform about1 = true :=
  (Spec.applies_iff w_frames).mpr ⟨w_running, w_runnable, w_alone, w_named, w_hears, w_ripe, w_room, w_tables⟩
theorem atStart : AtStart classFile x code maxLocals ret World_1 tables_1 room_1 Calls_1 rest_1 Pre_1 launch0 p0 e0 about1 theMethod args0 below0 :=
  ⟨lists_1, trivial, launch0.admits_env _ _ _, launch0.least_env, fairChoices_fair.cas, fairChoices_fair.clock, w_frames, w_args, w_heap, w_applies, trivial, trivial, w_case⟩
end start1
theorem witness_1 : WitnessClaimed_1 := ⟨start1.p0, start1.e0, start1.about1, start1.theMethod, start1.args0, start1.below0, start1.atStart⟩
end Jvm.Pilot.@@N@@
