import JvmDerived
import JvmDerived.Pilot.@@N@@Statement
import JvmDerived.Pilot.@@N@@Code
set_option linter.unusedVariables false
set_option linter.unusedSimpArgs false
namespace Jvm.RoadKit
open Sem ClassFile Op Lib Jvm.Stand Jvm.Free Jvm.LawKit
section New
variable {p : Program} {l : Launch} {e : Env} {R : Room} {s : State} {m : MethodId} {args : Array Value} {below : List Frame} {meth : Method} {c : Code} {T : State} {locs : List Loc} {cells slots : Nat}
theorem retI (X : Stand p l e R s m args below meth c T locs cells slots) (hx : p.tables.exec = Jvm.exec) {pc : Nat} {Ls : Array Slot} {z : Int32} {rest : List Value} (hret : meth.sig.returnType = some .int) (hd : decode c.code pc = .ok (.ireturn, 1)) {fs : List Frame}
    (hl : ∀ (f : JFrame) (acts : List Action), f.method = m → f.locked = none → f.entered = [] → (doReturn e (T.setTop f) acts (some (.int z))).1 = T.setFrames fs) : Steps p.tables e below (T.setTop (mkF m pc Ls (.int z :: rest))) (T.setFrames fs) := by
  have hm' : T.vm.method? m = some meth := X.method'
  have hn : narrow .int (.int z) = .int z := rfl
  show Steps p.tables e below (T.setTop { method := m, pc := pc, locals := Ls, stack := _ :: rest, locked := none }) _
  jvm_step X.here [X.here.top, hx, hd, hm', hret, hn]
  first | (intro acts; rw [hl _ acts rfl rfl rfl]) | rw [hl _ _ rfl rfl rfl]
  exact Steps.refl _
end New
end Jvm.RoadKit
namespace Jvm.Pilot.@@N@@
open Jvm Jvm.ClassFile Sem Op Lib Jvm.Free Jvm.Stand Jvm.LawKit Jvm.RoadKit Bundle Jvm.Pilot.@@N@@.Jvm.D
def own_rem (x y : Int32) : Int32 := x - (x / y) * y
section OwnSteps
variable {tb : Tables} [Ours tb] {e : Env} {below : List Frame} {T target : State} {m : MethodId} {c : Code} {pc : Nat} {ls : Array Slot} {st : List Value}
theorem own_iloadN (h : At T m c below) (hx : tb.exec = Jvm.exec) {k : Fin 4} {v : Int32} (hd : decode c.code pc = .ok (.iload_n k, 1)) (hl : ls[k.val]? = some (.val (.int v))) (hr : Steps tb e below (T.setTop (mkF m (pc + 1) ls (.int v :: st))) target) : Steps tb e below (T.setTop (mkF m pc ls (st))) target := XS.iloadN h hx rfl hd hl hr
theorem own_iload (h : At T m c below) (hx : tb.exec = Jvm.exec) {k : Nat} {v : Int32} (hd : decode c.code pc = .ok (.iload k, 2)) (hl : ls[k]? = some (.val (.int v))) (hr : Steps tb e below (T.setTop (mkF m (pc + 2) ls (.int v :: st))) target) : Steps tb e below (T.setTop (mkF m pc ls (st))) target := XS.iload h hx rfl hd hl hr
theorem own_istoreN (h : At T m c below) (hx : tb.exec = Jvm.exec) {k : Fin 4} {v : Int32} {l' : Array Slot} (hd : decode c.code pc = .ok (.istore_n k, 1)) (hl : storeLocals ls k.val (.int v) = some l') (hr : Steps tb e below (T.setTop (mkF m (pc + 1) l' (st))) target) : Steps tb e below (T.setTop (mkF m pc ls (.int v :: st))) target := XS.istoreN h hx rfl hd rfl hl hr
theorem own_istore (h : At T m c below) (hx : tb.exec = Jvm.exec) {k : Nat} {v : Int32} {l' : Array Slot} (hd : decode c.code pc = .ok (.istore k, 2)) (hl : storeLocals ls k (.int v) = some l') (hr : Steps tb e below (T.setTop (mkF m (pc + 2) l' (st))) target) : Steps tb e below (T.setTop (mkF m pc ls (.int v :: st))) target := XS.istore h hx rfl hd rfl hl hr
theorem own_lloadN (h : At T m c below) (hx : tb.exec = Jvm.exec) {k : Fin 4} {v : Int64} (hd : decode c.code pc = .ok (.lload_n k, 1)) (hl : ls[k.val]? = some (.val (.long v))) (hr : Steps tb e below (T.setTop (mkF m (pc + 1) ls (.long v :: st))) target) : Steps tb e below (T.setTop (mkF m pc ls (st))) target := XS.lloadN h hx rfl hd hl hr
theorem own_lload (h : At T m c below) (hx : tb.exec = Jvm.exec) {k : Nat} {v : Int64} (hd : decode c.code pc = .ok (.lload k, 2)) (hl : ls[k]? = some (.val (.long v))) (hr : Steps tb e below (T.setTop (mkF m (pc + 2) ls (.long v :: st))) target) : Steps tb e below (T.setTop (mkF m pc ls (st))) target := XS.lload h hx rfl hd hl hr
theorem own_lstoreN (h : At T m c below) (hx : tb.exec = Jvm.exec) {k : Fin 4} {v : Int64} {l' : Array Slot} (hd : decode c.code pc = .ok (.lstore_n k, 1)) (hl : storeLocals ls k.val (.long v) = some l') (hr : Steps tb e below (T.setTop (mkF m (pc + 1) l' (st))) target) : Steps tb e below (T.setTop (mkF m pc ls (.long v :: st))) target := XS.lstoreN h hx rfl hd rfl hl hr
theorem own_lstore (h : At T m c below) (hx : tb.exec = Jvm.exec) {k : Nat} {v : Int64} {l' : Array Slot} (hd : decode c.code pc = .ok (.lstore k, 2)) (hl : storeLocals ls k (.long v) = some l') (hr : Steps tb e below (T.setTop (mkF m (pc + 2) l' (st))) target) : Steps tb e below (T.setTop (mkF m pc ls (.long v :: st))) target := XS.lstore h hx rfl hd rfl hl hr
theorem own_dloadN (h : At T m c below) (hx : tb.exec = Jvm.exec) {k : Fin 4} {v : UInt64} (hd : decode c.code pc = .ok (.dload_n k, 1)) (hl : ls[k.val]? = some (.val (.double v))) (hr : Steps tb e below (T.setTop (mkF m (pc + 1) ls (.double v :: st))) target) : Steps tb e below (T.setTop (mkF m pc ls (st))) target := XS.dloadN h hx rfl hd hl hr
theorem own_dload (h : At T m c below) (hx : tb.exec = Jvm.exec) {k : Nat} {v : UInt64} (hd : decode c.code pc = .ok (.dload k, 2)) (hl : ls[k]? = some (.val (.double v))) (hr : Steps tb e below (T.setTop (mkF m (pc + 2) ls (.double v :: st))) target) : Steps tb e below (T.setTop (mkF m pc ls (st))) target := XS.dload h hx rfl hd hl hr
theorem own_dstoreN (h : At T m c below) (hx : tb.exec = Jvm.exec) {k : Fin 4} {v : UInt64} {l' : Array Slot} (hd : decode c.code pc = .ok (.dstore_n k, 1)) (hl : storeLocals ls k.val (.double v) = some l') (hr : Steps tb e below (T.setTop (mkF m (pc + 1) l' (st))) target) : Steps tb e below (T.setTop (mkF m pc ls (.double v :: st))) target := XS.dstoreN h hx rfl hd rfl hl hr
theorem own_dstore (h : At T m c below) (hx : tb.exec = Jvm.exec) {k : Nat} {v : UInt64} {l' : Array Slot} (hd : decode c.code pc = .ok (.dstore k, 2)) (hl : storeLocals ls k (.double v) = some l') (hr : Steps tb e below (T.setTop (mkF m (pc + 2) l' (st))) target) : Steps tb e below (T.setTop (mkF m pc ls (.double v :: st))) target := XS.dstore h hx rfl hd rfl hl hr
theorem own_aloadN (h : At T m c below) (hx : tb.exec = Jvm.exec) {k : Fin 4} {v : Value} (hd : decode c.code pc = .ok (.aload_n k, 1)) (hl : ls[k.val]? = some (.val v)) (hv : v.isRef = true) (hr : Steps tb e below (T.setTop (mkF m (pc + 1) ls (v :: st))) target) : Steps tb e below (T.setTop (mkF m pc ls (st))) target := XS.aloadN h hx rfl hd hl hv hr
theorem own_aload (h : At T m c below) (hx : tb.exec = Jvm.exec) {k : Nat} {v : Value} (hd : decode c.code pc = .ok (.aload k, 2)) (hl : ls[k]? = some (.val v)) (hv : v.isRef = true) (hr : Steps tb e below (T.setTop (mkF m (pc + 2) ls (v :: st))) target) : Steps tb e below (T.setTop (mkF m pc ls (st))) target := XS.aload h hx rfl hd hl hv hr
theorem own_astoreN (h : At T m c below) (hx : tb.exec = Jvm.exec) {k : Fin 4} {v : Value} {l' : Array Slot} (hd : decode c.code pc = .ok (.astore_n k, 1)) (hv : v.isRef = true) (hl : storeLocals ls k.val v = some l') (hr : Steps tb e below (T.setTop (mkF m (pc + 1) l' (st))) target) : Steps tb e below (T.setTop (mkF m pc ls (v :: st))) target := XS.astoreN h hx rfl hd rfl hv hl hr
theorem own_astore (h : At T m c below) (hx : tb.exec = Jvm.exec) {k : Nat} {v : Value} {l' : Array Slot} (hd : decode c.code pc = .ok (.astore k, 2)) (hv : v.isRef = true) (hl : storeLocals ls k v = some l') (hr : Steps tb e below (T.setTop (mkF m (pc + 2) l' (st))) target) : Steps tb e below (T.setTop (mkF m pc ls (v :: st))) target := XS.astore h hx rfl hd rfl hv hl hr
theorem own_iconst (h : At T m c below) (hx : tb.exec = Jvm.exec) {i : Int} (z : Int32) (hd : decode c.code pc = .ok (.iconst i, 1)) (hz : Int32.ofInt i = z) (hr : Steps tb e below (T.setTop (mkF m (pc + 1) ls (.int z :: st))) target) : Steps tb e below (T.setTop (mkF m pc ls st)) target := by
  subst hz; exact XS.iconst h hx rfl hd hr
theorem own_bipush (h : At T m c below) (hx : tb.exec = Jvm.exec) {i : Int} (z : Int32) (hd : decode c.code pc = .ok (.bipush i, 2)) (hz : (Int8.ofInt i).toInt32 = z) (hr : Steps tb e below (T.setTop (mkF m (pc + 2) ls (.int z :: st))) target) : Steps tb e below (T.setTop (mkF m pc ls st)) target := by
  subst hz; exact XS.bipush h hx rfl hd hr
theorem own_sipush (h : At T m c below) (hx : tb.exec = Jvm.exec) {i : Int} (z : Int32) (hd : decode c.code pc = .ok (.sipush i, 3)) (hz : (Int16.ofInt i).toInt32 = z) (hr : Steps tb e below (T.setTop (mkF m (pc + 3) ls (.int z :: st))) target) : Steps tb e below (T.setTop (mkF m pc ls st)) target := by
  subst hz; exact XS.sipush h hx rfl hd hr
theorem own_lconst0 (h : At T m c below) (hx : tb.exec = Jvm.exec) (hd : decode c.code pc = .ok (.lconst 0, 1)) (hr : Steps tb e below (T.setTop (mkF m (pc + 1) ls (.long (0 : Int64) :: st))) target) : Steps tb e below (T.setTop (mkF m pc ls st)) target := XS.lconst h hx rfl hd hr
theorem own_lconst1 (h : At T m c below) (hx : tb.exec = Jvm.exec) (hd : decode c.code pc = .ok (.lconst 1, 1)) (hr : Steps tb e below (T.setTop (mkF m (pc + 1) ls (.long (1 : Int64) :: st))) target) : Steps tb e below (T.setTop (mkF m pc ls st)) target := XS.lconst h hx rfl hd hr
theorem own_aconstNull (h : At T m c below) (hx : tb.exec = Jvm.exec)  (hd : decode c.code pc = .ok (.aconst_null, 1)) (hr : Steps tb e below (T.setTop (mkF m (pc + 1) ls (.null :: st))) target) : Steps tb e below (T.setTop (mkF m pc ls (st))) target := XS.aconstNull h hx rfl hd hr
theorem own_iadd (h : At T m c below) (hx : tb.exec = Jvm.exec) {x y : Int32} (hd : decode c.code pc = .ok (.iadd, 1)) (hr : Steps tb e below (T.setTop (mkF m (pc + 1) ls (.int (x + y) :: st))) target) : Steps tb e below (T.setTop (mkF m pc ls (.int y :: .int x :: st))) target := XS.iadd h hx rfl hd rfl hr
theorem own_isub (h : At T m c below) (hx : tb.exec = Jvm.exec) {x y : Int32} (hd : decode c.code pc = .ok (.isub, 1)) (hr : Steps tb e below (T.setTop (mkF m (pc + 1) ls (.int (x - y) :: st))) target) : Steps tb e below (T.setTop (mkF m pc ls (.int y :: .int x :: st))) target := XS.isub h hx rfl hd rfl hr
theorem own_imul (h : At T m c below) (hx : tb.exec = Jvm.exec) {x y : Int32} (hd : decode c.code pc = .ok (.imul, 1)) (hr : Steps tb e below (T.setTop (mkF m (pc + 1) ls (.int (x * y) :: st))) target) : Steps tb e below (T.setTop (mkF m pc ls (.int y :: .int x :: st))) target := XS.imul h hx rfl hd rfl hr
theorem own_iand (h : At T m c below) (hx : tb.exec = Jvm.exec) {x y : Int32} (hd : decode c.code pc = .ok (.iand, 1)) (hr : Steps tb e below (T.setTop (mkF m (pc + 1) ls (.int (x &&& y) :: st))) target) : Steps tb e below (T.setTop (mkF m pc ls (.int y :: .int x :: st))) target := XS.iand h hx rfl hd rfl hr
theorem own_ior (h : At T m c below) (hx : tb.exec = Jvm.exec) {x y : Int32} (hd : decode c.code pc = .ok (.ior, 1)) (hr : Steps tb e below (T.setTop (mkF m (pc + 1) ls (.int (x ||| y) :: st))) target) : Steps tb e below (T.setTop (mkF m pc ls (.int y :: .int x :: st))) target := XS.ior h hx rfl hd rfl hr
theorem own_ixor (h : At T m c below) (hx : tb.exec = Jvm.exec) {x y : Int32} (hd : decode c.code pc = .ok (.ixor, 1)) (hr : Steps tb e below (T.setTop (mkF m (pc + 1) ls (.int (x ^^^ y) :: st))) target) : Steps tb e below (T.setTop (mkF m pc ls (.int y :: .int x :: st))) target := XS.ixor h hx rfl hd rfl hr
theorem own_idiv (h : At T m c below) (hx : tb.exec = Jvm.exec) {x y : Int32} (hd : decode c.code pc = .ok (.idiv, 1)) (hy : y ≠ 0) (hr : Steps tb e below (T.setTop (mkF m (pc + 1) ls (.int (x / y) :: st))) target) : Steps tb e below (T.setTop (mkF m pc ls (.int y :: .int x :: st))) target := XS.idiv h hx rfl hd rfl hy hr
theorem own_ladd (h : At T m c below) (hx : tb.exec = Jvm.exec) {x y : Int64} (hd : decode c.code pc = .ok (.ladd, 1)) (hr : Steps tb e below (T.setTop (mkF m (pc + 1) ls (.long (x + y) :: st))) target) : Steps tb e below (T.setTop (mkF m pc ls (.long y :: .long x :: st))) target := XS.ladd h hx rfl hd rfl hr
theorem own_lsub (h : At T m c below) (hx : tb.exec = Jvm.exec) {x y : Int64} (hd : decode c.code pc = .ok (.lsub, 1)) (hr : Steps tb e below (T.setTop (mkF m (pc + 1) ls (.long (x - y) :: st))) target) : Steps tb e below (T.setTop (mkF m pc ls (.long y :: .long x :: st))) target := XS.lsub h hx rfl hd rfl hr
theorem own_lmul (h : At T m c below) (hx : tb.exec = Jvm.exec) {x y : Int64} (hd : decode c.code pc = .ok (.lmul, 1)) (hr : Steps tb e below (T.setTop (mkF m (pc + 1) ls (.long (x * y) :: st))) target) : Steps tb e below (T.setTop (mkF m pc ls (.long y :: .long x :: st))) target := XS.lmul h hx rfl hd rfl hr
theorem own_land (h : At T m c below) (hx : tb.exec = Jvm.exec) {x y : Int64} (hd : decode c.code pc = .ok (.land, 1)) (hr : Steps tb e below (T.setTop (mkF m (pc + 1) ls (.long (x &&& y) :: st))) target) : Steps tb e below (T.setTop (mkF m pc ls (.long y :: .long x :: st))) target := XS.land h hx rfl hd rfl hr
theorem own_lor (h : At T m c below) (hx : tb.exec = Jvm.exec) {x y : Int64} (hd : decode c.code pc = .ok (.lor, 1)) (hr : Steps tb e below (T.setTop (mkF m (pc + 1) ls (.long (x ||| y) :: st))) target) : Steps tb e below (T.setTop (mkF m pc ls (.long y :: .long x :: st))) target := XS.lor h hx rfl hd rfl hr
theorem own_lxor (h : At T m c below) (hx : tb.exec = Jvm.exec) {x y : Int64} (hd : decode c.code pc = .ok (.lxor, 1)) (hr : Steps tb e below (T.setTop (mkF m (pc + 1) ls (.long (x ^^^ y) :: st))) target) : Steps tb e below (T.setTop (mkF m pc ls (.long y :: .long x :: st))) target := XS.lxor h hx rfl hd rfl hr
theorem own_ldiv (h : At T m c below) (hx : tb.exec = Jvm.exec) {x y : Int64} (hd : decode c.code pc = .ok (.ldiv, 1)) (hy : y ≠ 0) (hr : Steps tb e below (T.setTop (mkF m (pc + 1) ls (.long (x / y) :: st))) target) : Steps tb e below (T.setTop (mkF m pc ls (.long y :: .long x :: st))) target := XS.ldiv h hx rfl hd rfl hy hr
theorem own_irem (h : At T m c below) (hx : tb.exec = Jvm.exec) {x y : Int32} (hd : decode c.code pc = .ok (.irem, 1)) (hy : y ≠ 0) (hr : Steps tb e below (T.setTop (mkF m (pc + 1) ls (.int (own_rem x y) :: st))) target) : Steps tb e below (T.setTop (mkF m pc ls (.int y :: .int x :: st))) target := XS.irem h hx rfl hd rfl hy hr
theorem own_ishl (h : At T m c below) (hx : tb.exec = Jvm.exec) {x : Int32} {y : Int32} (hd : decode c.code pc = .ok (.ishl, 1)) (hr : Steps tb e below (T.setTop (mkF m (pc + 1) ls (.int (x <<< (y &&& 31)) :: st))) target) : Steps tb e below (T.setTop (mkF m pc ls (.int y :: .int x :: st))) target := XS.ishl h hx rfl hd rfl hr
theorem own_ishr (h : At T m c below) (hx : tb.exec = Jvm.exec) {x : Int32} {y : Int32} (hd : decode c.code pc = .ok (.ishr, 1)) (hr : Steps tb e below (T.setTop (mkF m (pc + 1) ls (.int (x >>> (y &&& 31)) :: st))) target) : Steps tb e below (T.setTop (mkF m pc ls (.int y :: .int x :: st))) target := XS.ishr h hx rfl hd rfl hr
theorem own_iushr (h : At T m c below) (hx : tb.exec = Jvm.exec) {x : Int32} {y : Int32} (hd : decode c.code pc = .ok (.iushr, 1)) (hr : Steps tb e below (T.setTop (mkF m (pc + 1) ls (.int ((x.toUInt32 >>> (y &&& 31).toUInt32).toInt32) :: st))) target) : Steps tb e below (T.setTop (mkF m pc ls (.int y :: .int x :: st))) target := XS.iushr h hx rfl hd rfl hr
theorem own_lshl (h : At T m c below) (hx : tb.exec = Jvm.exec) {x : Int64} {y : Int32} (hd : decode c.code pc = .ok (.lshl, 1)) (hr : Steps tb e below (T.setTop (mkF m (pc + 1) ls (.long (x <<< (y &&& 0x3f).toInt64) :: st))) target) : Steps tb e below (T.setTop (mkF m pc ls (.int y :: .long x :: st))) target := XS.lshl h hx rfl hd rfl hr
theorem own_lshr (h : At T m c below) (hx : tb.exec = Jvm.exec) {x : Int64} {y : Int32} (hd : decode c.code pc = .ok (.lshr, 1)) (hr : Steps tb e below (T.setTop (mkF m (pc + 1) ls (.long (x >>> (y &&& 0x3f).toInt64) :: st))) target) : Steps tb e below (T.setTop (mkF m pc ls (.int y :: .long x :: st))) target := XS.lshr h hx rfl hd rfl hr
theorem own_lushr (h : At T m c below) (hx : tb.exec = Jvm.exec) {x : Int64} {y : Int32} (hd : decode c.code pc = .ok (.lushr, 1)) (hr : Steps tb e below (T.setTop (mkF m (pc + 1) ls (.long ((x.toUInt64 >>> (y &&& 0x3f).toInt64.toUInt64).toInt64) :: st))) target) : Steps tb e below (T.setTop (mkF m pc ls (.int y :: .long x :: st))) target := XS.lushr h hx rfl hd rfl hr
theorem own_ineg (h : At T m c below) (hx : tb.exec = Jvm.exec) {x : Int32} (hd : decode c.code pc = .ok (.ineg, 1)) (hr : Steps tb e below (T.setTop (mkF m (pc + 1) ls (.int (-x) :: st))) target) : Steps tb e below (T.setTop (mkF m pc ls (.int x :: st))) target := XS.ineg h hx rfl hd rfl hr
theorem own_lneg (h : At T m c below) (hx : tb.exec = Jvm.exec) {x : Int64} (hd : decode c.code pc = .ok (.lneg, 1)) (hr : Steps tb e below (T.setTop (mkF m (pc + 1) ls (.long (-x) :: st))) target) : Steps tb e below (T.setTop (mkF m pc ls (.long x :: st))) target := XS.lneg h hx rfl hd rfl hr
theorem own_i2l (h : At T m c below) (hx : tb.exec = Jvm.exec) {x : Int32} (hd : decode c.code pc = .ok (.i2l, 1)) (hr : Steps tb e below (T.setTop (mkF m (pc + 1) ls (.long x.toInt64 :: st))) target) : Steps tb e below (T.setTop (mkF m pc ls (.int x :: st))) target := XS.i2l h hx rfl hd rfl hr
theorem own_l2i (h : At T m c below) (hx : tb.exec = Jvm.exec) {x : Int64} (hd : decode c.code pc = .ok (.l2i, 1)) (hr : Steps tb e below (T.setTop (mkF m (pc + 1) ls (.int x.toInt32 :: st))) target) : Steps tb e below (T.setTop (mkF m pc ls (.long x :: st))) target := XS.l2i h hx rfl hd rfl hr
theorem own_i2b (h : At T m c below) (hx : tb.exec = Jvm.exec) {x : Int32} (hd : decode c.code pc = .ok (.i2b, 1)) (hr : Steps tb e below (T.setTop (mkF m (pc + 1) ls (.int x.toInt8.toInt32 :: st))) target) : Steps tb e below (T.setTop (mkF m pc ls (.int x :: st))) target := XS.i2b h hx rfl hd rfl hr
theorem own_i2s (h : At T m c below) (hx : tb.exec = Jvm.exec) {x : Int32} (hd : decode c.code pc = .ok (.i2s, 1)) (hr : Steps tb e below (T.setTop (mkF m (pc + 1) ls (.int x.toInt16.toInt32 :: st))) target) : Steps tb e below (T.setTop (mkF m pc ls (.int x :: st))) target := XS.i2s h hx rfl hd rfl hr
theorem own_i2c (h : At T m c below) (hx : tb.exec = Jvm.exec) {x : Int32} (hd : decode c.code pc = .ok (.i2c, 1)) (hr : Steps tb e below (T.setTop (mkF m (pc + 1) ls (.int x.toUInt32.toUInt16.toUInt32.toInt32 :: st))) target) : Steps tb e below (T.setTop (mkF m pc ls (.int x :: st))) target := XS.i2c h hx rfl hd rfl hr
theorem own_lcmp (h : At T m c below) (hx : tb.exec = Jvm.exec) {x y : Int64} (hd : decode c.code pc = .ok (.lcmp, 1)) (hr : Steps tb e below (T.setTop (mkF m (pc + 1) ls (.int (lcmpW x y) :: st))) target) : Steps tb e below (T.setTop (mkF m pc ls (.long y :: .long x :: st))) target := XS.lcmp h hx rfl hd rfl hr
theorem own_iinc (h : At T m c below) (hx : tb.exec = Jvm.exec) {k : Nat} {cst : Int} {x : Int32} {l' : Array Slot} (z : Int32) (hd : decode c.code pc = .ok (.iinc k cst, 3)) (hl : ls[k]? = some (.val (.int x))) (hz : Int32.ofInt cst = z) (hl' : storeLocals ls k (.int (x + z)) = some l') (hr : Steps tb e below (T.setTop (mkF m (pc + 3) l' st)) target) : Steps tb e below (T.setTop (mkF m pc ls st)) target := by
  subst hz; exact XS.iinc h hx rfl hd hl hl' hr
theorem own_dup (h : At T m c below) (hx : tb.exec = Jvm.exec) {x : Value} (hd : decode c.code pc = .ok (.dup, 1)) (hc : x.category = 1) (hr : Steps tb e below (T.setTop (mkF m (pc + 1) ls (x :: x :: st))) target) : Steps tb e below (T.setTop (mkF m pc ls (x :: st))) target := XS.dup h hx rfl hd rfl hc hr
theorem own_dupX1 (h : At T m c below) (hx : tb.exec = Jvm.exec) {x y : Value} (hd : decode c.code pc = .ok (.dup_x1, 1)) (hc : x.category = 1) (hc2 : y.category = 1) (hr : Steps tb e below (T.setTop (mkF m (pc + 1) ls (x :: y :: x :: st))) target) : Steps tb e below (T.setTop (mkF m pc ls (x :: y :: st))) target := XS.dupX1 h hx rfl hd rfl hc hc2 hr
theorem own_pop (h : At T m c below) (hx : tb.exec = Jvm.exec) {x : Value} (hd : decode c.code pc = .ok (.pop, 1)) (hc : x.category = 1) (hr : Steps tb e below (T.setTop (mkF m (pc + 1) ls (st))) target) : Steps tb e below (T.setTop (mkF m pc ls (x :: st))) target := XS.pop h hx rfl hd rfl hc hr
theorem own_goto (h : At T m c below) (hx : tb.exec = Jvm.exec) {o : Int} (pc0 pc' : Nat) (hpc : pc = pc0) (hd : decode c.code pc = .ok (.goto o, 3)) (ho : 0 ≤ (pc0 : Int) + o) (hp : ((pc0 : Int) + o).toNat = pc') (hr : Steps tb e below (T.setTop (mkF m pc' ls (st))) target) : Steps tb e below (T.setTop (mkF m pc ls (st))) target := XS.goto h hx rfl hpc hd ho hp hr
theorem own_ifYes (h : At T m c below) (hx : tb.exec = Jvm.exec) {cd : ClassFile.Cond} {o : Int} {x : Int32} (pc0 pc' : Nat) (hpc : pc = pc0) (hd : decode c.code pc = .ok (.ifCond cd o, 3)) (hc : ifCond.holds cd x = true) (ho : 0 ≤ (pc0 : Int) + o) (hp : ((pc0 : Int) + o).toNat = pc') (hr : Steps tb e below (T.setTop (mkF m pc' ls (st))) target) : Steps tb e below (T.setTop (mkF m pc ls (.int x :: st))) target := XS.ifYes h hx rfl hpc hd rfl hc ho hp hr
theorem own_ifNo (h : At T m c below) (hx : tb.exec = Jvm.exec) {cd : ClassFile.Cond} {o : Int} {x : Int32} (hd : decode c.code pc = .ok (.ifCond cd o, 3)) (hc : ifCond.holds cd x = false) (hr : Steps tb e below (T.setTop (mkF m (pc + 3) ls (st))) target) : Steps tb e below (T.setTop (mkF m pc ls (.int x :: st))) target := XS.ifNo h hx rfl hd rfl hc hr
theorem own_icmpYes (h : At T m c below) (hx : tb.exec = Jvm.exec) {cd : ClassFile.Cond} {o : Int} {x y : Int32} (pc0 pc' : Nat) (hpc : pc = pc0) (hd : decode c.code pc = .ok (.if_icmp cd o, 3)) (hc : if_icmp.holds cd x y = true) (ho : 0 ≤ (pc0 : Int) + o) (hp : ((pc0 : Int) + o).toNat = pc') (hr : Steps tb e below (T.setTop (mkF m pc' ls (st))) target) : Steps tb e below (T.setTop (mkF m pc ls (.int y :: .int x :: st))) target := XS.icmpYes h hx rfl hpc hd rfl hc ho hp hr
theorem own_icmpNo (h : At T m c below) (hx : tb.exec = Jvm.exec) {cd : ClassFile.Cond} {o : Int} {x y : Int32} (hd : decode c.code pc = .ok (.if_icmp cd o, 3)) (hc : if_icmp.holds cd x y = false) (hr : Steps tb e below (T.setTop (mkF m (pc + 3) ls (st))) target) : Steps tb e below (T.setTop (mkF m pc ls (.int y :: .int x :: st))) target := XS.icmpNo h hx rfl hd rfl hc hr
theorem own_ifnullYes (h : At T m c below) (hx : tb.exec = Jvm.exec) {o : Int} (pc0 pc' : Nat) (hpc : pc = pc0) (hd : decode c.code pc = .ok (.ifnull o, 3)) (ho : 0 ≤ (pc0 : Int) + o) (hp : ((pc0 : Int) + o).toNat = pc') (hr : Steps tb e below (T.setTop (mkF m pc' ls (st))) target) : Steps tb e below (T.setTop (mkF m pc ls (.null :: st))) target := XS.ifnullYes h hx rfl hpc hd rfl ho hp hr
theorem own_ifnullNo (h : At T m c below) (hx : tb.exec = Jvm.exec) {o : Int} {b : Addr} (hd : decode c.code pc = .ok (.ifnull o, 3)) (hr : Steps tb e below (T.setTop (mkF m (pc + 3) ls (st))) target) : Steps tb e below (T.setTop (mkF m pc ls (.ref b :: st))) target := XS.ifnullNo h hx rfl hd rfl hr
theorem own_ifnonnullYes (h : At T m c below) (hx : tb.exec = Jvm.exec) {o : Int} {b : Addr} (pc0 pc' : Nat) (hpc : pc = pc0) (hd : decode c.code pc = .ok (.ifnonnull o, 3)) (ho : 0 ≤ (pc0 : Int) + o) (hp : ((pc0 : Int) + o).toNat = pc') (hr : Steps tb e below (T.setTop (mkF m pc' ls (st))) target) : Steps tb e below (T.setTop (mkF m pc ls (.ref b :: st))) target := XS.ifnonnullYes h hx rfl hpc hd rfl ho hp hr
theorem own_ifnonnullNo (h : At T m c below) (hx : tb.exec = Jvm.exec) {o : Int} (hd : decode c.code pc = .ok (.ifnonnull o, 3)) (hr : Steps tb e below (T.setTop (mkF m (pc + 3) ls (st))) target) : Steps tb e below (T.setTop (mkF m pc ls (.null :: st))) target := XS.ifnonnullNo h hx rfl hd rfl hr
end OwnSteps

def own_ids (n : Int32) : Int64 := ((n.toInt64 * (n - (1 : Int32)).toInt64) / (2 : Int64))
def own_gauss (n : Int32) : Int64 := if (n &&& (1 : Int32)) = (0 : Int32) then ((n / (2 : Int32)).toInt64 * (n - (1 : Int32)).toInt64) else (n.toInt64 * ((n - (1 : Int32)) / (2 : Int32)).toInt64)
theorem own_key (i : Int32) : own_ids (i &&& (2147483647 : Int32)) = own_gauss (i &&& (2147483647 : Int32)) := by
  have hm := c_mask i 2147483647 31 (by decide) (by decide)
  generalize (i &&& (2147483647 : Int32)) = n at *
  have hn0 : 0 ≤ n.toInt := by rw [hm]; omega
  have hn1 : n.toInt < 2147483648 := by rw [hm]; omega
  have k1 : (1 : Int32).toInt = 1 := rfl
  have k2 : (2 : Int32).toInt = 2 := rfl
  have k2' : (2 : Int64).toInt = 2 := rfl
  have hs := c_isub n 1
  have rs := rng32 (n - 1)
  have e1 : (n - 1).toInt = n.toInt - 1 := by omega
  have ha := c_mask n 1 1 (by decide) (by decide)
  have hp0 : (0 : Int) ≤ n.toInt * (n.toInt - 1) ∧ n.toInt * (n.toInt - 1) < 9223372036854775808 := by
    rcases Int.lt_or_le n.toInt 1 with h | h
    · have : n.toInt = 0 := by omega
      rw [this]; omega
    · constructor
      · exact Int.mul_nonneg hn0 (by omega)
      · have := Int.mul_le_mul (a := n.toInt) (c := 2147483647) (b := n.toInt - 1) (d := 2147483647) (by omega) (by omega) (by omega) (by omega)
        omega
  have hmul := c_lmul n.toInt64 (n - 1).toInt64
  rw [c_i2l, c_i2l, e1] at hmul
  have rm := rng64 (n.toInt64 * (n - 1).toInt64)
  have em : (n.toInt64 * (n - 1).toInt64).toInt = n.toInt * (n.toInt - 1) := by omega
  have hd := (c_ldiv (n.toInt64 * (n - 1).toInt64) 2 2 k2' (by decide)).1 (by omega)
  apply Int64.toInt_inj.mp
  unfold own_ids own_gauss
  rw [hd, em]
  split
  · rename_i he
    have he' := congrArg Int32.toInt he
    rw [ha] at he'
    have h0 : (0 : Int32).toInt = 0 := rfl
    have hq := (c_idiv n 2 2 k2 (by decide)).1 hn0
    have hm2 := c_lmul (n / 2).toInt64 (n - 1).toInt64
    rw [c_i2l, c_i2l, e1, hq] at hm2
    have r2 := rng64 ((n / 2).toInt64 * (n - 1).toInt64)
    obtain ⟨k, hk⟩ : ∃ k, n.toInt = 2 * k := ⟨n.toInt / 2, by omega⟩
    have hk2 : n.toInt / 2 = k := by omega
    rw [hk2] at hm2
    have hprod : n.toInt * (n.toInt - 1) = 2 * (k * (n.toInt - 1)) := by rw [hk, Int.mul_assoc]
    rw [hprod] at hp0 ⊢
    omega
  · rename_i he
    have he' : ¬ (n &&& 1).toInt = (0 : Int32).toInt := fun z => he (Int32.toInt_inj.mp z)
    rw [ha] at he'
    have h0 : (0 : Int32).toInt = 0 := rfl
    have hq := (c_idiv (n - 1) 2 2 k2 (by decide)).1 (by omega)
    have hm2 := c_lmul n.toInt64 ((n - 1) / 2).toInt64
    rw [c_i2l, c_i2l, hq, e1] at hm2
    have r2 := rng64 (n.toInt64 * ((n - 1) / 2).toInt64)
    obtain ⟨k, hk⟩ : ∃ k, n.toInt - 1 = 2 * k := ⟨(n.toInt - 1) / 2, by omega⟩
    have hk2 : (n.toInt - 1) / 2 = k := by omega
    rw [hk2] at hm2
    have hprod : n.toInt * (n.toInt - 1) = 2 * (n.toInt * k) := by rw [hk, Int.mul_left_comm]
    rw [hprod] at hp0 ⊢
    omega
theorem ef_rm1 (m : MethodId) (x0 : Addr) : entryFrame m #[(.ref x0)] 1 = mkF m 0 #[.val (.ref x0)] [] := by first | (simp [entryFrame, mkF, argsToLocals, Value.category]; done) | rfl
theorem pn_java_lang_Record : plainName "java/lang/Record" = true := by first | (simp [plainName, overriddenIn]; done) | decide +kernel
def Q1 (Z : State) (a1 : Addr) (h0 : Heap) (n0 : Nat) (v : Option Value) (h : Heap) (L : List Loc) : Prop := v = none ∧ Fr n0 L ∧ h = h0
theorem d_jdk_30_method_1_code_0 : decode jdk_30_method_1_code 0 = .ok (.aload_n 0, 1) := by decide +kernel
theorem d_jdk_30_method_1_code_1 : decode jdk_30_method_1_code 1 = .ok (.invokespecial 1, 3) := by decide +kernel
theorem d_jdk_30_method_1_code_4 : decode jdk_30_method_1_code 4 = .ok (.return_, 1) := by decide +kernel
set_option maxRecDepth 65536 in
set_option maxHeartbeats 40000000 in
theorem rm1 (l : Launch) (Z : State) (a0 : Array Value) (hw : ∀ d ∈ tables_1, d.before a0 Z = true) (ws : List Jvm.Cond) (a1 : Addr) (h0 : Heap) (n0 : Nat) (Z0 : n0 ≤ h0.size) :
    MetFree l (⟨"java/lang/Record", "<init>", "()V"⟩ : MethodName) (head1 (Jvm.Cond.code (⟨"java/lang/Record", "<init>", "()V"⟩ : MethodName) jdk_30_method_1_code 1 none :: ws) ({ frames := 1, cells := 0, slots := 0, locals := 12 } : Room)) (fun a U => a = #[(.ref a1)] ∧ Z.Warmed39 U.vm ∧ U.heap = h0) (fun _ _ _ _ _ => True) (fun _ U o U' => ∃ v L, o = .returned v ∧ Q1 Z a1 h0 n0 v U'.heap L ∧ FrameEnd U o U' L ({ frames := 1, cells := 0, slots := 0, locals := 12 } : Room).cells ({ frames := 1, cells := 0, slots := 0, locals := 12 } : Room).slots) := by
  refine MetFree.of_bodySF (plainFor_of_name pn_java_lang_Record) hisR ?_
  intro p e s m args below meth c s₁ Bd hml0 hP hK
  obtain ⟨rfl, hZ, hh⟩ := hP
  have hx := Bd.exec
  have hby := Bd.bytes
  have hml : c.maxLocals = 1 := hml0
  have hown : s.vm.findClass "java/lang/Record" = some m.cls := findClass_of_methodNamed Bd.named
  have hnm := (name_of_methodNamed Bd.named Bd.method).1
  have X0 : Stand p l e ({ frames := 1, cells := 0, slots := 0, locals := 12 } : Room) s m #[(.ref a1)] below meth c s₁ [] 0 0 := Stand.of_body Bd
  have e0 : s₁.heap = h0 := by rw [← hh, Bd.state]; rfl
  have N0 := Fr.nil n0
  have pre0 : ∀ t, Steps p.tables e below (s₁.setTop (mkF m 0 #[.val (.ref a1)] [])) t → Steps p.tables e below (s₁.setTop (entryFrame m #[(.ref a1)] 1)) t := fun t k => castTop (ef_rm1 m a1) k
  obtain ⟨T1, X1, e1, st1⟩ := initO X0 hx hZ hown (hw _ (List.mem_of_getElem? (i := 12) rfl)) (hw _ (List.mem_of_getElem? (i := 13) rfl)) (hw _ (List.mem_of_getElem? (i := 14) rfl)) e0 (g := (mkF m 1 #[.val (.ref a1)] [(.ref a1)])) rfl (by rw [hml]; rfl) rfl (hb hby d_jdk_30_method_1_code_1) (by decide) (W := 0) (by show 2 * 0 + _ ≤ _; exact Nat.le_of_eq rfl) (by decide)
  obtain ⟨fs, hr, hrun, hended, hW, hsame⟩ := X1.leave (v := none) (fun _ => rfl)
  refine ⟨_, _, pre0 _ ?_, hrun, hended, _, _, rfl, ?_, ⟨_, rfl⟩, hW, hsame.mono (by decide) (by decide)⟩
  · refine own_aloadN X0.here hx (hb hby d_jdk_30_method_1_code_0) rfl rfl ?_
    refine st1 _ ?_
    show Steps p.tables e below (T1.setTop (mkF m 4 #[.val (.ref a1)] [])) _
    exact X1.returnOut hx Bd.returns (hb hby d_jdk_30_method_1_code_4) hr
  · show Q1 Z a1 h0 n0 _ T1.heap _
    rw [e1]
    exact ⟨rfl, N0, rfl⟩
theorem ef_rm2 (m : MethodId) (x0 : Addr) (x1 : Int32) (x2 : Int32) (x3 : Int32) (x4 : Int32) (x5 : Int32) (x6 : Int32) : entryFrame m #[(.ref x0), (.int x1), (.int x2), (.int x3), (.int x4), (.int x5), (.int x6)] 7 = mkF m 0 #[.val (.ref x0), .val (.int x1), .val (.int x2), .val (.int x3), .val (.int x4), .val (.int x5), .val (.int x6)] [] := by first | (simp [entryFrame, mkF, argsToLocals, Value.category]; done) | rfl
theorem pn_dev_sluice_bench_Workload : plainName "dev/sluice/bench/Workload" = true := by first | (simp [plainName, overriddenIn]; done) | decide +kernel
def Q2 (Z : State) (a1 : Addr) (p1 : Int32) (p2 : Int32) (p3 : Int32) (p4 : Int32) (p5 : Int32) (p6 : Int32) (h0 : Heap) (n0 : Nat) (v : Option Value) (h : Heap) (L : List Loc) : Prop := v = none ∧ Fr n0 L ∧ Keep h0 h [a1] ∧ Exa Z h a1 "dev/sluice/bench/Workload" ∧ Fld Z h a1 "dev/sluice/bench/Workload" "items" "I" (.int p2)
theorem d_prog_30_method_1_code_0 : decode prog_30_method_1_code 0 = .ok (.aload_n 0, 1) := by decide +kernel
theorem d_prog_30_method_1_code_1 : decode prog_30_method_1_code 1 = .ok (.invokespecial 1, 3) := by decide +kernel
theorem pd_2829V : parseMethodDescriptor "()V" = some ⟨[], none⟩ := by decide +kernel
theorem d_prog_30_method_1_code_4 : decode prog_30_method_1_code 4 = .ok (.aload_n 0, 1) := by decide +kernel
theorem d_prog_30_method_1_code_5 : decode prog_30_method_1_code 5 = .ok (.iload_n 1, 1) := by decide +kernel
theorem d_prog_30_method_1_code_6 : decode prog_30_method_1_code 6 = .ok (.putfield 7, 3) := by decide +kernel
theorem d_prog_30_method_1_code_9 : decode prog_30_method_1_code 9 = .ok (.aload_n 0, 1) := by decide +kernel
theorem d_prog_30_method_1_code_10 : decode prog_30_method_1_code 10 = .ok (.iload_n 2, 1) := by decide +kernel
theorem d_prog_30_method_1_code_11 : decode prog_30_method_1_code 11 = .ok (.putfield 13, 3) := by decide +kernel
theorem d_prog_30_method_1_code_14 : decode prog_30_method_1_code 14 = .ok (.aload_n 0, 1) := by decide +kernel
theorem d_prog_30_method_1_code_15 : decode prog_30_method_1_code 15 = .ok (.iload_n 3, 1) := by decide +kernel
theorem d_prog_30_method_1_code_16 : decode prog_30_method_1_code 16 = .ok (.putfield 16, 3) := by decide +kernel
theorem d_prog_30_method_1_code_19 : decode prog_30_method_1_code 19 = .ok (.aload_n 0, 1) := by decide +kernel
theorem d_prog_30_method_1_code_20 : decode prog_30_method_1_code 20 = .ok (.iload 4, 2) := by decide +kernel
theorem d_prog_30_method_1_code_22 : decode prog_30_method_1_code 22 = .ok (.putfield 19, 3) := by decide +kernel
theorem d_prog_30_method_1_code_25 : decode prog_30_method_1_code 25 = .ok (.aload_n 0, 1) := by decide +kernel
theorem d_prog_30_method_1_code_26 : decode prog_30_method_1_code 26 = .ok (.iload 5, 2) := by decide +kernel
theorem d_prog_30_method_1_code_28 : decode prog_30_method_1_code 28 = .ok (.putfield 22, 3) := by decide +kernel
theorem d_prog_30_method_1_code_31 : decode prog_30_method_1_code 31 = .ok (.aload_n 0, 1) := by decide +kernel
theorem d_prog_30_method_1_code_32 : decode prog_30_method_1_code 32 = .ok (.iload 6, 2) := by decide +kernel
theorem d_prog_30_method_1_code_34 : decode prog_30_method_1_code 34 = .ok (.putfield 25, 3) := by decide +kernel
theorem d_prog_30_method_1_code_37 : decode prog_30_method_1_code 37 = .ok (.return_, 1) := by decide +kernel
set_option maxRecDepth 65536 in
set_option maxHeartbeats 40000000 in
theorem rm2 (l : Launch) (Z : State) (a0 : Array Value) (hw : ∀ d ∈ tables_1, d.before a0 Z = true) (ws : List Jvm.Cond) (a1 : Addr) (p1 : Int32) (p2 : Int32) (p3 : Int32) (p4 : Int32) (p5 : Int32) (p6 : Int32) (h0 : Heap) (n0 : Nat) (Z0 : n0 ≤ h0.size) (E1 : Exa Z h0 a1 "dev/sluice/bench/Workload") (g1 : n0 ≤ a1) (F_producers : Fld Z h0 a1 "dev/sluice/bench/Workload" "producers" "I" (.int (0 : Int32))) (F_items : Fld Z h0 a1 "dev/sluice/bench/Workload" "items" "I" (.int (0 : Int32))) (F_batchSize : Fld Z h0 a1 "dev/sluice/bench/Workload" "batchSize" "I" (.int (0 : Int32))) (F_writers : Fld Z h0 a1 "dev/sluice/bench/Workload" "writers" "I" (.int (0 : Int32))) (F_writerCostMicros : Fld Z h0 a1 "dev/sluice/bench/Workload" "writerCostMicros" "I" (.int (0 : Int32))) (F_lingerMillis : Fld Z h0 a1 "dev/sluice/bench/Workload" "lingerMillis" "I" (.int (0 : Int32))) :
    MetFree l (⟨"dev/sluice/bench/Workload", "<init>", "(IIIIII)V"⟩ : MethodName) (head1 (Jvm.Cond.code (⟨"dev/sluice/bench/Workload", "<init>", "(IIIIII)V"⟩ : MethodName) prog_30_method_1_code 7 none :: ws) ({ frames := 2, cells := 0, slots := 0, locals := 24 } : Room)) (fun a U => a = #[(.ref a1), (.int p1), (.int p2), (.int p3), (.int p4), (.int p5), (.int p6)] ∧ Z.Warmed39 U.vm ∧ U.heap = h0) (fun _ _ _ _ _ => True) (fun _ U o U' => ∃ v L, o = .returned v ∧ Q2 Z a1 p1 p2 p3 p4 p5 p6 h0 n0 v U'.heap L ∧ FrameEnd U o U' L ({ frames := 2, cells := 0, slots := 0, locals := 24 } : Room).cells ({ frames := 2, cells := 0, slots := 0, locals := 24 } : Room).slots) := by
  refine MetFree.of_bodySF (plainFor_of_name pn_dev_sluice_bench_Workload) hisR ?_
  intro p e s m args below meth c s₁ Bd hml0 hP hK
  obtain ⟨rfl, hZ, hh⟩ := hP
  have hx := Bd.exec
  have hby := Bd.bytes
  have hml : c.maxLocals = 7 := hml0
  have hown : s.vm.findClass "dev/sluice/bench/Workload" = some m.cls := findClass_of_methodNamed Bd.named
  have hnm := (name_of_methodNamed Bd.named Bd.method).1
  have X0 : Stand p l e ({ frames := 2, cells := 0, slots := 0, locals := 24 } : Room) s m #[(.ref a1), (.int p1), (.int p2), (.int p3), (.int p4), (.int p5), (.int p6)] below meth c s₁ [] 0 0 := Stand.of_body Bd
  have e0 : s₁.heap = h0 := by rw [← hh, Bd.state]; rfl
  have N0 := Fr.nil n0
  have pre0 : ∀ t, Steps p.tables e below (s₁.setTop (mkF m 0 #[.val (.ref a1), .val (.int p1), .val (.int p2), .val (.int p3), .val (.int p4), .val (.int p5), .val (.int p6)] [])) t → Steps p.tables e below (s₁.setTop (entryFrame m #[(.ref a1), (.int p1), (.int p2), (.int p3), (.int p4), (.int p5), (.int p6)] 7)) t := fun t k => castTop (ef_rm2 m a1 p1 p2 p3 p4 p5 p6) k
  obtain ⟨_, _, ⟨T2, L2, k2, n2⟩, -, X2, ⟨Lc2, hQ2, l2, y2, z2⟩, st2⟩ := X0.specialBack hx (y := (⟨"java/lang/Record", "<init>", "()V"⟩ : MethodName)) rfl hown (mvT hZ (hw _ (List.mem_of_getElem? (i := 7) rfl))) (mvT hZ (hw _ (List.mem_of_getElem? (i := 8) rfl))) (mvT hZ (hw _ (List.mem_of_getElem? (i := 11) rfl))) (by decide) (backOf (W := 0) (rm1 l Z a0 hw [] a1 h0 n0 Z0) hZ (hw _ (List.mem_of_getElem? (i := 11) rfl)) (hw _ (List.mem_of_getElem? (i := 10) rfl)) (by decide) (by decide)) (g := (mkF m 1 #[.val (.ref a1), .val (.int p1), .val (.int p2), .val (.int p3), .val (.int p4), .val (.int p5), .val (.int p6)] [(.ref a1)])) rfl (by rw [hml]; rfl) (Steps.refl _) (a := a1) (argsL := []) (rest := []) (lenOf pd_2829V rfl) rfl (by show 2 * 0 + _ ≤ _; exact Nat.le_of_eq rfl) (hb hby d_prog_30_method_1_code_1) (fun _ _ => ⟨rfl, e0, (by decide : 0 + 0 ≤ _), (by decide : 0 + 0 ≤ _)⟩)
  dsimp only [Pt.U, Pt.locs, Pt.cells, Pt.slots] at X2 l2 y2 z2 st2 hQ2
  subst l2 y2 z2
  obtain ⟨rfl, N2q, e2⟩ := hQ2
  have N2 := Fr.app N0 N2q
  obtain ⟨T3, h3, X3, e3, W3, st3⟩ := putF X2 hx hZ hown (host := "") (Or.inl (hw _ (List.mem_of_getElem? (i := 15) rfl))) Via.refl e2 F_producers E1 (Or.inr ⟨(hw _ (List.mem_of_getElem? (i := 16) rfl)), rfl, hnm⟩) (hw _ (List.mem_of_getElem? (i := 2) rfl)) (ty := .int) (by decide) rfl rfl (g := (mkF m 6 #[.val (.ref a1), .val (.int p1), .val (.int p2), .val (.int p3), .val (.int p4), .val (.int p5), .val (.int p6)] [(.int p1), (.ref a1)])) rfl rfl (hb hby d_prog_30_method_1_code_6)
  have f4 : Exa Z h3 a1 "dev/sluice/bench/Workload" := E1.wr W3
  have f6 : Fld Z h3 a1 "dev/sluice/bench/Workload" "items" "I" (.int 0) := F_items.other W3 (Or.inr (slot_ne (Or.inr (hw _ (List.mem_of_getElem? (i := 18) rfl))) (Or.inr (hw _ (List.mem_of_getElem? (i := 16) rfl))) (by decide) (t := .int) (t' := .int) (by decide) (by decide)))
  have f7 : Fld Z h3 a1 "dev/sluice/bench/Workload" "batchSize" "I" (.int 0) := F_batchSize.other W3 (Or.inr (slot_ne (Or.inr (hw _ (List.mem_of_getElem? (i := 20) rfl))) (Or.inr (hw _ (List.mem_of_getElem? (i := 16) rfl))) (by decide) (t := .int) (t' := .int) (by decide) (by decide)))
  have f8 : Fld Z h3 a1 "dev/sluice/bench/Workload" "writers" "I" (.int 0) := F_writers.other W3 (Or.inr (slot_ne (Or.inr (hw _ (List.mem_of_getElem? (i := 22) rfl))) (Or.inr (hw _ (List.mem_of_getElem? (i := 16) rfl))) (by decide) (t := .int) (t' := .int) (by decide) (by decide)))
  have f9 : Fld Z h3 a1 "dev/sluice/bench/Workload" "writerCostMicros" "I" (.int 0) := F_writerCostMicros.other W3 (Or.inr (slot_ne (Or.inr (hw _ (List.mem_of_getElem? (i := 24) rfl))) (Or.inr (hw _ (List.mem_of_getElem? (i := 16) rfl))) (by decide) (t := .int) (t' := .int) (by decide) (by decide)))
  have f10 : Fld Z h3 a1 "dev/sluice/bench/Workload" "lingerMillis" "I" (.int 0) := F_lingerMillis.other W3 (Or.inr (slot_ne (Or.inr (hw _ (List.mem_of_getElem? (i := 26) rfl))) (Or.inr (hw _ (List.mem_of_getElem? (i := 16) rfl))) (by decide) (t := .int) (t' := .int) (by decide) (by decide)))
  have f11 : Fld Z h3 a1 "dev/sluice/bench/Workload" "producers" "I" (.int p1) := F_producers.same W3
  have N3 := Fr.snoc X3 N2 g1
  have Z3 : n0 ≤ h3.size := Nat.le_trans Z0 (Keep.of_wr W3).1
  have K3 : Keep h0 h3 [a1] := (Keep.refl h0 [a1]).wr W3 (Or.inl (List.mem_of_getElem? (i := 0) rfl))
  obtain ⟨T12, h12, X12, e12, W12, st12⟩ := putF X3 hx hZ hown (host := "") (Or.inl (hw _ (List.mem_of_getElem? (i := 17) rfl))) Via.refl e3 f6 f4 (Or.inr ⟨(hw _ (List.mem_of_getElem? (i := 18) rfl)), rfl, hnm⟩) (hw _ (List.mem_of_getElem? (i := 2) rfl)) (ty := .int) (by decide) rfl rfl (g := (mkF m 11 #[.val (.ref a1), .val (.int p1), .val (.int p2), .val (.int p3), .val (.int p4), .val (.int p5), .val (.int p6)] [(.int p2), (.ref a1)])) rfl rfl (hb hby d_prog_30_method_1_code_11)
  have f13 : Exa Z h12 a1 "dev/sluice/bench/Workload" := f4.wr W12
  have f14 : Fld Z h12 a1 "dev/sluice/bench/Workload" "producers" "I" (.int p1) := f11.other W12 (Or.inr (slot_ne (Or.inr (hw _ (List.mem_of_getElem? (i := 16) rfl))) (Or.inr (hw _ (List.mem_of_getElem? (i := 18) rfl))) (by decide) (t := .int) (t' := .int) (by decide) (by decide)))
  have f16 : Fld Z h12 a1 "dev/sluice/bench/Workload" "batchSize" "I" (.int 0) := f7.other W12 (Or.inr (slot_ne (Or.inr (hw _ (List.mem_of_getElem? (i := 20) rfl))) (Or.inr (hw _ (List.mem_of_getElem? (i := 18) rfl))) (by decide) (t := .int) (t' := .int) (by decide) (by decide)))
  have f17 : Fld Z h12 a1 "dev/sluice/bench/Workload" "writers" "I" (.int 0) := f8.other W12 (Or.inr (slot_ne (Or.inr (hw _ (List.mem_of_getElem? (i := 22) rfl))) (Or.inr (hw _ (List.mem_of_getElem? (i := 18) rfl))) (by decide) (t := .int) (t' := .int) (by decide) (by decide)))
  have f18 : Fld Z h12 a1 "dev/sluice/bench/Workload" "writerCostMicros" "I" (.int 0) := f9.other W12 (Or.inr (slot_ne (Or.inr (hw _ (List.mem_of_getElem? (i := 24) rfl))) (Or.inr (hw _ (List.mem_of_getElem? (i := 18) rfl))) (by decide) (t := .int) (t' := .int) (by decide) (by decide)))
  have f19 : Fld Z h12 a1 "dev/sluice/bench/Workload" "lingerMillis" "I" (.int 0) := f10.other W12 (Or.inr (slot_ne (Or.inr (hw _ (List.mem_of_getElem? (i := 26) rfl))) (Or.inr (hw _ (List.mem_of_getElem? (i := 18) rfl))) (by decide) (t := .int) (t' := .int) (by decide) (by decide)))
  have f20 : Fld Z h12 a1 "dev/sluice/bench/Workload" "items" "I" (.int p2) := f6.same W12
  have N12 := Fr.snoc X12 N3 g1
  have Z12 : n0 ≤ h12.size := Nat.le_trans Z3 (Keep.of_wr W12).1
  have K12 : Keep h0 h12 [a1] := K3.wr W12 (Or.inl (List.mem_of_getElem? (i := 0) rfl))
  obtain ⟨T21, h21, X21, e21, W21, st21⟩ := putF X12 hx hZ hown (host := "") (Or.inl (hw _ (List.mem_of_getElem? (i := 19) rfl))) Via.refl e12 f16 f13 (Or.inr ⟨(hw _ (List.mem_of_getElem? (i := 20) rfl)), rfl, hnm⟩) (hw _ (List.mem_of_getElem? (i := 2) rfl)) (ty := .int) (by decide) rfl rfl (g := (mkF m 16 #[.val (.ref a1), .val (.int p1), .val (.int p2), .val (.int p3), .val (.int p4), .val (.int p5), .val (.int p6)] [(.int p3), (.ref a1)])) rfl rfl (hb hby d_prog_30_method_1_code_16)
  have f22 : Exa Z h21 a1 "dev/sluice/bench/Workload" := f13.wr W21
  have f23 : Fld Z h21 a1 "dev/sluice/bench/Workload" "producers" "I" (.int p1) := f14.other W21 (Or.inr (slot_ne (Or.inr (hw _ (List.mem_of_getElem? (i := 16) rfl))) (Or.inr (hw _ (List.mem_of_getElem? (i := 20) rfl))) (by decide) (t := .int) (t' := .int) (by decide) (by decide)))
  have f24 : Fld Z h21 a1 "dev/sluice/bench/Workload" "items" "I" (.int p2) := f20.other W21 (Or.inr (slot_ne (Or.inr (hw _ (List.mem_of_getElem? (i := 18) rfl))) (Or.inr (hw _ (List.mem_of_getElem? (i := 20) rfl))) (by decide) (t := .int) (t' := .int) (by decide) (by decide)))
  have f26 : Fld Z h21 a1 "dev/sluice/bench/Workload" "writers" "I" (.int 0) := f17.other W21 (Or.inr (slot_ne (Or.inr (hw _ (List.mem_of_getElem? (i := 22) rfl))) (Or.inr (hw _ (List.mem_of_getElem? (i := 20) rfl))) (by decide) (t := .int) (t' := .int) (by decide) (by decide)))
  have f27 : Fld Z h21 a1 "dev/sluice/bench/Workload" "writerCostMicros" "I" (.int 0) := f18.other W21 (Or.inr (slot_ne (Or.inr (hw _ (List.mem_of_getElem? (i := 24) rfl))) (Or.inr (hw _ (List.mem_of_getElem? (i := 20) rfl))) (by decide) (t := .int) (t' := .int) (by decide) (by decide)))
  have f28 : Fld Z h21 a1 "dev/sluice/bench/Workload" "lingerMillis" "I" (.int 0) := f19.other W21 (Or.inr (slot_ne (Or.inr (hw _ (List.mem_of_getElem? (i := 26) rfl))) (Or.inr (hw _ (List.mem_of_getElem? (i := 20) rfl))) (by decide) (t := .int) (t' := .int) (by decide) (by decide)))
  have f29 : Fld Z h21 a1 "dev/sluice/bench/Workload" "batchSize" "I" (.int p3) := f16.same W21
  have N21 := Fr.snoc X21 N12 g1
  have Z21 : n0 ≤ h21.size := Nat.le_trans Z12 (Keep.of_wr W21).1
  have K21 : Keep h0 h21 [a1] := K12.wr W21 (Or.inl (List.mem_of_getElem? (i := 0) rfl))
  obtain ⟨T30, h30, X30, e30, W30, st30⟩ := putF X21 hx hZ hown (host := "") (Or.inl (hw _ (List.mem_of_getElem? (i := 21) rfl))) Via.refl e21 f26 f22 (Or.inr ⟨(hw _ (List.mem_of_getElem? (i := 22) rfl)), rfl, hnm⟩) (hw _ (List.mem_of_getElem? (i := 2) rfl)) (ty := .int) (by decide) rfl rfl (g := (mkF m 22 #[.val (.ref a1), .val (.int p1), .val (.int p2), .val (.int p3), .val (.int p4), .val (.int p5), .val (.int p6)] [(.int p4), (.ref a1)])) rfl rfl (hb hby d_prog_30_method_1_code_22)
  have f31 : Exa Z h30 a1 "dev/sluice/bench/Workload" := f22.wr W30
  have f32 : Fld Z h30 a1 "dev/sluice/bench/Workload" "producers" "I" (.int p1) := f23.other W30 (Or.inr (slot_ne (Or.inr (hw _ (List.mem_of_getElem? (i := 16) rfl))) (Or.inr (hw _ (List.mem_of_getElem? (i := 22) rfl))) (by decide) (t := .int) (t' := .int) (by decide) (by decide)))
  have f33 : Fld Z h30 a1 "dev/sluice/bench/Workload" "items" "I" (.int p2) := f24.other W30 (Or.inr (slot_ne (Or.inr (hw _ (List.mem_of_getElem? (i := 18) rfl))) (Or.inr (hw _ (List.mem_of_getElem? (i := 22) rfl))) (by decide) (t := .int) (t' := .int) (by decide) (by decide)))
  have f34 : Fld Z h30 a1 "dev/sluice/bench/Workload" "batchSize" "I" (.int p3) := f29.other W30 (Or.inr (slot_ne (Or.inr (hw _ (List.mem_of_getElem? (i := 20) rfl))) (Or.inr (hw _ (List.mem_of_getElem? (i := 22) rfl))) (by decide) (t := .int) (t' := .int) (by decide) (by decide)))
  have f36 : Fld Z h30 a1 "dev/sluice/bench/Workload" "writerCostMicros" "I" (.int 0) := f27.other W30 (Or.inr (slot_ne (Or.inr (hw _ (List.mem_of_getElem? (i := 24) rfl))) (Or.inr (hw _ (List.mem_of_getElem? (i := 22) rfl))) (by decide) (t := .int) (t' := .int) (by decide) (by decide)))
  have f37 : Fld Z h30 a1 "dev/sluice/bench/Workload" "lingerMillis" "I" (.int 0) := f28.other W30 (Or.inr (slot_ne (Or.inr (hw _ (List.mem_of_getElem? (i := 26) rfl))) (Or.inr (hw _ (List.mem_of_getElem? (i := 22) rfl))) (by decide) (t := .int) (t' := .int) (by decide) (by decide)))
  have f38 : Fld Z h30 a1 "dev/sluice/bench/Workload" "writers" "I" (.int p4) := f26.same W30
  have N30 := Fr.snoc X30 N21 g1
  have Z30 : n0 ≤ h30.size := Nat.le_trans Z21 (Keep.of_wr W30).1
  have K30 : Keep h0 h30 [a1] := K21.wr W30 (Or.inl (List.mem_of_getElem? (i := 0) rfl))
  obtain ⟨T39, h39, X39, e39, W39, st39⟩ := putF X30 hx hZ hown (host := "") (Or.inl (hw _ (List.mem_of_getElem? (i := 23) rfl))) Via.refl e30 f36 f31 (Or.inr ⟨(hw _ (List.mem_of_getElem? (i := 24) rfl)), rfl, hnm⟩) (hw _ (List.mem_of_getElem? (i := 2) rfl)) (ty := .int) (by decide) rfl rfl (g := (mkF m 28 #[.val (.ref a1), .val (.int p1), .val (.int p2), .val (.int p3), .val (.int p4), .val (.int p5), .val (.int p6)] [(.int p5), (.ref a1)])) rfl rfl (hb hby d_prog_30_method_1_code_28)
  have f40 : Exa Z h39 a1 "dev/sluice/bench/Workload" := f31.wr W39
  have f41 : Fld Z h39 a1 "dev/sluice/bench/Workload" "producers" "I" (.int p1) := f32.other W39 (Or.inr (slot_ne (Or.inr (hw _ (List.mem_of_getElem? (i := 16) rfl))) (Or.inr (hw _ (List.mem_of_getElem? (i := 24) rfl))) (by decide) (t := .int) (t' := .int) (by decide) (by decide)))
  have f42 : Fld Z h39 a1 "dev/sluice/bench/Workload" "items" "I" (.int p2) := f33.other W39 (Or.inr (slot_ne (Or.inr (hw _ (List.mem_of_getElem? (i := 18) rfl))) (Or.inr (hw _ (List.mem_of_getElem? (i := 24) rfl))) (by decide) (t := .int) (t' := .int) (by decide) (by decide)))
  have f43 : Fld Z h39 a1 "dev/sluice/bench/Workload" "batchSize" "I" (.int p3) := f34.other W39 (Or.inr (slot_ne (Or.inr (hw _ (List.mem_of_getElem? (i := 20) rfl))) (Or.inr (hw _ (List.mem_of_getElem? (i := 24) rfl))) (by decide) (t := .int) (t' := .int) (by decide) (by decide)))
  have f44 : Fld Z h39 a1 "dev/sluice/bench/Workload" "writers" "I" (.int p4) := f38.other W39 (Or.inr (slot_ne (Or.inr (hw _ (List.mem_of_getElem? (i := 22) rfl))) (Or.inr (hw _ (List.mem_of_getElem? (i := 24) rfl))) (by decide) (t := .int) (t' := .int) (by decide) (by decide)))
  have f46 : Fld Z h39 a1 "dev/sluice/bench/Workload" "lingerMillis" "I" (.int 0) := f37.other W39 (Or.inr (slot_ne (Or.inr (hw _ (List.mem_of_getElem? (i := 26) rfl))) (Or.inr (hw _ (List.mem_of_getElem? (i := 24) rfl))) (by decide) (t := .int) (t' := .int) (by decide) (by decide)))
  have f47 : Fld Z h39 a1 "dev/sluice/bench/Workload" "writerCostMicros" "I" (.int p5) := f36.same W39
  have N39 := Fr.snoc X39 N30 g1
  have Z39 : n0 ≤ h39.size := Nat.le_trans Z30 (Keep.of_wr W39).1
  have K39 : Keep h0 h39 [a1] := K30.wr W39 (Or.inl (List.mem_of_getElem? (i := 0) rfl))
  obtain ⟨T48, h48, X48, e48, W48, st48⟩ := putF X39 hx hZ hown (host := "") (Or.inl (hw _ (List.mem_of_getElem? (i := 25) rfl))) Via.refl e39 f46 f40 (Or.inr ⟨(hw _ (List.mem_of_getElem? (i := 26) rfl)), rfl, hnm⟩) (hw _ (List.mem_of_getElem? (i := 2) rfl)) (ty := .int) (by decide) rfl rfl (g := (mkF m 34 #[.val (.ref a1), .val (.int p1), .val (.int p2), .val (.int p3), .val (.int p4), .val (.int p5), .val (.int p6)] [(.int p6), (.ref a1)])) rfl rfl (hb hby d_prog_30_method_1_code_34)
  have f49 : Exa Z h48 a1 "dev/sluice/bench/Workload" := f40.wr W48
  have f50 : Fld Z h48 a1 "dev/sluice/bench/Workload" "producers" "I" (.int p1) := f41.other W48 (Or.inr (slot_ne (Or.inr (hw _ (List.mem_of_getElem? (i := 16) rfl))) (Or.inr (hw _ (List.mem_of_getElem? (i := 26) rfl))) (by decide) (t := .int) (t' := .int) (by decide) (by decide)))
  have f51 : Fld Z h48 a1 "dev/sluice/bench/Workload" "items" "I" (.int p2) := f42.other W48 (Or.inr (slot_ne (Or.inr (hw _ (List.mem_of_getElem? (i := 18) rfl))) (Or.inr (hw _ (List.mem_of_getElem? (i := 26) rfl))) (by decide) (t := .int) (t' := .int) (by decide) (by decide)))
  have f52 : Fld Z h48 a1 "dev/sluice/bench/Workload" "batchSize" "I" (.int p3) := f43.other W48 (Or.inr (slot_ne (Or.inr (hw _ (List.mem_of_getElem? (i := 20) rfl))) (Or.inr (hw _ (List.mem_of_getElem? (i := 26) rfl))) (by decide) (t := .int) (t' := .int) (by decide) (by decide)))
  have f53 : Fld Z h48 a1 "dev/sluice/bench/Workload" "writers" "I" (.int p4) := f44.other W48 (Or.inr (slot_ne (Or.inr (hw _ (List.mem_of_getElem? (i := 22) rfl))) (Or.inr (hw _ (List.mem_of_getElem? (i := 26) rfl))) (by decide) (t := .int) (t' := .int) (by decide) (by decide)))
  have f54 : Fld Z h48 a1 "dev/sluice/bench/Workload" "writerCostMicros" "I" (.int p5) := f47.other W48 (Or.inr (slot_ne (Or.inr (hw _ (List.mem_of_getElem? (i := 24) rfl))) (Or.inr (hw _ (List.mem_of_getElem? (i := 26) rfl))) (by decide) (t := .int) (t' := .int) (by decide) (by decide)))
  have f56 : Fld Z h48 a1 "dev/sluice/bench/Workload" "lingerMillis" "I" (.int p6) := f46.same W48
  have N48 := Fr.snoc X48 N39 g1
  have Z48 : n0 ≤ h48.size := Nat.le_trans Z39 (Keep.of_wr W48).1
  have K48 : Keep h0 h48 [a1] := K39.wr W48 (Or.inl (List.mem_of_getElem? (i := 0) rfl))
  obtain ⟨fs, hr, hrun, hended, hW, hsame⟩ := X48.leave (v := none) (fun _ => rfl)
  refine ⟨_, _, pre0 _ ?_, hrun, hended, _, _, rfl, ?_, ⟨_, rfl⟩, hW, hsame.mono (by decide) (by decide)⟩
  · refine own_aloadN X0.here hx (hb hby d_prog_30_method_1_code_0) rfl rfl ?_
    refine st2.trans ?_
    show Steps p.tables e below (T2.setTop (mkF m 4 #[.val (.ref a1), .val (.int p1), .val (.int p2), .val (.int p3), .val (.int p4), .val (.int p5), .val (.int p6)] [])) _
    refine own_aloadN X2.here hx (hb hby d_prog_30_method_1_code_4) rfl rfl ?_
    refine own_iloadN X2.here hx (hb hby d_prog_30_method_1_code_5) rfl ?_
    refine st3 _ ?_
    show Steps p.tables e below (T3.setTop (mkF m 9 #[.val (.ref a1), .val (.int p1), .val (.int p2), .val (.int p3), .val (.int p4), .val (.int p5), .val (.int p6)] [])) _
    refine own_aloadN X3.here hx (hb hby d_prog_30_method_1_code_9) rfl rfl ?_
    refine own_iloadN X3.here hx (hb hby d_prog_30_method_1_code_10) rfl ?_
    refine st12 _ ?_
    show Steps p.tables e below (T12.setTop (mkF m 14 #[.val (.ref a1), .val (.int p1), .val (.int p2), .val (.int p3), .val (.int p4), .val (.int p5), .val (.int p6)] [])) _
    refine own_aloadN X12.here hx (hb hby d_prog_30_method_1_code_14) rfl rfl ?_
    refine own_iloadN X12.here hx (hb hby d_prog_30_method_1_code_15) rfl ?_
    refine st21 _ ?_
    show Steps p.tables e below (T21.setTop (mkF m 19 #[.val (.ref a1), .val (.int p1), .val (.int p2), .val (.int p3), .val (.int p4), .val (.int p5), .val (.int p6)] [])) _
    refine own_aloadN X21.here hx (hb hby d_prog_30_method_1_code_19) rfl rfl ?_
    refine own_iload X21.here hx (hb hby d_prog_30_method_1_code_20) rfl ?_
    refine st30 _ ?_
    show Steps p.tables e below (T30.setTop (mkF m 25 #[.val (.ref a1), .val (.int p1), .val (.int p2), .val (.int p3), .val (.int p4), .val (.int p5), .val (.int p6)] [])) _
    refine own_aloadN X30.here hx (hb hby d_prog_30_method_1_code_25) rfl rfl ?_
    refine own_iload X30.here hx (hb hby d_prog_30_method_1_code_26) rfl ?_
    refine st39 _ ?_
    show Steps p.tables e below (T39.setTop (mkF m 31 #[.val (.ref a1), .val (.int p1), .val (.int p2), .val (.int p3), .val (.int p4), .val (.int p5), .val (.int p6)] [])) _
    refine own_aloadN X39.here hx (hb hby d_prog_30_method_1_code_31) rfl rfl ?_
    refine own_iload X39.here hx (hb hby d_prog_30_method_1_code_32) rfl ?_
    refine st48 _ ?_
    show Steps p.tables e below (T48.setTop (mkF m 37 #[.val (.ref a1), .val (.int p1), .val (.int p2), .val (.int p3), .val (.int p4), .val (.int p5), .val (.int p6)] [])) _
    exact X48.returnOut hx Bd.returns (hb hby d_prog_30_method_1_code_37) hr
  · show Q2 Z a1 p1 p2 p3 p4 p5 p6 h0 n0 _ T48.heap _
    rw [e48]
    exact ⟨rfl, N48, K48, f49, f51⟩
theorem ef_rm3 (m : MethodId) (x0 : Addr) : entryFrame m #[(.ref x0)] 1 = mkF m 0 #[.val (.ref x0)] [] := by first | (simp [entryFrame, mkF, argsToLocals, Value.category]; done) | rfl
def Q3 (Z : State) (a1 : Addr) (k : Int32) (h0 : Heap) (n0 : Nat) (v : Option Value) (h : Heap) (L : List Loc) : Prop := v = some (.long (own_ids k)) ∧ Fr n0 L ∧ h = h0
theorem d_prog_30_method_3_code_0 : decode prog_30_method_3_code 0 = .ok (.aload_n 0, 1) := by decide +kernel
theorem d_prog_30_method_3_code_1 : decode prog_30_method_3_code 1 = .ok (.getfield 13, 3) := by decide +kernel
theorem d_prog_30_method_3_code_4 : decode prog_30_method_3_code 4 = .ok (.i2l, 1) := by decide +kernel
theorem d_prog_30_method_3_code_5 : decode prog_30_method_3_code 5 = .ok (.aload_n 0, 1) := by decide +kernel
theorem d_prog_30_method_3_code_6 : decode prog_30_method_3_code 6 = .ok (.getfield 13, 3) := by decide +kernel
theorem d_prog_30_method_3_code_9 : decode prog_30_method_3_code 9 = .ok (.iconst 1, 1) := by decide +kernel
theorem d_prog_30_method_3_code_10 : decode prog_30_method_3_code 10 = .ok (.isub, 1) := by decide +kernel
theorem d_prog_30_method_3_code_11 : decode prog_30_method_3_code 11 = .ok (.i2l, 1) := by decide +kernel
theorem d_prog_30_method_3_code_12 : decode prog_30_method_3_code 12 = .ok (.lmul, 1) := by decide +kernel
theorem d_prog_30_method_3_code_13 : decode prog_30_method_3_code 13 = .ok (.ldc2_w 28, 3) := by decide +kernel
theorem d_prog_30_method_3_code_16 : decode prog_30_method_3_code 16 = .ok (.ldiv, 1) := by decide +kernel
theorem d_prog_30_method_3_code_17 : decode prog_30_method_3_code 17 = .ok (.lreturn, 1) := by decide +kernel
set_option maxRecDepth 65536 in
set_option maxHeartbeats 40000000 in
theorem rm3 (l : Launch) (Z : State) (a0 : Array Value) (hw : ∀ d ∈ tables_1, d.before a0 Z = true) (ws : List Jvm.Cond) (a1 : Addr) (k : Int32) (h0 : Heap) (n0 : Nat) (Z0 : n0 ≤ h0.size) (F1 : Fld Z h0 a1 "dev/sluice/bench/Workload" "items" "I" (.int k)) :
    MetFree l (⟨"dev/sluice/bench/Workload", "idSum", "()J"⟩ : MethodName) (head1 (Jvm.Cond.code (⟨"dev/sluice/bench/Workload", "idSum", "()J"⟩ : MethodName) prog_30_method_3_code 1 (some .long) :: ws) ({ frames := 0, cells := 0, slots := 0, locals := 0 } : Room)) (fun a U => a = #[(.ref a1)] ∧ Z.Warmed39 U.vm ∧ U.heap = h0) (fun _ _ _ _ _ => True) (fun _ U o U' => ∃ v L, o = .returned v ∧ Q3 Z a1 k h0 n0 v U'.heap L ∧ FrameEnd U o U' L ({ frames := 0, cells := 0, slots := 0, locals := 0 } : Room).cells ({ frames := 0, cells := 0, slots := 0, locals := 0 } : Room).slots) := by
  refine MetFree.of_bodySF (plainFor_of_name pn_dev_sluice_bench_Workload) hisR ?_
  intro p e s m args below meth c s₁ Bd hml0 hP hK
  obtain ⟨rfl, hZ, hh⟩ := hP
  have hx := Bd.exec
  have hby := Bd.bytes
  have hml : c.maxLocals = 1 := hml0
  have hown : s.vm.findClass "dev/sluice/bench/Workload" = some m.cls := findClass_of_methodNamed Bd.named
  have hnm := (name_of_methodNamed Bd.named Bd.method).1
  have X0 : Stand p l e ({ frames := 0, cells := 0, slots := 0, locals := 0 } : Room) s m #[(.ref a1)] below meth c s₁ [] 0 0 := Stand.of_body Bd
  have e0 : s₁.heap = h0 := by rw [← hh, Bd.state]; rfl
  have N0 := Fr.nil n0
  have pre0 : ∀ t, Steps p.tables e below (s₁.setTop (mkF m 0 #[.val (.ref a1)] [])) t → Steps p.tables e below (s₁.setTop (entryFrame m #[(.ref a1)] 1)) t := fun t k => castTop (ef_rm3 m a1) k
  obtain ⟨T57, X57, e57, st57⟩ := getF X0 hx hZ hown (host := "") (Or.inl (hw _ (List.mem_of_getElem? (i := 17) rfl))) Via.refl e0 F1 (g := (mkF m 1 #[.val (.ref a1)] [(.ref a1)])) rfl rfl (hb hby d_prog_30_method_3_code_1)
  obtain ⟨T58, X58, e58, st58⟩ := getF X57 hx hZ hown (host := "") (Or.inl (hw _ (List.mem_of_getElem? (i := 17) rfl))) Via.refl e57 F1 (g := (mkF m 6 #[.val (.ref a1)] [(.ref a1), (.long (k.toInt64))])) rfl rfl (hb hby d_prog_30_method_3_code_6)
  obtain ⟨fs, hr, hrun, hended, hW, hsame⟩ := X58.leave (v := some (.long (((k.toInt64) * ((k - (1 : Int32)).toInt64)) / (2 : Int64)))) (fun h => by rw [Bd.returns] at h; cases h)
  refine ⟨_, _, pre0 _ ?_, hrun, hended, _, _, rfl, ?_, ⟨_, rfl⟩, hW, hsame.mono (by decide) (by decide)⟩
  · refine own_aloadN X0.here hx (hb hby d_prog_30_method_3_code_0) rfl rfl ?_
    refine st57 _ ?_
    show Steps p.tables e below (T57.setTop (mkF m 4 #[.val (.ref a1)] [(.int k)])) _
    refine own_i2l X57.here hx (hb hby d_prog_30_method_3_code_4) ?_
    refine own_aloadN X57.here hx (hb hby d_prog_30_method_3_code_5) rfl rfl ?_
    refine st58 _ ?_
    show Steps p.tables e below (T58.setTop (mkF m 9 #[.val (.ref a1)] [(.int k), (.long (k.toInt64))])) _
    refine own_iconst X58.here hx (1 : Int32) (hb hby d_prog_30_method_3_code_9) rfl ?_
    refine own_isub X58.here hx (hb hby d_prog_30_method_3_code_10) ?_
    refine own_i2l X58.here hx (hb hby d_prog_30_method_3_code_11) ?_
    refine own_lmul X58.here hx (hb hby d_prog_30_method_3_code_12) ?_
    refine X58.ldc2Long hx hown (mvT hZ (hw _ (List.mem_of_getElem? (i := 32) rfl))) (g := (mkF m 13 #[.val (.ref a1)] [(.long ((k.toInt64) * ((k - (1 : Int32)).toInt64)))])) rfl (hb hby d_prog_30_method_3_code_13) _ ?_
    show Steps p.tables e below (T58.setTop (mkF m 16 #[.val (.ref a1)] [(.long 2), (.long ((k.toInt64) * ((k - (1 : Int32)).toInt64)))])) _
    refine own_ldiv X58.here hx (hb hby d_prog_30_method_3_code_16) (by decide) ?_
    show Steps p.tables e below (T58.setTop (mkF m 17 #[.val (.ref a1)] [(.long (((k.toInt64) * ((k - (1 : Int32)).toInt64)) / (2 : Int64)))])) _
    jvm_step X58.here [X58.here.top, hx, (hb hby d_prog_30_method_3_code_17), X58.method', Bd.returns, narrow]
    first | (intro acts; rw [hr _ acts rfl rfl rfl]) | rw [hr _ _ rfl rfl rfl]
    exact Steps.refl _
  · show Q3 Z a1 k h0 n0 _ T58.heap _
    rw [e58]
    exact ⟨rfl, N0, rfl⟩
theorem ef_rm4 (m : MethodId) (x0 : Int32) : entryFrame m #[(.int x0)] 1 = mkF m 0 #[.val (.int x0)] [] := by first | (simp [entryFrame, mkF, argsToLocals, Value.category]; done) | rfl
theorem pn_dev_sluice_bench_WorkloadIdSumPinLaw : plainName "dev/sluice/bench/WorkloadIdSumPinLaw" = true := by first | (simp [plainName, overriddenIn]; done) | decide +kernel
def Q4 (Z : State) (p1 : Int32) (h0 : Heap) (n0 : Nat) (v : Option Value) (h : Heap) (L : List Loc) : Prop := v = some (.long (own_gauss p1)) ∧ Fr n0 L ∧ h = h0
theorem d_method_2_code_0 : decode method_2_code 0 = .ok (.iload_n 0, 1) := by decide +kernel
theorem d_method_2_code_1 : decode method_2_code 1 = .ok (.iconst 1, 1) := by decide +kernel
theorem d_method_2_code_2 : decode method_2_code 2 = .ok (.iand, 1) := by decide +kernel
theorem d_method_2_code_3 : decode method_2_code 3 = .ok (.ifCond .ne 13, 3) := by decide +kernel
theorem d_method_2_code_6 : decode method_2_code 6 = .ok (.iload_n 0, 1) := by decide +kernel
theorem d_method_2_code_7 : decode method_2_code 7 = .ok (.iconst 2, 1) := by decide +kernel
theorem d_method_2_code_8 : decode method_2_code 8 = .ok (.idiv, 1) := by decide +kernel
theorem d_method_2_code_9 : decode method_2_code 9 = .ok (.i2l, 1) := by decide +kernel
theorem d_method_2_code_10 : decode method_2_code 10 = .ok (.iload_n 0, 1) := by decide +kernel
theorem d_method_2_code_11 : decode method_2_code 11 = .ok (.iconst 1, 1) := by decide +kernel
theorem d_method_2_code_12 : decode method_2_code 12 = .ok (.isub, 1) := by decide +kernel
theorem d_method_2_code_13 : decode method_2_code 13 = .ok (.i2l, 1) := by decide +kernel
theorem d_method_2_code_14 : decode method_2_code 14 = .ok (.lmul, 1) := by decide +kernel
theorem d_method_2_code_15 : decode method_2_code 15 = .ok (.lreturn, 1) := by decide +kernel
theorem d_method_2_code_16 : decode method_2_code 16 = .ok (.iload_n 0, 1) := by decide +kernel
theorem d_method_2_code_17 : decode method_2_code 17 = .ok (.i2l, 1) := by decide +kernel
theorem d_method_2_code_18 : decode method_2_code 18 = .ok (.iload_n 0, 1) := by decide +kernel
theorem d_method_2_code_19 : decode method_2_code 19 = .ok (.iconst 1, 1) := by decide +kernel
theorem d_method_2_code_20 : decode method_2_code 20 = .ok (.isub, 1) := by decide +kernel
theorem d_method_2_code_21 : decode method_2_code 21 = .ok (.iconst 2, 1) := by decide +kernel
theorem d_method_2_code_22 : decode method_2_code 22 = .ok (.idiv, 1) := by decide +kernel
theorem d_method_2_code_23 : decode method_2_code 23 = .ok (.i2l, 1) := by decide +kernel
theorem d_method_2_code_24 : decode method_2_code 24 = .ok (.lmul, 1) := by decide +kernel
theorem d_method_2_code_25 : decode method_2_code 25 = .ok (.lreturn, 1) := by decide +kernel
set_option maxRecDepth 65536 in
set_option maxHeartbeats 40000000 in
theorem rm4 (l : Launch) (Z : State) (a0 : Array Value) (hw : ∀ d ∈ tables_1, d.before a0 Z = true) (ws : List Jvm.Cond) (p1 : Int32) (h0 : Heap) (n0 : Nat) (Z0 : n0 ≤ h0.size) :
    MetFree l (⟨"dev/sluice/bench/WorkloadIdSumPinLaw", "gauss", "(I)J"⟩ : MethodName) (head1 (Jvm.Cond.code (⟨"dev/sluice/bench/WorkloadIdSumPinLaw", "gauss", "(I)J"⟩ : MethodName) method_2_code 1 (some .long) :: ws) ({ frames := 0, cells := 0, slots := 0, locals := 0 } : Room)) (fun a U => a = #[(.int p1)] ∧ Z.Warmed39 U.vm ∧ U.heap = h0) (fun _ _ _ _ _ => True) (fun _ U o U' => ∃ v L, o = .returned v ∧ Q4 Z p1 h0 n0 v U'.heap L ∧ FrameEnd U o U' L ({ frames := 0, cells := 0, slots := 0, locals := 0 } : Room).cells ({ frames := 0, cells := 0, slots := 0, locals := 0 } : Room).slots) := by
  refine MetFree.of_bodySF (plainFor_of_name pn_dev_sluice_bench_WorkloadIdSumPinLaw) hisR ?_
  intro p e s m args below meth c s₁ Bd hml0 hP hK
  obtain ⟨rfl, hZ, hh⟩ := hP
  have hx := Bd.exec
  have hby := Bd.bytes
  have hml : c.maxLocals = 1 := hml0
  have hown : s.vm.findClass "dev/sluice/bench/WorkloadIdSumPinLaw" = some m.cls := findClass_of_methodNamed Bd.named
  have hnm := (name_of_methodNamed Bd.named Bd.method).1
  have X0 : Stand p l e ({ frames := 0, cells := 0, slots := 0, locals := 0 } : Room) s m #[(.int p1)] below meth c s₁ [] 0 0 := Stand.of_body Bd
  have e0 : s₁.heap = h0 := by rw [← hh, Bd.state]; rfl
  have N0 := Fr.nil n0
  have pre0 : ∀ t, Steps p.tables e below (s₁.setTop (mkF m 0 #[.val (.int p1)] [])) t → Steps p.tables e below (s₁.setTop (entryFrame m #[(.int p1)] 1)) t := fun t k => castTop (ef_rm4 m p1) k
  have G59 : ∀ t, Steps p.tables e below (s₁.setTop (mkF m 3 #[.val (.int p1)] [(.int (p1 &&& (1 : Int32)))])) t → Steps p.tables e below (s₁.setTop (mkF m 0 #[.val (.int p1)] [])) t := by
    intro tG kG
    refine own_iloadN X0.here hx (hb hby d_method_2_code_0) rfl ?_
    refine own_iconst X0.here hx (1 : Int32) (hb hby d_method_2_code_1) rfl ?_
    refine own_iand X0.here hx (hb hby d_method_2_code_2) ?_
    exact kG
  by_cases hc3 : (p1 &&& (1 : Int32)) = (0 : Int32)
  · obtain ⟨fs, hr, hrun, hended, hW, hsame⟩ := X0.leave (v := some (.long (((p1 / (2 : Int32)).toInt64) * ((p1 - (1 : Int32)).toInt64)))) (fun h => by rw [Bd.returns] at h; cases h)
    refine ⟨_, _, pre0 _ ?_, hrun, hended, _, _, rfl, ?_, ⟨_, rfl⟩, hW, hsame.mono (by decide) (by decide)⟩
    · refine G59 _ ?_
      refine own_ifNo X0.here hx (hb hby d_method_2_code_3) ((if0 _ _).trans (teq hc3).2) ?_
      refine own_iloadN X0.here hx (hb hby d_method_2_code_6) rfl ?_
      refine own_iconst X0.here hx (2 : Int32) (hb hby d_method_2_code_7) rfl ?_
      refine own_idiv X0.here hx (hb hby d_method_2_code_8) (by decide) ?_
      refine own_i2l X0.here hx (hb hby d_method_2_code_9) ?_
      refine own_iloadN X0.here hx (hb hby d_method_2_code_10) rfl ?_
      refine own_iconst X0.here hx (1 : Int32) (hb hby d_method_2_code_11) rfl ?_
      refine own_isub X0.here hx (hb hby d_method_2_code_12) ?_
      refine own_i2l X0.here hx (hb hby d_method_2_code_13) ?_
      refine own_lmul X0.here hx (hb hby d_method_2_code_14) ?_
      show Steps p.tables e below (s₁.setTop (mkF m 15 #[.val (.int p1)] [(.long (((p1 / (2 : Int32)).toInt64) * ((p1 - (1 : Int32)).toInt64)))])) _
      jvm_step X0.here [X0.here.top, hx, (hb hby d_method_2_code_15), X0.method', Bd.returns, narrow]
      first | (intro acts; rw [hr _ acts rfl rfl rfl]) | rw [hr _ _ rfl rfl rfl]
      exact Steps.refl _
    · show Q4 Z p1 h0 n0 _ s₁.heap _
      rw [e0]
      exact ⟨by simp only [own_gauss, if_pos hc3], N0, rfl⟩
  · obtain ⟨fs, hr, hrun, hended, hW, hsame⟩ := X0.leave (v := some (.long ((p1.toInt64) * (((p1 - (1 : Int32)) / (2 : Int32)).toInt64)))) (fun h => by rw [Bd.returns] at h; cases h)
    refine ⟨_, _, pre0 _ ?_, hrun, hended, _, _, rfl, ?_, ⟨_, rfl⟩, hW, hsame.mono (by decide) (by decide)⟩
    · refine G59 _ ?_
      refine own_ifYes X0.here hx 3 16 rfl (hb hby d_method_2_code_3) ((if0 _ _).trans (feq hc3).2) (by decide) (by decide) ?_
      refine own_iloadN X0.here hx (hb hby d_method_2_code_16) rfl ?_
      refine own_i2l X0.here hx (hb hby d_method_2_code_17) ?_
      refine own_iloadN X0.here hx (hb hby d_method_2_code_18) rfl ?_
      refine own_iconst X0.here hx (1 : Int32) (hb hby d_method_2_code_19) rfl ?_
      refine own_isub X0.here hx (hb hby d_method_2_code_20) ?_
      refine own_iconst X0.here hx (2 : Int32) (hb hby d_method_2_code_21) rfl ?_
      refine own_idiv X0.here hx (hb hby d_method_2_code_22) (by decide) ?_
      refine own_i2l X0.here hx (hb hby d_method_2_code_23) ?_
      refine own_lmul X0.here hx (hb hby d_method_2_code_24) ?_
      show Steps p.tables e below (s₁.setTop (mkF m 25 #[.val (.int p1)] [(.long ((p1.toInt64) * (((p1 - (1 : Int32)) / (2 : Int32)).toInt64)))])) _
      jvm_step X0.here [X0.here.top, hx, (hb hby d_method_2_code_25), X0.method', Bd.returns, narrow]
      first | (intro acts; rw [hr _ acts rfl rfl rfl]) | rw [hr _ _ rfl rfl rfl]
      exact Steps.refl _
    · show Q4 Z p1 h0 n0 _ s₁.heap _
      rw [e0]
      exact ⟨by simp only [own_gauss, if_neg hc3], N0, rfl⟩
theorem ef_rm0 (m : MethodId) (x0 : Int32) (x1 : Int32) (x2 : Int32) (x3 : Int32) (x4 : Int32) (x5 : Int32) : entryFrame m #[(.int x0), (.int x1), (.int x2), (.int x3), (.int x4), (.int x5)] maxLocals = mkF m 0 #[.val (.int x0), .val (.int x1), .val (.int x2), .val (.int x3), .val (.int x4), .val (.int x5), .unset, .unset] [] := by first | (simp [entryFrame, mkF, argsToLocals, Value.category, maxLocals]; done) | rfl
def Q0 (Z : State) (p0 : Int32) (p1 : Int32) (p2 : Int32) (p3 : Int32) (p4 : Int32) (p5 : Int32) (h0 : Heap) (n0 : Nat) (v : Option Value) (h : Heap) (L : List Loc) : Prop := v = some (.int (1 : Int32)) ∧ Fr n0 L
theorem pd_28IIIIII29V : parseMethodDescriptor "(IIIIII)V" = some ⟨[.int, .int, .int, .int, .int, .int], none⟩ := by decide +kernel
theorem pd_2829J : parseMethodDescriptor "()J" = some ⟨[], some .long⟩ := by decide +kernel
theorem pd_28I29J : parseMethodDescriptor "(I)J" = some ⟨[.int], some .long⟩ := by decide +kernel
set_option maxRecDepth 65536 in
set_option maxHeartbeats 40000000 in
theorem rm0 (l : Launch) (Z : State) (a0 : Array Value) (hw : ∀ d ∈ tables_1, d.before a0 Z = true) (ws : List Jvm.Cond) (p0 : Int32) (p1 : Int32) (p2 : Int32) (p3 : Int32) (p4 : Int32) (p5 : Int32) (h0 : Heap) (n0 : Nat) (Z0 : n0 ≤ h0.size) :
    MetFree l x (head1 (Jvm.Cond.code x code maxLocals ret :: ws) room_1) (fun a U => a = #[(.int p0), (.int p1), (.int p2), (.int p3), (.int p4), (.int p5)] ∧ Z.Warmed39 U.vm ∧ U.heap = h0) (fun _ _ _ _ _ => True) (fun _ U o U' => ∃ v L, o = .returned v ∧ Q0 Z p0 p1 p2 p3 p4 p5 h0 n0 v U'.heap L ∧ FrameEnd U o U' L 16 128) := by
  refine MetFree.of_bodySF (plainFor_of_name pn_dev_sluice_bench_WorkloadIdSumPinLaw) hisR ?_
  intro p e s m args below meth c s₁ Bd hml0 hP hK
  obtain ⟨rfl, hZ, hh⟩ := hP
  have hx := Bd.exec
  have hby := Bd.bytes
  have hml : c.maxLocals = 8 := hml0
  have hown : s.vm.findClass "dev/sluice/bench/WorkloadIdSumPinLaw" = some m.cls := findClass_of_methodNamed Bd.named
  have hnm := (name_of_methodNamed Bd.named Bd.method).1
  have X0 : Stand p l e room_1 s m #[(.int p0), (.int p1), (.int p2), (.int p3), (.int p4), (.int p5)] below meth c s₁ [] 0 0 := Stand.of_body Bd
  have e0 : s₁.heap = h0 := by rw [← hh, Bd.state]; rfl
  have N0 := Fr.nil n0
  have pre0 : ∀ t, Steps p.tables e below (s₁.setTop (mkF m 0 #[.val (.int p0), .val (.int p1), .val (.int p2), .val (.int p3), .val (.int p4), .val (.int p5), .unset, .unset] [])) t → Steps p.tables e below (s₁.setTop (entryFrame m #[(.int p0), (.int p1), (.int p2), (.int p3), (.int p4), (.int p5)] maxLocals)) t := fun t k => castTop (ef_rm0 m p0 p1 p2 p3 p4 p5) k
  obtain ⟨T60, h60, X60, e60, E60, A60, D60, -, st60⟩ := newO X0 hx hZ hown (hw _ (List.mem_of_getElem? (i := 1) rfl)) (hw _ (List.mem_of_getElem? (i := 2) rfl)) (hw _ (List.mem_of_getElem? (i := 3) rfl)) e0 (g := (mkF m 6 #[.val (.int p0), .val (.int p1), .val (.int p2), .val (.int p3), .val (.int p4), .val (.int p5), .val (.int (p0 &&& (2147483647 : Int32))), .unset] [])) rfl (hb hby at_6) (by decide) (by decide)
  obtain ⟨b60, g60⟩ : ∃ z, z = h0.size := ⟨_, rfl⟩
  rw [← g60] at A60 D60 st60
  have E60' := E60
  have gg60 : n0 ≤ b60 := Nat.le_trans Z0 (Nat.le_of_eq g60.symm)
  have Z60 : n0 ≤ h60.size := Nat.le_trans Z0 E60.1
  have f61 : Fld Z h60 b60 "dev/sluice/bench/Workload" "producers" "I" (.int 0) := D60 (Or.inr (hw _ (List.mem_of_getElem? (i := 16) rfl))) (ty := .int) (by decide)
  have f62 : Fld Z h60 b60 "dev/sluice/bench/Workload" "items" "I" (.int 0) := D60 (Or.inr (hw _ (List.mem_of_getElem? (i := 18) rfl))) (ty := .int) (by decide)
  have f63 : Fld Z h60 b60 "dev/sluice/bench/Workload" "batchSize" "I" (.int 0) := D60 (Or.inr (hw _ (List.mem_of_getElem? (i := 20) rfl))) (ty := .int) (by decide)
  have f64 : Fld Z h60 b60 "dev/sluice/bench/Workload" "writers" "I" (.int 0) := D60 (Or.inr (hw _ (List.mem_of_getElem? (i := 22) rfl))) (ty := .int) (by decide)
  have f65 : Fld Z h60 b60 "dev/sluice/bench/Workload" "writerCostMicros" "I" (.int 0) := D60 (Or.inr (hw _ (List.mem_of_getElem? (i := 24) rfl))) (ty := .int) (by decide)
  have f66 : Fld Z h60 b60 "dev/sluice/bench/Workload" "lingerMillis" "I" (.int 0) := D60 (Or.inr (hw _ (List.mem_of_getElem? (i := 26) rfl))) (ty := .int) (by decide)
  obtain ⟨_, _, ⟨T67, L67, k67, n67⟩, -, X67, ⟨Lc67, hQ67, l67, y67, z67⟩, st67⟩ := X60.specialBack hx (y := (⟨"dev/sluice/bench/Workload", "<init>", "(IIIIII)V"⟩ : MethodName)) rfl hown (mvT hZ (hw _ (List.mem_of_getElem? (i := 4) rfl))) (mvT hZ (hw _ (List.mem_of_getElem? (i := 5) rfl))) (mvT hZ (hw _ (List.mem_of_getElem? (i := 6) rfl))) (by decide) (backOf (W := 1) (rm2 l Z a0 hw [] b60 p1 (p0 &&& (2147483647 : Int32)) p2 p3 p4 p5 h60 n0 Z60 A60 gg60 f61 f62 f63 f64 f65 f66) hZ (hw _ (List.mem_of_getElem? (i := 6) rfl)) (hw _ (List.mem_of_getElem? (i := 3) rfl)) (by decide) (by decide)) (g := (mkF m 19 #[.val (.int p0), .val (.int p1), .val (.int p2), .val (.int p3), .val (.int p4), .val (.int p5), .val (.int (p0 &&& (2147483647 : Int32))), .unset] [(.int p5), (.int p4), (.int p3), (.int p2), (.int (p0 &&& (2147483647 : Int32))), (.int p1), (.ref b60), (.ref b60)])) rfl (by rw [hml]; rfl) (Steps.refl _) (a := b60) (argsL := [(.int p1), (.int (p0 &&& (2147483647 : Int32))), (.int p2), (.int p3), (.int p4), (.int p5)]) (rest := [(.ref b60)]) (lenOf pd_28IIIIII29V rfl) rfl (by show 2 * 0 + _ ≤ _; exact Nat.le_of_eq rfl) (hb hby at_19) (fun _ _ => ⟨rfl, e60, (by decide : 1 + 0 ≤ _), (by decide : 6 + 0 ≤ _)⟩)
  dsimp only [Pt.U, Pt.locs, Pt.cells, Pt.slots] at X67 l67 y67 z67 st67 hQ67
  subst l67 y67 z67
  obtain ⟨rfl, N67q, K67, E67x, F67x⟩ := hQ67
  have N67 := Fr.app N0 N67q
  have Z67 : n0 ≤ T67.heap.size := Nat.le_trans Z60 K67.1
  obtain ⟨cq68, kq68, q68a, q68b, q68c⟩ := isOf hZ rfl E67x
  obtain ⟨_, _, ⟨T68, L68, k68, n68⟩, -, X68, ⟨Lc68, hQ68, l68, y68, z68⟩, st68⟩ := X67.virtualBack hx (y := (⟨"dev/sluice/bench/Workload", "idSum", "()J"⟩ : MethodName)) (z := (⟨"dev/sluice/bench/Workload", "idSum", "()J"⟩ : MethodName)) hown (mvT hZ (hw _ (List.mem_of_getElem? (i := 27) rfl))) (mvT hZ (hw _ (List.mem_of_getElem? (i := 28) rfl))) (notFace_of_selects (args := #[]) (mvT hZ (hw _ (List.mem_of_getElem? (i := 30) rfl)))) (mvT hZ (hw _ (List.mem_of_getElem? (i := 30) rfl))) (mvT hZ (hw _ (List.mem_of_getElem? (i := 29) rfl))) (by decide) (backOf (W := 0) (rm3 l Z a0 hw [] b60 (p0 &&& (2147483647 : Int32)) T67.heap n0 Z67 F67x) hZ (hw _ (List.mem_of_getElem? (i := 31) rfl)) (hw _ (List.mem_of_getElem? (i := 3) rfl)) (by decide) (by decide)) q68a q68c (g := (mkF m 26 #[.val (.int p0), .val (.int p1), .val (.int p2), .val (.int p3), .val (.int p4), .val (.int p5), .val (.int (p0 &&& (2147483647 : Int32))), .val (.ref b60)] [(.ref b60)])) rfl (by rw [hml]; rfl) (Steps.refl _) (argsL := []) (rest := []) (lenOf pd_2829J rfl) rfl (by show 2 * 0 + _ ≤ _; exact Nat.le_of_eq rfl) (hb hby at_26) (fun _ _ => ⟨rfl, rfl, (by decide : 1 + 0 ≤ _), (by decide : 6 + 0 ≤ _)⟩)
  dsimp only [Pt.U, Pt.locs, Pt.cells, Pt.slots] at X68 l68 y68 z68 st68 hQ68
  subst l68 y68 z68
  obtain ⟨rfl, N68q, e68⟩ := hQ68
  have N68 := Fr.app N67 N68q
  obtain ⟨_, _, ⟨T69, L69, k69, n69⟩, -, X69, ⟨Lc69, hQ69, l69, y69, z69⟩, st69⟩ := Jvm.LawKit.callS X68 hx (y := (⟨"dev/sluice/bench/WorkloadIdSumPinLaw", "gauss", "(I)J"⟩ : MethodName)) hown (mvT hZ (hw _ (List.mem_of_getElem? (i := 33) rfl))) (mvT hZ (hw _ (List.mem_of_getElem? (i := 34) rfl))) (mvT hZ (hw _ (List.mem_of_getElem? (i := 35) rfl))) (mvT hZ (hw _ (List.mem_of_getElem? (i := 36) rfl))) (by decide) (backOf (W := 2) (rm4 l Z a0 hw [] (p0 &&& (2147483647 : Int32)) T67.heap n0 Z67) hZ (hw _ (List.mem_of_getElem? (i := 36) rfl)) (hw _ (List.mem_of_getElem? (i := 35) rfl)) (by decide) (by decide)) (g := (mkF m 31 #[.val (.int p0), .val (.int p1), .val (.int p2), .val (.int p3), .val (.int p4), .val (.int p5), .val (.int (p0 &&& (2147483647 : Int32))), .val (.ref b60)] [(.int (p0 &&& (2147483647 : Int32))), (.long (own_ids (p0 &&& (2147483647 : Int32))))])) rfl (by rw [hml]; rfl) (argsL := [(.int (p0 &&& (2147483647 : Int32)))]) (rest := [(.long (own_ids (p0 &&& (2147483647 : Int32))))]) (lenOf pd_28I29J rfl) rfl (by show 2 * 0 + _ ≤ _; exact Nat.le_of_eq rfl) (hb hby at_31) (fun _ _ => ⟨rfl, e68, (by decide : 1 + 0 ≤ _), (by decide : 6 + 0 ≤ _)⟩)
  dsimp only [Pt.U, Pt.locs, Pt.cells, Pt.slots] at X69 l69 y69 z69 st69 hQ69
  subst l69 y69 z69
  obtain ⟨rfl, N69q, e69⟩ := hQ69
  have N69 := Fr.app N68 N69q
  obtain ⟨fs, hr, hrun, hended, hW, hsame⟩ := X69.leave (v := some (.int 1)) (fun h => by rw [Bd.returns] at h; cases h)
  refine ⟨_, _, pre0 _ ?_, hrun, hended, _, _, rfl, ?_, ⟨_, rfl⟩, hW, hsame.mono (by decide) (by decide)⟩
  · refine own_iloadN X0.here hx (hb hby at_0) rfl ?_
    refine X0.ldcInt hx hown (mvT hZ (hw _ (List.mem_of_getElem? (i := 0) rfl))) (g := (mkF m 1 #[.val (.int p0), .val (.int p1), .val (.int p2), .val (.int p3), .val (.int p4), .val (.int p5), .unset, .unset] [(.int p0)])) rfl (hb hby at_1) _ ?_
    show Steps p.tables e below (s₁.setTop (mkF m 3 #[.val (.int p0), .val (.int p1), .val (.int p2), .val (.int p3), .val (.int p4), .val (.int p5), .unset, .unset] [(.int 2147483647), (.int p0)])) _
    refine own_iand X0.here hx (hb hby at_3) ?_
    refine own_istore X0.here hx (hb hby at_4) (l' := #[.val (.int p0), .val (.int p1), .val (.int p2), .val (.int p3), .val (.int p4), .val (.int p5), .val (.int (p0 &&& (2147483647 : Int32))), .unset]) rfl ?_
    refine st60 _ ?_
    show Steps p.tables e below (T60.setTop (mkF m 9 #[.val (.int p0), .val (.int p1), .val (.int p2), .val (.int p3), .val (.int p4), .val (.int p5), .val (.int (p0 &&& (2147483647 : Int32))), .unset] [(.ref b60)])) _
    refine own_dup X60.here hx (hb hby at_9) rfl ?_
    refine own_iloadN X60.here hx (hb hby at_10) rfl ?_
    refine own_iload X60.here hx (hb hby at_11) rfl ?_
    refine own_iloadN X60.here hx (hb hby at_13) rfl ?_
    refine own_iloadN X60.here hx (hb hby at_14) rfl ?_
    refine own_iload X60.here hx (hb hby at_15) rfl ?_
    refine own_iload X60.here hx (hb hby at_17) rfl ?_
    refine st67.trans ?_
    show Steps p.tables e below (T67.setTop (mkF m 22 #[.val (.int p0), .val (.int p1), .val (.int p2), .val (.int p3), .val (.int p4), .val (.int p5), .val (.int (p0 &&& (2147483647 : Int32))), .unset] [(.ref b60)])) _
    refine own_astore X67.here hx (hb hby at_22) rfl (l' := #[.val (.int p0), .val (.int p1), .val (.int p2), .val (.int p3), .val (.int p4), .val (.int p5), .val (.int (p0 &&& (2147483647 : Int32))), .val (.ref b60)]) rfl ?_
    refine own_aload X67.here hx (hb hby at_24) rfl rfl ?_
    refine st68.trans ?_
    show Steps p.tables e below (T68.setTop (mkF m 29 #[.val (.int p0), .val (.int p1), .val (.int p2), .val (.int p3), .val (.int p4), .val (.int p5), .val (.int (p0 &&& (2147483647 : Int32))), .val (.ref b60)] [(.long (own_ids (p0 &&& (2147483647 : Int32))))])) _
    refine own_iload X68.here hx (hb hby at_29) rfl ?_
    refine st69 _ ?_
    show Steps p.tables e below (T69.setTop (mkF m 34 #[.val (.int p0), .val (.int p1), .val (.int p2), .val (.int p3), .val (.int p4), .val (.int p5), .val (.int (p0 &&& (2147483647 : Int32))), .val (.ref b60)] [(.long (own_gauss (p0 &&& (2147483647 : Int32)))), (.long (own_ids (p0 &&& (2147483647 : Int32))))])) _
    refine own_lcmp X69.here hx (hb hby at_34) ?_
    refine own_ifNo X69.here hx (hb hby at_35) ((if0 _ _).trans (teq ((lw_eq _ _).mpr (own_key p0))).2) ?_
    refine own_iconst X69.here hx (1 : Int32) (hb hby at_38) rfl ?_
    refine own_goto X69.here hx 39 43 rfl (hb hby at_39) (by decide) (by decide) ?_
    exact retN X69 hx (t := .boolean) Bd.returns (by simp) (hb hby at_43) hr
  · show Q0 Z p0 p1 p2 p3 p4 p5 h0 n0 _ T69.heap _
    rw [e69]
    exact ⟨rfl, N69⟩
set_option maxRecDepth 65536 in
set_option maxHeartbeats 40000000 in
theorem comes_1 {Post : Tables → Env → Array Value → State → Outcome → State → Prop} (hpost : ∀ tb e args s v u, (limb_1_1.after args s (.returned v) u = true ∧ limb_1_2.after args s (.returned v) u = true ∧ True) → FrameEnd s (.returned v) u (Jvm.fieldLocs frame_1_writes args s ++ Jvm.arrayLocs frame_1_arrays args s ++ Jvm.staticLocs frame_1_statics s) 16 128 → Post tb e args s (.returned v) u) :
    ArmFor flags0 classFile x code maxLocals ret World_1 tables_1 room_1 Calls_1 rest_1 Pre_1 Post := by
  intro l hfl _ _ p e ha hc hk s m args below hf hA hF happ hP
  obtain ⟨hcalls, hrest, hpre⟩ := hP
  obtain ⟨-, -, -, hnamed, -, -, -, hat⟩ := (Spec.applies_iff hf).mp happ
  obtain ⟨hg, hn⟩ := and_e (Cond.before_iff.mp (show (Jvm.Cond.and given_1 narrow_1).before args s = true from hpre))
  obtain ⟨gv1, gv2⟩ := and_e hg
  obtain ⟨gv3, gv4⟩ := and_e gv2
  obtain ⟨gv5, gv6⟩ := and_e gv4
  obtain ⟨gv7, gv8⟩ := and_e gv6
  obtain ⟨gv9, gv10⟩ := and_e gv8
  obtain ⟨gv11, gv12⟩ := and_e gv10
  obtain ⟨w0, w1, w2, w3, w4, w5, rfl⟩ : ∃ w0 w1 w2 w3 w4 w5 : Value, args = #[w0, w1, w2, w3, w4, w5] := by
    have hs : args.size = 6 := by simpa [Cond.value, given_1] using gv1
    obtain ⟨L⟩ := args
    match L, hs with
    | [w0, w1, w2, w3, w4, w5], _ => exact ⟨w0, w1, w2, w3, w4, w5, rfl⟩
  have hw := fun d (hd : d ∈ tables_1) => atoms_spec (ws := Jvm.Cond.code x code maxLocals ret :: tables_1) hat d (List.mem_cons_of_mem _ hd)
  have hfit : Fit s := fun {y c} hc i hi => by
    obtain ⟨ha, rfl⟩ := Array.getElem?_eq_some_iff.mp hc
    have q := List.all_eq_true.mp ((Array.all_eq_true_iff_forall_mem.mp hF) _ (Array.getElem_mem ha)) i (List.mem_range.mpr hi)
    simpa [Array.getElem?_eq_getElem hi] using q
  obtain ⟨i0, ei0⟩ := is_v gv3
  obtain rfl : w0 = (.int i0) := Option.some.inj ei0
  obtain ⟨i1, ei1⟩ := is_v gv5
  obtain rfl : w1 = (.int i1) := Option.some.inj ei1
  obtain ⟨i2, ei2⟩ := is_v gv7
  obtain rfl : w2 = (.int i2) := Option.some.inj ei2
  obtain ⟨i3, ei3⟩ := is_v gv9
  obtain rfl : w3 = (.int i3) := Option.some.inj ei3
  obtain ⟨i4, ei4⟩ := is_v gv11
  obtain rfl : w4 = (.int i4) := Option.some.inj ei4
  obtain ⟨i5, ei5⟩ := is_v gv12
  obtain rfl : w5 = (.int i5) := Option.some.inj ei5
  obtain ⟨n, o, h1, h2, h3, _, L, rfl, ⟨rfl, N⟩, hq⟩ := rm0 l s _ hw tables_1 i0 i1 i2 i3 i4 i5  s.heap s.heap.size (Nat.le_refl _)  p e ha hc hk s m _ below hf ((Spec.applies_iff_loose hf).mp happ).1 ⟨rfl, State.Warmed39.refl s, rfl⟩ trivial
  refine ⟨n, _, h1, h2, h3, hpost _ _ _ _ _ _ ⟨Cond.after_iff.mpr rfl, Cond.after_iff.mpr (eq_i res_at (Term.int_eval (1)) rfl), trivial⟩ ⟨hq.1, hq.2.1, (hq.2.2.sift fun y hy => Or.inr (N y hy)).mono (by decide) (by decide)⟩⟩
theorem main_1_1 : Claimed_1_1 := comes_1 fun _ _ _ _ _ _ h hF => ⟨h.1, hF⟩
theorem main_1_2 : Claimed_1_2 := comes_1 fun _ _ _ _ _ _ h hF => ⟨h.2.1, hF⟩
end Jvm.Pilot.@@N@@
namespace Jvm.Pilot.@@N@@
open Jvm Jvm.ClassFile Sem Op Lib Jvm.Free Jvm.Stand Jvm.Pilot.@@N@@.Jvm.D
/-! MADE BY PROGRAM (witnessworld.py) out of the Statement's table words and the real class files: 10 classes; the members and pool entries that the words name. The judged class is class 1, her method 2. -/
namespace start1
open Jvm.ClassFile
def u (s : String) : CpInfo := .utf8 (stringToUtf16 s)
/-- a pool by its gaps: so many unusable entries, then the entry; so many at the end -/
def gap : Nat → List CpInfo → List CpInfo
  | 0, r => r
  | n + 1, r => .unusable :: gap n r
def poolList (es : List (Nat × CpInfo)) (last : Nat) : List CpInfo := es.foldr (fun e r => gap e.1 (e.2 :: r)) (gap last [])
def pool (es : List (Nat × CpInfo)) (last : Nat) : Array CpInfo := ⟨poolList es last⟩
def fileOf (pool : Array CpInfo) (this : Nat) (attrs : Array Attribute := #[]) (ms : Array MethodInfo := #[]) (fl : Nat := 33) (sup : Nat := 0) (ifs : Array Nat := #[]) (fds : Array FieldInfo := #[]) : ClassFile where
  minorVersion := 0
  majorVersion := 65
  constantPool := pool
  accessFlags := fl
  thisClass := this
  superClass := sup
  interfaces := ifs
  fields := fds
  methods := ms
  attributes := attrs
def plain (name : String) (sup : Option ClassId) : Class where
  name := name
  kind := .ordinary
  loader := none
  accessFlags := 33
  super := sup
  interfaces := #[]
  cf := none
  fields := #[]
  methods := #[]
  instanceTypes := #[]
  staticTypes := #[]
  resolved := #[]
  callSites := []
  init := .initialized
  statics := none
  mirror := none

def pool0 : Array CpInfo := pool [(5, u "<init>"), (0, u "()V"), (1, .class_ 10), (1, u "java/lang/Object")] 113

def k0c0 : Code := { maxStack := 0, maxLocals := 1, code := object_method_1_code, exceptionTable := #[], attributes := #[] }
def k0m0 : Method := { name := "<init>", desc := "()V", sig := { parameters := [], returnType := none }, accessFlags := 1, code := some k0c0 }
/-- java/lang/Object -/
def k0 : Class := { plain "java/lang/Object" none with
  accessFlags := 33
  interfaces := #[]
  cf := some (fileOf pool0 8 #[] #[{ accessFlags := 1, nameIndex := 5, descriptorIndex := 6, attributes := #[] }] 33 0 #[] #[])
  fields := #[]
  methods := #[k0m0]
  instanceTypes := #[]
  staticTypes := #[]
  resolved := Array.replicate 124 none
  statics := none }

def pool1 : Array CpInfo := pool [(2, .class_ 4), (1, u "java/lang/Object"), (0, u "<init>"), (0, u "()V"), (0, .integer 2147483647), (0, .class_ 9), (0, u "dev/sluice/bench/Workload"), (0, .methodref 8 11), (0, .nameAndType 5 12), (0, u "(IIIIII)V"), (0, .methodref 8 14), (0, .nameAndType 15 16), (0, u "idSum"), (0, u "()J"), (0, .methodref 18 19), (0, .class_ 20), (0, .nameAndType 21 22), (0, u "dev/sluice/bench/WorkloadIdSumPinLaw"), (0, u "gauss"), (0, u "(I)J"), (3, u "law"), (0, u "(IIIIII)Z")] 2

def k1m0 : Method := { name := "<init>", desc := "()V", sig := { parameters := [], returnType := none }, accessFlags := 2, code := none }
def k1c1 : Code := { maxStack := 4, maxLocals := 1, code := method_2_code, exceptionTable := #[], attributes := #[] }
def k1m1 : Method := { name := "gauss", desc := "(I)J", sig := { parameters := [.int], returnType := some .long }, accessFlags := 10, code := some k1c1 }
def k1c2 : Code := { maxStack := 8, maxLocals := 8, code := code, exceptionTable := #[], attributes := #[] }
def k1m2 : Method := { name := "law", desc := "(IIIIII)Z", sig := { parameters := [.int, .int, .int, .int, .int, .int], returnType := some .boolean }, accessFlags := 9, code := some k1c2 }
/-- dev/sluice/bench/WorkloadIdSumPinLaw -/
def k1 : Class := { plain "dev/sluice/bench/WorkloadIdSumPinLaw" (some 0) with
  accessFlags := 49
  interfaces := #[]
  cf := some (fileOf pool1 18 #[] #[{ accessFlags := 2, nameIndex := 5, descriptorIndex := 6, attributes := #[] }, { accessFlags := 10, nameIndex := 21, descriptorIndex := 22, attributes := #[] }, { accessFlags := 9, nameIndex := 26, descriptorIndex := 27, attributes := #[] }] 49 2 #[] #[])
  fields := #[]
  methods := #[k1m0, k1m1, k1m2]
  instanceTypes := #[]
  staticTypes := #[]
  resolved := Array.replicate 30 none
  statics := none }

def pool2 : Array CpInfo := pool [(1, .methodref 2 3), (0, .class_ 4), (0, .nameAndType 5 6), (0, u "java/lang/Object"), (0, u "<init>"), (0, u "()V"), (0, .class_ 8), (0, u "java/lang/Record")] 13

def k2c0 : Code := { maxStack := 1, maxLocals := 1, code := jdk_30_method_1_code, exceptionTable := #[], attributes := #[] }
def k2m0 : Method := { name := "<init>", desc := "()V", sig := { parameters := [], returnType := none }, accessFlags := 4, code := some k2c0 }
/-- java/lang/Record -/
def k2 : Class := { plain "java/lang/Record" (some 0) with
  accessFlags := 1057
  interfaces := #[]
  cf := some (fileOf pool2 7 #[] #[{ accessFlags := 4, nameIndex := 5, descriptorIndex := 6, attributes := #[] }] 1057 2 #[] #[])
  fields := #[]
  methods := #[k2m0]
  instanceTypes := #[]
  staticTypes := #[]
  resolved := Array.replicate 22 none
  statics := none }

def pool3 : Array CpInfo := pool [(1, .methodref 2 3), (0, .class_ 4), (0, .nameAndType 5 6), (0, u "java/lang/Record"), (0, u "<init>"), (0, u "()V"), (0, .fieldref 8 9), (0, .class_ 10), (0, .nameAndType 11 12), (0, u "dev/sluice/bench/Workload"), (0, u "producers"), (0, u "I"), (0, .fieldref 8 14), (0, .nameAndType 15 12), (0, u "items"), (0, .fieldref 8 17), (0, .nameAndType 18 12), (0, u "batchSize"), (0, .fieldref 8 20), (0, .nameAndType 21 12), (0, u "writers"), (0, .fieldref 8 23), (0, .nameAndType 24 12), (0, u "writerCostMicros"), (0, .fieldref 8 26), (0, .nameAndType 27 12), (0, u "lingerMillis"), (0, .long 2), (5, u "(IIIIII)V"), (17, u "idSum"), (0, u "()J")] 32

def k3c0 : Code := { maxStack := 2, maxLocals := 7, code := prog_30_method_1_code, exceptionTable := #[], attributes := #[] }
def k3m0 : Method := { name := "<init>", desc := "(IIIIII)V", sig := { parameters := [.int, .int, .int, .int, .int, .int], returnType := none }, accessFlags := 0, code := some k3c0 }
def k3c1 : Code := { maxStack := 4, maxLocals := 1, code := prog_30_method_3_code, exceptionTable := #[], attributes := #[] }
def k3m1 : Method := { name := "idSum", desc := "()J", sig := { parameters := [], returnType := some .long }, accessFlags := 0, code := some k3c1 }
/-- dev/sluice/bench/Workload -/
def k3 : Class := { plain "dev/sluice/bench/Workload" (some 2) with
  accessFlags := 48
  interfaces := #[]
  cf := some (fileOf pool3 8 #[] #[{ accessFlags := 0, nameIndex := 5, descriptorIndex := 34, attributes := #[] }, { accessFlags := 0, nameIndex := 52, descriptorIndex := 53, attributes := #[] }] 48 2 #[] #[{ accessFlags := 18, nameIndex := 11, descriptorIndex := 12, attributes := #[] }, { accessFlags := 18, nameIndex := 15, descriptorIndex := 12, attributes := #[] }, { accessFlags := 18, nameIndex := 18, descriptorIndex := 12, attributes := #[] }, { accessFlags := 18, nameIndex := 21, descriptorIndex := 12, attributes := #[] }, { accessFlags := 18, nameIndex := 24, descriptorIndex := 12, attributes := #[] }, { accessFlags := 18, nameIndex := 27, descriptorIndex := 12, attributes := #[] }])
  fields := #[{ name := "producers", type := .int, accessFlags := 18, slot := 0, constantValue := 0 }, { name := "items", type := .int, accessFlags := 18, slot := 1, constantValue := 0 }, { name := "batchSize", type := .int, accessFlags := 18, slot := 2, constantValue := 0 }, { name := "writers", type := .int, accessFlags := 18, slot := 3, constantValue := 0 }, { name := "writerCostMicros", type := .int, accessFlags := 18, slot := 4, constantValue := 0 }, { name := "lingerMillis", type := .int, accessFlags := 18, slot := 5, constantValue := 0 }]
  methods := #[k3m0, k3m1]
  instanceTypes := #[.int, .int, .int, .int, .int, .int]
  staticTypes := #[]
  resolved := Array.replicate 86 none
  statics := none }

def pool4 : Array CpInfo := pool [(1, u "java/lang/Cloneable"), (0, .class_ 1), (0, u "java/lang/Object"), (0, .class_ 3)] 3

/-- java/lang/Cloneable -/
def k4 : Class := { plain "java/lang/Cloneable" (some 0) with
  accessFlags := 1537
  interfaces := #[]
  cf := some (fileOf pool4 2 #[] #[] 1537 4 #[] #[])
  fields := #[]
  methods := #[]
  instanceTypes := #[]
  staticTypes := #[]
  resolved := Array.replicate 8 none
  statics := none }

def pool5 : Array CpInfo := pool [(1, u "java/io/Serializable"), (0, .class_ 1), (0, u "java/lang/Object"), (0, .class_ 3)] 3

/-- java/io/Serializable -/
def k5 : Class := { plain "java/io/Serializable" (some 0) with
  accessFlags := 1537
  interfaces := #[]
  cf := some (fileOf pool5 2 #[] #[] 1537 4 #[] #[])
  fields := #[]
  methods := #[]
  instanceTypes := #[]
  staticTypes := #[]
  resolved := Array.replicate 8 none
  statics := none }

/-- the primitive byte -/
def k6 : Class := { plain "byte" none with kind := .primitive 'B', accessFlags := 0x411 }
/-- [B -/
def k7 : Class := { plain "[B" (some 0) with kind := .array 6 .byte, interfaces := #[4, 5], accessFlags := 1041 }

/-- the primitive int -/
def k8 : Class := { plain "int" none with kind := .primitive 'I', accessFlags := 0x411 }
/-- [I -/
def k9 : Class := { plain "[I" (some 0) with kind := .array 8 .int, interfaces := #[4, 5], accessFlags := 1041 }

def heap : Heap := #[]
def classes : Array Class := #[k0, k1, k2, k3, k4, k5, k6, k7, k8, k9]
def interned : List (Array UInt16 × Addr) := []
def slotsUsed : Nat := 0
def theMethod : MethodId := ⟨1, 2⟩
def args0 : Array Value := #[.int 5, .int 2, .int 3, .int 4, .int 5, .int 6]
def aboutOver (below : List Frame) : State where
  vm := { classes := classes, interned := interned.toArray }
  heap := heap
  slotsUsed := slotsUsed
  threads := #[{ frames := .invoking theMethod args0 :: below }]
def below0 : List Frame := [.native { method := ⟨0, 0⟩, args := #[] }]
def about1 : State := aboutOver below0
def p0 : Program := .bare "" "" ""
def e0 : Env := launch0.env 0 0 0
theorem w_frames : about1.frames = Frame.invoking theMethod args0 :: below0 := rfl
set_option maxRecDepth 65536 in
theorem w_args : argsFit about1.vm theMethod args0 = true := by decide +kernel
set_option maxRecDepth 65536 in
theorem w_heap : heapFits about1 = true := by decide +kernel
set_option maxRecDepth 65536 in
theorem w_runnable : about1.curStatus? = some .runnable := by decide +kernel
set_option maxRecDepth 65536 in
theorem w_alone : about1.alone = true := by decide +kernel
set_option maxRecDepth 65536 in
theorem w_named : about1.methodNamed? x = some theMethod := by decide +kernel
set_option maxRecDepth 65536 in
theorem w_hears : about1.hears theMethod below0 = true := by decide +kernel
set_option maxRecDepth 65536 in
theorem w_ripe : about1.ripe theMethod args0 below0 = true := by decide +kernel
theorem w_running : about1.status = .running := rfl
set_option maxRecDepth 65536 in
theorem w_room : about1.hasRoom e0.platform room_1 = true :=
  launch0.hasRoom_least _ room_1 (by decide +kernel) (by decide +kernel) (by decide +kernel) (by decide +kernel) (by decide +kernel) (by decide +kernel)
theorem allAtoms_all (ts : List Jvm.Cond) (a : Array Jvm.Value) (st : Jvm.State) : (allAtoms ts).before a st = ts.all (fun c => c.before a st) := by
  induction ts with
  | nil => rfl
  | cons c t ih =>
    show (Jvm.Cond.and c (allAtoms t)).before a st = _
    rw [Jvm.Cond.before_and, ih, List.all_cons]
def words1 : List Jvm.Cond := Jvm.Cond.code x code maxLocals ret :: tables_1
/-- a 'code' word, met by the world's own term for the bytes: nothing is compared byte by byte -/
theorem code_word {y : MethodName} {bytes : ByteArray} {mx : Nat} {rt : Option FieldType} {a : Array Value} {s : State} {m : MethodId} {meth : Method} {c : Code} (h1 : s.methodNamed? y = some m) (h2 : s.vm.method? m = some meth) (h3 : meth.code = some c) (h4 : c.code = bytes)
    (h5 : (c.maxLocals == mx && c.exceptionTable.isEmpty && decide (c.maxStack ≤ mostOperands) && decide (meth.sig.returnType = rt) && !meth.locks && decide (parseMethodDescriptor y.desc = some meth.sig)) = true) : (Jvm.Cond.code y bytes mx rt).before a s = true := by
  simp only [Bool.and_eq_true, beq_iff_eq, Bool.not_eq_true', decide_eq_true_eq] at h5
  obtain ⟨⟨⟨⟨⟨g1, g2⟩, g3⟩, g4⟩, g5⟩, g6⟩ := h5
  simp [Cond.before, Cond.holds, Cond.value, h1, h2, h3, h4, g1, g2, g3, g4, g5, g6]
def isCode : Jvm.Cond → Bool
  | .code _ _ _ _ => true
  | _ => false
theorem all_split {L : List Jvm.Cond} {P : Jvm.Cond → Bool} (h1 : L.all (fun c => isCode c || P c) = true) (h2 : ∀ c ∈ L.filter isCode, P c = true) : L.all P = true := by
  refine List.all_eq_true.mpr fun c hc => ?_
  have h := List.all_eq_true.mp h1 c hc
  rcases Bool.eq_false_or_eq_true (isCode c) with hi | hi
  · exact h2 c (List.mem_filter.mpr ⟨hc, hi⟩)
  · simpa [hi] using h
set_option maxRecDepth 65536 in
theorem w_c0 : (Jvm.Cond.code x code maxLocals ret).before args0 about1 = true := code_word (m := ⟨1, 2⟩) (meth := k1m2) (c := k1c2) (by decide +kernel) rfl rfl rfl (by decide +kernel)
set_option maxRecDepth 65536 in
theorem w_c1 : (Jvm.Cond.code ({ cls := "dev/sluice/bench/Workload", name := "<init>", desc := "(IIIIII)V" } : Jvm.MethodName) prog_30_method_1_code (7 : Nat) (Option.none : Option Jvm.ClassFile.FieldType)).before args0 about1 = true := code_word (m := ⟨3, 0⟩) (meth := k3m0) (c := k3c0) (by decide +kernel) rfl rfl rfl (by decide +kernel)
set_option maxRecDepth 65536 in
theorem w_c2 : (Jvm.Cond.code ({ cls := "java/lang/Record", name := "<init>", desc := "()V" } : Jvm.MethodName) jdk_30_method_1_code (1 : Nat) (Option.none : Option Jvm.ClassFile.FieldType)).before args0 about1 = true := code_word (m := ⟨2, 0⟩) (meth := k2m0) (c := k2c0) (by decide +kernel) rfl rfl rfl (by decide +kernel)
set_option maxRecDepth 65536 in
theorem w_c3 : (Jvm.Cond.code ({ cls := "java/lang/Object", name := "<init>", desc := "()V" } : Jvm.MethodName) object_method_1_code (1 : Nat) (Option.none : Option Jvm.ClassFile.FieldType)).before args0 about1 = true := code_word (m := ⟨0, 0⟩) (meth := k0m0) (c := k0c0) (by decide +kernel) rfl rfl rfl (by decide +kernel)
set_option maxRecDepth 65536 in
theorem w_c4 : (Jvm.Cond.code ({ cls := "dev/sluice/bench/Workload", name := "idSum", desc := "()J" } : Jvm.MethodName) prog_30_method_3_code (1 : Nat) (Option.some Jvm.ClassFile.FieldType.long)).before args0 about1 = true := code_word (m := ⟨3, 1⟩) (meth := k3m1) (c := k3c1) (by decide +kernel) rfl rfl rfl (by decide +kernel)
set_option maxRecDepth 65536 in
theorem w_c5 : (Jvm.Cond.code ({ cls := "dev/sluice/bench/WorkloadIdSumPinLaw", name := "gauss", desc := "(I)J" } : Jvm.MethodName) method_2_code (1 : Nat) (Option.some Jvm.ClassFile.FieldType.long)).before args0 about1 = true := code_word (m := ⟨1, 1⟩) (meth := k1m1) (c := k1c1) (by decide +kernel) rfl rfl rfl (by decide +kernel)
def codes1 : List Jvm.Cond := [Jvm.Cond.code x code maxLocals ret, Jvm.Cond.code ({ cls := "dev/sluice/bench/Workload", name := "<init>", desc := "(IIIIII)V" } : Jvm.MethodName) prog_30_method_1_code (7 : Nat) (Option.none : Option Jvm.ClassFile.FieldType), Jvm.Cond.code ({ cls := "java/lang/Record", name := "<init>", desc := "()V" } : Jvm.MethodName) jdk_30_method_1_code (1 : Nat) (Option.none : Option Jvm.ClassFile.FieldType), Jvm.Cond.code ({ cls := "java/lang/Object", name := "<init>", desc := "()V" } : Jvm.MethodName) object_method_1_code (1 : Nat) (Option.none : Option Jvm.ClassFile.FieldType), Jvm.Cond.code ({ cls := "dev/sluice/bench/Workload", name := "idSum", desc := "()J" } : Jvm.MethodName) prog_30_method_3_code (1 : Nat) (Option.some Jvm.ClassFile.FieldType.long), Jvm.Cond.code ({ cls := "dev/sluice/bench/WorkloadIdSumPinLaw", name := "gauss", desc := "(I)J" } : Jvm.MethodName) method_2_code (1 : Nat) (Option.some Jvm.ClassFile.FieldType.long)]
set_option maxRecDepth 65536 in
theorem codes_eq : words1.filter isCode = codes1 := rfl
theorem w_codes : ∀ c ∈ words1.filter isCode, c.before args0 about1 = true := by
  rw [codes_eq]
  intro c hc
  simp only [codes1, List.mem_cons, List.not_mem_nil, or_false] at hc
  rcases hc with rfl | rfl | rfl | rfl | rfl | rfl
  · exact w_c0
  · exact w_c1
  · exact w_c2
  · exact w_c3
  · exact w_c4
  · exact w_c5
set_option maxRecDepth 65536 in
theorem w_t1 : (words1.take 24).all (fun c => isCode c || c.before args0 about1) = true := by decide +kernel
set_option maxRecDepth 65536 in
theorem w_t2 : (words1.drop 24).all (fun c => isCode c || c.before args0 about1) = true := by decide +kernel
theorem w_tables : (allAtoms (Jvm.Cond.code x code maxLocals ret :: tables_1)).before args0 about1 = true := by
  rw [allAtoms_all]
  show words1.all (fun c => c.before args0 about1) = true
  refine all_split ?_ w_codes
  rw [← List.take_append_drop 24 words1, List.all_append, w_t1, w_t2]
  rfl
set_option maxRecDepth 65536 in
theorem w_case : (Jvm.Cond.and given_1 narrow_1).before args0 about1 = true := by decide +kernel
theorem w_applies : (headSpec (Jvm.Cond.code x code maxLocals ret :: tables_1) room_1).applies x e0.platform about1 = true :=
  (Spec.applies_iff w_frames).mpr ⟨w_running, w_runnable, w_alone, w_named, w_hears, w_ripe, w_room, w_tables⟩
theorem atStart : AtStart classFile x code maxLocals ret World_1 tables_1 room_1 Calls_1 rest_1 Pre_1 launch0 p0 e0 about1 theMethod args0 below0 :=
  ⟨lists_1, trivial, launch0.admits_env _ _ _, launch0.least_env, fairChoices_fair.cas, fairChoices_fair.clock, w_frames, w_args, w_heap, w_applies, trivial, trivial, w_case⟩
end start1
theorem witness_1 : WitnessClaimed_1 := ⟨start1.p0, start1.e0, start1.about1, start1.theMethod, start1.args0, start1.below0, start1.atStart⟩
end Jvm.Pilot.@@N@@
