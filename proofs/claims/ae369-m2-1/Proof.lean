import JvmDerived
import JvmDerived.Pilot.@@N@@Statement
import JvmDerived.Pilot.@@N@@Code
set_option linter.unusedVariables false
set_option linter.unusedSimpArgs false
namespace Jvm.RoadKit
open Sem ClassFile Op Lib Jvm.Stand Jvm.Free Jvm.LawKit
section New
variable {p : Program} {l : Launch} {e : Env} {R : Room} {s : State} {m : MethodId} {args : Array Value} {below : List Frame} {meth : Method} {c : Code} {T : State} {locs : List Loc} {cells slots : Nat}
theorem retI (X : Stand p l e R s m args below meth c T locs cells slots) (hx : p.tables.exec = Jvm.exec) {pc : Nat} {Ls : Array Slot} {z : Int32} {rest : List Value} (hret : meth.sig.returnType = some .int) (hd : decode c.code pc = .ok (.ireturn, 1)) {fs : List Frame}
    (hl : ∀ (f : JFrame) (acts : List Action), f.method = m → f.locked = none → f.entered = [] → (doReturn e (T.setTop f) acts (some (.int z))).1 = T.setFrames fs) : Steps p.tables e below (T.setTop (mkF m pc Ls (.int z :: rest))) (T.setFrames fs) := by
  have hm' : T.vm.method? m = some meth := X.method'
  have hn : narrow .int (.int z) = .int z := rfl
  show Steps p.tables e below (T.setTop { method := m, pc := pc, locals := Ls, stack := _ :: rest, locked := none }) _
  jvm_step X.here [X.here.top, hx, hd, hm', hret, hn]
  first | (intro acts; rw [hl _ acts rfl rfl rfl]) | rw [hl _ _ rfl rfl rfl]
  exact Steps.refl _
end New
end Jvm.RoadKit
namespace Jvm.Pilot.@@N@@
open Jvm Jvm.ClassFile Sem Op Lib Jvm.Free Jvm.Stand Jvm.LawKit Jvm.RoadKit Bundle Jvm.Pilot.@@N@@.Jvm.D
theorem o_iload {tb : Tables} [Ours tb] {e : Env} {below : List Frame} {T target : State} {m : MethodId} {c : Code} {pc : Nat} {ls : Array Slot} {st : List Value} {k : Nat} {v : Int32} (h : At T m c below) (hx : tb.exec = Jvm.exec) (hd : decode c.code pc = .ok (.iload k, 2)) (hl : ls[k]? = some (.val (.int v))) (hr : Steps tb e below (T.setTop (mkF m (pc + 2) ls (.int v :: st))) target) : Steps tb e below (T.setTop (mkF m pc ls st)) target := XS.iload (g := mkF m pc ls st) h hx rfl hd hl hr
theorem o_iloadN {tb : Tables} [Ours tb] {e : Env} {below : List Frame} {T target : State} {m : MethodId} {c : Code} {pc : Nat} {ls : Array Slot} {st : List Value} {k : Fin 4} {v : Int32} (h : At T m c below) (hx : tb.exec = Jvm.exec) (hd : decode c.code pc = .ok (.iload_n k, 1)) (hl : ls[k.val]? = some (.val (.int v))) (hr : Steps tb e below (T.setTop (mkF m (pc + 1) ls (.int v :: st))) target) : Steps tb e below (T.setTop (mkF m pc ls st)) target := XS.iloadN (g := mkF m pc ls st) h hx rfl hd hl hr
theorem o_lload {tb : Tables} [Ours tb] {e : Env} {below : List Frame} {T target : State} {m : MethodId} {c : Code} {pc : Nat} {ls : Array Slot} {st : List Value} {k : Nat} {v : Int64} (h : At T m c below) (hx : tb.exec = Jvm.exec) (hd : decode c.code pc = .ok (.lload k, 2)) (hl : ls[k]? = some (.val (.long v))) (hr : Steps tb e below (T.setTop (mkF m (pc + 2) ls (.long v :: st))) target) : Steps tb e below (T.setTop (mkF m pc ls st)) target := XT.lload (g := mkF m pc ls st) h hx rfl hd hl hr
theorem o_lloadN {tb : Tables} [Ours tb] {e : Env} {below : List Frame} {T target : State} {m : MethodId} {c : Code} {pc : Nat} {ls : Array Slot} {st : List Value} {k : Fin 4} {v : Int64} (h : At T m c below) (hx : tb.exec = Jvm.exec) (hd : decode c.code pc = .ok (.lload_n k, 1)) (hl : ls[k.val]? = some (.val (.long v))) (hr : Steps tb e below (T.setTop (mkF m (pc + 1) ls (.long v :: st))) target) : Steps tb e below (T.setTop (mkF m pc ls st)) target := XT.lloadN (g := mkF m pc ls st) h hx rfl hd hl hr
theorem o_istore {tb : Tables} [Ours tb] {e : Env} {below : List Frame} {T target : State} {m : MethodId} {c : Code} {pc : Nat} {ls : Array Slot} {st : List Value} {k : Nat} {x : Int32} {l' : Array Slot} (h : At T m c below) (hx : tb.exec = Jvm.exec) (hd : decode c.code pc = .ok (.istore k, 2)) (hl : storeLocals ls k (.int x) = some l') (hr : Steps tb e below (T.setTop (mkF m (pc + 2) l' st)) target) : Steps tb e below (T.setTop (mkF m pc ls (.int x :: st))) target := XS.istore (g := mkF m pc ls (.int x :: st)) h hx rfl hd rfl hl hr
theorem o_lstore {tb : Tables} [Ours tb] {e : Env} {below : List Frame} {T target : State} {m : MethodId} {c : Code} {pc : Nat} {ls : Array Slot} {st : List Value} {k : Nat} {x : Int64} {l' : Array Slot} (h : At T m c below) (hx : tb.exec = Jvm.exec) (hd : decode c.code pc = .ok (.lstore k, 2)) (hl : storeLocals ls k (.long x) = some l') (hr : Steps tb e below (T.setTop (mkF m (pc + 2) l' st)) target) : Steps tb e below (T.setTop (mkF m pc ls (.long x :: st))) target := XT.lstore (g := mkF m pc ls (.long x :: st)) h hx rfl hd rfl hl hr
theorem o_aload {tb : Tables} [Ours tb] {e : Env} {below : List Frame} {T target : State} {m : MethodId} {c : Code} {pc : Nat} {ls : Array Slot} {st : List Value} {k : Nat} {v : Value} (h : At T m c below) (hx : tb.exec = Jvm.exec) (hd : decode c.code pc = .ok (.aload k, 2)) (hl : ls[k]? = some (.val v)) (hv : v.isRef = true) (hr : Steps tb e below (T.setTop (mkF m (pc + 2) ls (v :: st))) target) : Steps tb e below (T.setTop (mkF m pc ls st)) target := XS.aload (g := mkF m pc ls st) h hx rfl hd hl hv hr
theorem o_aloadN {tb : Tables} [Ours tb] {e : Env} {below : List Frame} {T target : State} {m : MethodId} {c : Code} {pc : Nat} {ls : Array Slot} {st : List Value} {k : Fin 4} {v : Value} (h : At T m c below) (hx : tb.exec = Jvm.exec) (hd : decode c.code pc = .ok (.aload_n k, 1)) (hl : ls[k.val]? = some (.val v)) (hv : v.isRef = true) (hr : Steps tb e below (T.setTop (mkF m (pc + 1) ls (v :: st))) target) : Steps tb e below (T.setTop (mkF m pc ls st)) target := XS.aloadN (g := mkF m pc ls st) h hx rfl hd hl hv hr
theorem o_astore {tb : Tables} [Ours tb] {e : Env} {below : List Frame} {T target : State} {m : MethodId} {c : Code} {pc : Nat} {ls : Array Slot} {st : List Value} {k : Nat} {x : Value} {l' : Array Slot} (h : At T m c below) (hx : tb.exec = Jvm.exec) (hd : decode c.code pc = .ok (.astore k, 2)) (hv : x.isRef = true) (hl : storeLocals ls k x = some l') (hr : Steps tb e below (T.setTop (mkF m (pc + 2) l' st)) target) : Steps tb e below (T.setTop (mkF m pc ls (x :: st))) target := XS.astore (g := mkF m pc ls (x :: st)) h hx rfl hd rfl hv hl hr
theorem o_iconstV {tb : Tables} [Ours tb] {e : Env} {below : List Frame} {T target : State} {m : MethodId} {c : Code} {pc : Nat} {ls : Array Slot} {st : List Value} {i : Int} (h : At T m c below) (hx : tb.exec = Jvm.exec) (v : Int32) (hd : decode c.code pc = .ok (.iconst i, 1)) (hv : Int32.ofInt i = v) (hr : Steps tb e below (T.setTop (mkF m (pc + 1) ls (.int v :: st))) target) : Steps tb e below (T.setTop (mkF m pc ls st)) target := XT.iconstV (g := mkF m pc ls st) h hx rfl v hd hv hr
theorem o_bipushV {tb : Tables} [Ours tb] {e : Env} {below : List Frame} {T target : State} {m : MethodId} {c : Code} {pc : Nat} {ls : Array Slot} {st : List Value} {i : Int} (h : At T m c below) (hx : tb.exec = Jvm.exec) (v : Int32) (hd : decode c.code pc = .ok (.bipush i, 2)) (hv : (Int8.ofInt i).toInt32 = v) (hr : Steps tb e below (T.setTop (mkF m (pc + 2) ls (.int v :: st))) target) : Steps tb e below (T.setTop (mkF m pc ls st)) target := XT.bipushV (g := mkF m pc ls st) h hx rfl v hd hv hr
theorem o_lconstV {tb : Tables} [Ours tb] {e : Env} {below : List Frame} {T target : State} {m : MethodId} {c : Code} {pc : Nat} {ls : Array Slot} {st : List Value} {k : Fin 2} (h : At T m c below) (hx : tb.exec = Jvm.exec) (v : Int64) (hd : decode c.code pc = .ok (.lconst k, 1)) (hv : Int64.ofNat k = v) (hr : Steps tb e below (T.setTop (mkF m (pc + 1) ls (.long v :: st))) target) : Steps tb e below (T.setTop (mkF m pc ls st)) target := XT.lconstV (g := mkF m pc ls st) h hx rfl v hd hv hr
theorem o_aconstNull {tb : Tables} [Ours tb] {e : Env} {below : List Frame} {T target : State} {m : MethodId} {c : Code} {pc : Nat} {ls : Array Slot} {st : List Value} (h : At T m c below) (hx : tb.exec = Jvm.exec) (hd : decode c.code pc = .ok (.aconst_null, 1)) (hr : Steps tb e below (T.setTop (mkF m (pc + 1) ls (.null :: st))) target) : Steps tb e below (T.setTop (mkF m pc ls st)) target := XS.aconstNull (g := mkF m pc ls st) h hx rfl hd hr
theorem o_iadd {tb : Tables} [Ours tb] {e : Env} {below : List Frame} {T target : State} {m : MethodId} {c : Code} {pc : Nat} {ls : Array Slot} {st : List Value} {x y : Int32} (h : At T m c below) (hx : tb.exec = Jvm.exec) (hd : decode c.code pc = .ok (.iadd, 1)) (hr : Steps tb e below (T.setTop (mkF m (pc + 1) ls (.int (x + y) :: st))) target) : Steps tb e below (T.setTop (mkF m pc ls (.int y :: .int x :: st))) target := XS.iadd (g := mkF m pc ls (.int y :: .int x :: st)) h hx rfl hd rfl hr
theorem o_isub {tb : Tables} [Ours tb] {e : Env} {below : List Frame} {T target : State} {m : MethodId} {c : Code} {pc : Nat} {ls : Array Slot} {st : List Value} {x y : Int32} (h : At T m c below) (hx : tb.exec = Jvm.exec) (hd : decode c.code pc = .ok (.isub, 1)) (hr : Steps tb e below (T.setTop (mkF m (pc + 1) ls (.int (x - y) :: st))) target) : Steps tb e below (T.setTop (mkF m pc ls (.int y :: .int x :: st))) target := XS.isub (g := mkF m pc ls (.int y :: .int x :: st)) h hx rfl hd rfl hr
theorem o_iand {tb : Tables} [Ours tb] {e : Env} {below : List Frame} {T target : State} {m : MethodId} {c : Code} {pc : Nat} {ls : Array Slot} {st : List Value} {x y : Int32} (h : At T m c below) (hx : tb.exec = Jvm.exec) (hd : decode c.code pc = .ok (.iand, 1)) (hr : Steps tb e below (T.setTop (mkF m (pc + 1) ls (.int (x &&& y) :: st))) target) : Steps tb e below (T.setTop (mkF m pc ls (.int y :: .int x :: st))) target := XS.iand (g := mkF m pc ls (.int y :: .int x :: st)) h hx rfl hd rfl hr
theorem o_ladd {tb : Tables} [Ours tb] {e : Env} {below : List Frame} {T target : State} {m : MethodId} {c : Code} {pc : Nat} {ls : Array Slot} {st : List Value} {x y : Int64} (h : At T m c below) (hx : tb.exec = Jvm.exec) (hd : decode c.code pc = .ok (.ladd, 1)) (hr : Steps tb e below (T.setTop (mkF m (pc + 1) ls (.long (x + y) :: st))) target) : Steps tb e below (T.setTop (mkF m pc ls (.long y :: .long x :: st))) target := XT.ladd (g := mkF m pc ls (.long y :: .long x :: st)) h hx rfl hd rfl hr
theorem o_lsub {tb : Tables} [Ours tb] {e : Env} {below : List Frame} {T target : State} {m : MethodId} {c : Code} {pc : Nat} {ls : Array Slot} {st : List Value} {x y : Int64} (h : At T m c below) (hx : tb.exec = Jvm.exec) (hd : decode c.code pc = .ok (.lsub, 1)) (hr : Steps tb e below (T.setTop (mkF m (pc + 1) ls (.long (x - y) :: st))) target) : Steps tb e below (T.setTop (mkF m pc ls (.long y :: .long x :: st))) target := XT.lsub (g := mkF m pc ls (.long y :: .long x :: st)) h hx rfl hd rfl hr
theorem o_lmul {tb : Tables} [Ours tb] {e : Env} {below : List Frame} {T target : State} {m : MethodId} {c : Code} {pc : Nat} {ls : Array Slot} {st : List Value} {x y : Int64} (h : At T m c below) (hx : tb.exec = Jvm.exec) (hd : decode c.code pc = .ok (.lmul, 1)) (hr : Steps tb e below (T.setTop (mkF m (pc + 1) ls (.long (x * y) :: st))) target) : Steps tb e below (T.setTop (mkF m pc ls (.long y :: .long x :: st))) target := XT.lmul (g := mkF m pc ls (.long y :: .long x :: st)) h hx rfl hd rfl hr
theorem o_land {tb : Tables} [Ours tb] {e : Env} {below : List Frame} {T target : State} {m : MethodId} {c : Code} {pc : Nat} {ls : Array Slot} {st : List Value} {x y : Int64} (h : At T m c below) (hx : tb.exec = Jvm.exec) (hd : decode c.code pc = .ok (.land, 1)) (hr : Steps tb e below (T.setTop (mkF m (pc + 1) ls (.long (x &&& y) :: st))) target) : Steps tb e below (T.setTop (mkF m pc ls (.long y :: .long x :: st))) target := XT.land (g := mkF m pc ls (.long y :: .long x :: st)) h hx rfl hd rfl hr
theorem o_lor {tb : Tables} [Ours tb] {e : Env} {below : List Frame} {T target : State} {m : MethodId} {c : Code} {pc : Nat} {ls : Array Slot} {st : List Value} {x y : Int64} (h : At T m c below) (hx : tb.exec = Jvm.exec) (hd : decode c.code pc = .ok (.lor, 1)) (hr : Steps tb e below (T.setTop (mkF m (pc + 1) ls (.long (x ||| y) :: st))) target) : Steps tb e below (T.setTop (mkF m pc ls (.long y :: .long x :: st))) target := XT.lor (g := mkF m pc ls (.long y :: .long x :: st)) h hx rfl hd rfl hr
theorem o_lcmp {tb : Tables} [Ours tb] {e : Env} {below : List Frame} {T target : State} {m : MethodId} {c : Code} {pc : Nat} {ls : Array Slot} {st : List Value} {x y : Int64} (h : At T m c below) (hx : tb.exec = Jvm.exec) (hd : decode c.code pc = .ok (.lcmp, 1)) (hr : Steps tb e below (T.setTop (mkF m (pc + 1) ls (.int (XT.cmpL x y) :: st))) target) : Steps tb e below (T.setTop (mkF m pc ls (.long y :: .long x :: st))) target := XT.lcmp (g := mkF m pc ls (.long y :: .long x :: st)) h hx rfl hd rfl hr
theorem o_lshr {tb : Tables} [Ours tb] {e : Env} {below : List Frame} {T target : State} {m : MethodId} {c : Code} {pc : Nat} {ls : Array Slot} {st : List Value} {x : Int64} {y : Int32} (h : At T m c below) (hx : tb.exec = Jvm.exec) (hd : decode c.code pc = .ok (.lshr, 1)) (hr : Steps tb e below (T.setTop (mkF m (pc + 1) ls (.long (x >>> (y.toInt64 &&& 63)) :: st))) target) : Steps tb e below (T.setTop (mkF m pc ls (.int y :: .long x :: st))) target := XT.lshr (g := mkF m pc ls (.int y :: .long x :: st)) h hx rfl hd rfl hr
theorem o_lushr {tb : Tables} [Ours tb] {e : Env} {below : List Frame} {T target : State} {m : MethodId} {c : Code} {pc : Nat} {ls : Array Slot} {st : List Value} {x : Int64} {y : Int32} (h : At T m c below) (hx : tb.exec = Jvm.exec) (hd : decode c.code pc = .ok (.lushr, 1)) (hr : Steps tb e below (T.setTop (mkF m (pc + 1) ls (.long (XT.ushrL x y) :: st))) target) : Steps tb e below (T.setTop (mkF m pc ls (.int y :: .long x :: st))) target := XT.lushr (g := mkF m pc ls (.int y :: .long x :: st)) h hx rfl hd rfl hr
theorem o_ineg {tb : Tables} [Ours tb] {e : Env} {below : List Frame} {T target : State} {m : MethodId} {c : Code} {pc : Nat} {ls : Array Slot} {st : List Value} {x : Int32} (h : At T m c below) (hx : tb.exec = Jvm.exec) (hd : decode c.code pc = .ok (.ineg, 1)) (hr : Steps tb e below (T.setTop (mkF m (pc + 1) ls (.int (-x) :: st))) target) : Steps tb e below (T.setTop (mkF m pc ls (.int x :: st))) target := XS.ineg (g := mkF m pc ls (.int x :: st)) h hx rfl hd rfl hr
theorem o_lneg {tb : Tables} [Ours tb] {e : Env} {below : List Frame} {T target : State} {m : MethodId} {c : Code} {pc : Nat} {ls : Array Slot} {st : List Value} {x : Int64} (h : At T m c below) (hx : tb.exec = Jvm.exec) (hd : decode c.code pc = .ok (.lneg, 1)) (hr : Steps tb e below (T.setTop (mkF m (pc + 1) ls (.long (-x) :: st))) target) : Steps tb e below (T.setTop (mkF m pc ls (.long x :: st))) target := XT.lneg (g := mkF m pc ls (.long x :: st)) h hx rfl hd rfl hr
theorem o_i2l {tb : Tables} [Ours tb] {e : Env} {below : List Frame} {T target : State} {m : MethodId} {c : Code} {pc : Nat} {ls : Array Slot} {st : List Value} {x : Int32} (h : At T m c below) (hx : tb.exec = Jvm.exec) (hd : decode c.code pc = .ok (.i2l, 1)) (hr : Steps tb e below (T.setTop (mkF m (pc + 1) ls (.long (x.toInt64) :: st))) target) : Steps tb e below (T.setTop (mkF m pc ls (.int x :: st))) target := XT.i2l (g := mkF m pc ls (.int x :: st)) h hx rfl hd rfl hr
theorem o_l2i {tb : Tables} [Ours tb] {e : Env} {below : List Frame} {T target : State} {m : MethodId} {c : Code} {pc : Nat} {ls : Array Slot} {st : List Value} {x : Int64} (h : At T m c below) (hx : tb.exec = Jvm.exec) (hd : decode c.code pc = .ok (.l2i, 1)) (hr : Steps tb e below (T.setTop (mkF m (pc + 1) ls (.int (x.toInt32) :: st))) target) : Steps tb e below (T.setTop (mkF m pc ls (.long x :: st))) target := XT.l2i (g := mkF m pc ls (.long x :: st)) h hx rfl hd rfl hr
theorem o_dup {tb : Tables} [Ours tb] {e : Env} {below : List Frame} {T target : State} {m : MethodId} {c : Code} {pc : Nat} {ls : Array Slot} {st : List Value} {x : Value} (h : At T m c below) (hx : tb.exec = Jvm.exec) (hd : decode c.code pc = .ok (.dup, 1)) (hc : x.category = 1) (hr : Steps tb e below (T.setTop (mkF m (pc + 1) ls (x :: x :: st))) target) : Steps tb e below (T.setTop (mkF m pc ls (x :: st))) target := XS.dup (g := mkF m pc ls (x :: st)) h hx rfl hd rfl hc hr
theorem o_goto {tb : Tables} [Ours tb] {e : Env} {below : List Frame} {T target : State} {m : MethodId} {c : Code} {pc : Nat} {ls : Array Slot} {st : List Value} {o : Int} {pc' : Nat}  (h : At T m c below) (hx : tb.exec = Jvm.exec) (hd : decode c.code pc = .ok (.goto o, 3)) (ho : 0 ≤ (pc : Int) + o) (hp : ((pc : Int) + o).toNat = pc') (hr : Steps tb e below (T.setTop (mkF m pc' ls st)) target) : Steps tb e below (T.setTop (mkF m pc ls st)) target := XS.goto (g := mkF m pc ls st) h hx rfl rfl hd ho hp hr
theorem o_ifYes {tb : Tables} [Ours tb] {e : Env} {below : List Frame} {T target : State} {m : MethodId} {c : Code} {pc : Nat} {ls : Array Slot} {st : List Value} {o : Int} {pc' : Nat} {cd : ClassFile.Cond} {x : Int32} (h : At T m c below) (hx : tb.exec = Jvm.exec) (hd : decode c.code pc = .ok (.ifCond cd o, 3)) (hc : ifCond.holds cd x = true) (ho : 0 ≤ (pc : Int) + o) (hp : ((pc : Int) + o).toNat = pc') (hr : Steps tb e below (T.setTop (mkF m pc' ls st)) target) : Steps tb e below (T.setTop (mkF m pc ls (.int x :: st))) target := XS.ifYes (g := mkF m pc ls (.int x :: st)) h hx rfl rfl hd rfl hc ho hp hr
theorem o_ifNo {tb : Tables} [Ours tb] {e : Env} {below : List Frame} {T target : State} {m : MethodId} {c : Code} {pc : Nat} {ls : Array Slot} {st : List Value} {o : Int} {cd : ClassFile.Cond} {x : Int32} (h : At T m c below) (hx : tb.exec = Jvm.exec) (hd : decode c.code pc = .ok (.ifCond cd o, 3)) (hc : ifCond.holds cd x = false) (hr : Steps tb e below (T.setTop (mkF m (pc + 3) ls st)) target) : Steps tb e below (T.setTop (mkF m pc ls (.int x :: st))) target := XS.ifNo (g := mkF m pc ls (.int x :: st)) h hx rfl hd rfl hc hr
theorem o_icmpYes {tb : Tables} [Ours tb] {e : Env} {below : List Frame} {T target : State} {m : MethodId} {c : Code} {pc : Nat} {ls : Array Slot} {st : List Value} {o : Int} {pc' : Nat} {cd : ClassFile.Cond} {x y : Int32} (h : At T m c below) (hx : tb.exec = Jvm.exec) (hd : decode c.code pc = .ok (.if_icmp cd o, 3)) (hc : if_icmp.holds cd x y = true) (ho : 0 ≤ (pc : Int) + o) (hp : ((pc : Int) + o).toNat = pc') (hr : Steps tb e below (T.setTop (mkF m pc' ls st)) target) : Steps tb e below (T.setTop (mkF m pc ls (.int y :: .int x :: st))) target := XS.icmpYes (g := mkF m pc ls (.int y :: .int x :: st)) h hx rfl rfl hd rfl hc ho hp hr
theorem o_icmpNo {tb : Tables} [Ours tb] {e : Env} {below : List Frame} {T target : State} {m : MethodId} {c : Code} {pc : Nat} {ls : Array Slot} {st : List Value} {o : Int} {cd : ClassFile.Cond} {x y : Int32} (h : At T m c below) (hx : tb.exec = Jvm.exec) (hd : decode c.code pc = .ok (.if_icmp cd o, 3)) (hc : if_icmp.holds cd x y = false) (hr : Steps tb e below (T.setTop (mkF m (pc + 3) ls st)) target) : Steps tb e below (T.setTop (mkF m pc ls (.int y :: .int x :: st))) target := XS.icmpNo (g := mkF m pc ls (.int y :: .int x :: st)) h hx rfl hd rfl hc hr
theorem o_ifnullYes {tb : Tables} [Ours tb] {e : Env} {below : List Frame} {T target : State} {m : MethodId} {c : Code} {pc : Nat} {ls : Array Slot} {st : List Value} {o : Int} {pc' : Nat}  (h : At T m c below) (hx : tb.exec = Jvm.exec) (hd : decode c.code pc = .ok (.ifnull o, 3)) (ho : 0 ≤ (pc : Int) + o) (hp : ((pc : Int) + o).toNat = pc') (hr : Steps tb e below (T.setTop (mkF m pc' ls st)) target) : Steps tb e below (T.setTop (mkF m pc ls (.null :: st))) target := XS.ifnullYes (g := mkF m pc ls (.null :: st)) h hx rfl rfl hd rfl ho hp hr
theorem o_ifnonnullNo {tb : Tables} [Ours tb] {e : Env} {below : List Frame} {T target : State} {m : MethodId} {c : Code} {pc : Nat} {ls : Array Slot} {st : List Value} {o : Int}  (h : At T m c below) (hx : tb.exec = Jvm.exec) (hd : decode c.code pc = .ok (.ifnonnull o, 3)) (hr : Steps tb e below (T.setTop (mkF m (pc + 3) ls st)) target) : Steps tb e below (T.setTop (mkF m pc ls (.null :: st))) target := XT.ifnonnullNo (g := mkF m pc ls (.null :: st)) h hx rfl hd rfl hr
theorem own_irr (a : Int64) : ¬ a < a := by rw [Int64.lt_iff_toInt_lt]; omega
theorem own_asymm {a b : Int64} (h : a < b) : ¬ b < a := by
  rw [Int64.lt_iff_toInt_lt] at *; omega
theorem own_c3 (x : Int32) : x &&& 3 = 0 ∨ x &&& 3 = 1 ∨ x &&& 3 = 2 ∨ x &&& 3 = 3 := by
  have h := c_mask x 3 2 (by decide) (by decide)
  have e : ∀ k : Int32, (x &&& 3).toInt = k.toInt → x &&& 3 = k := fun k q => Int32.toInt_inj.mp q
  have h0 : (x &&& 3).toInt = 0 ∨ (x &&& 3).toInt = 1 ∨ (x &&& 3).toInt = 2 ∨ (x &&& 3).toInt = 3 := by omega
  rcases h0 with q | q | q | q
  · exact Or.inl (e 0 q)
  · exact Or.inr (Or.inl (e 1 q))
  · exact Or.inr (Or.inr (Or.inl (e 2 q)))
  · exact Or.inr (Or.inr (Or.inr (e 3 q)))

def own_sign (u : Int64) : Int32 := if 0 < u then 1 else if u < 0 then -1 else 0
def own_cmp (a b : Int64) : Int32 := if a < b then -1 else if b < a then 1 else 0
def own_mh (x y : Int64) : Int64 :=
  let x1 := x >>> ((32 : Int32).toInt64 &&& 63)
  let x2 := x &&& 4294967295
  let y1 := y >>> ((32 : Int32).toInt64 &&& 63)
  let y2 := y &&& 4294967295
  let z2 := x2 * y2
  let t := x1 * y2 + XT.ushrL z2 32
  let z1 := t &&& 4294967295
  let z0 := t >>> ((32 : Int32).toInt64 &&& 63)
  let z1' := z1 + x2 * y1
  x1 * y1 + z0 + (z1' >>> ((32 : Int32).toInt64 &&& 63))
def own_raised (a b : Int64) : Int32 := if a = 0 then -own_sign b else if own_mh a 10 = (a * 10) >>> ((63 : Int32).toInt64 &&& 63) then own_cmp (a * 10) b else own_sign a
def own_compare (a s b r : Int64) : Int32 := if s = r then own_cmp a b else if s < r then own_raised a b else -own_raised b a
theorem own_sh63 (u : Int64) : (u >>> ((63 : Int32).toInt64 &&& 63)).toInt = u.toInt / 9223372036854775808 := c_lshr u 63 63 (by decide)
theorem own_sh32 (u : Int64) : (u >>> ((32 : Int32).toInt64 &&& 63)).toInt = u.toInt / 4294967296 := c_lshr u 32 32 (by decide)
theorem own_ush63 (u : Int64) : (XT.ushrL u 63).toInt = (u.toInt % 18446744073709551616) / 9223372036854775808 := c_lushr u 63 63 (by decide) (by decide)
theorem own_ush32 (u : Int64) : (XT.ushrL u 32).toInt = (u.toInt % 18446744073709551616) / 4294967296 := c_lushr u 32 32 (by decide) (by decide)
theorem own_lo32 (u : Int64) : (u &&& 4294967295).toInt = u.toInt % 4294967296 := c_maskL u 4294967295 32 (by decide) (by decide)
theorem own_signum (u : Int64) : (u >>> ((63 : Int32).toInt64 &&& 63) ||| XT.ushrL (-u) 63).toInt32 = own_sign u := by
  have r := rng64 u
  have e0 : (0 : Int64).toInt = 0 := rfl
  by_cases h1 : u.toInt < 0
  · have q : u >>> ((63 : Int32).toInt64 &&& 63) = -1 := Int64.toInt_inj.mp (by rw [own_sh63, show (-1 : Int64).toInt = -1 from rfl]; omega)
    have n1 : ¬ 0 < u := by rw [Int64.lt_iff_toInt_lt]; omega
    have n2 : u < 0 := by rw [Int64.lt_iff_toInt_lt]; omega
    rw [q, own_sign, if_neg n1, if_pos n2]
    have : (-1 : Int64) ||| XT.ushrL (-u) 63 = -1 := by
      apply Int64.toBitVec_inj.mp
      rw [Int64.toBitVec_or, show (-1 : Int64).toBitVec = BitVec.allOnes 64 from by decide, BitVec.allOnes_or]
    rw [this]; decide
  · have q : u >>> ((63 : Int32).toInt64 &&& 63) = 0 := Int64.toInt_inj.mp (by rw [own_sh63, e0]; omega)
    by_cases h2 : u.toInt = 0
    · have : u = 0 := Int64.toInt_inj.mp (by rw [h2, e0])
      subst this; decide
    · have n1 : 0 < u := by rw [Int64.lt_iff_toInt_lt]; omega
      have g := c_lneg u
      have g2 := rng64 (-u)
      have q2 : XT.ushrL (-u) 63 = 1 := Int64.toInt_inj.mp (by rw [own_ush63, show (1 : Int64).toInt = 1 from rfl]; omega)
      rw [q, q2, own_sign, if_pos n1]; decide
theorem own_mh10 (u : Int64) : (own_mh u 10).toInt = u.toInt * 10 / 18446744073709551616 := by
  have r := rng64 u
  have e1 := own_sh32 u
  have e2 := own_lo32 u
  have y1 : (10 : Int64) >>> ((32 : Int32).toInt64 &&& 63) = 0 := by decide
  have y2 : (10 : Int64) &&& 4294967295 = 10 := by decide
  have t10 : (10 : Int64).toInt = 10 := rfl
  unfold own_mh
  simp only [y1, y2, Int64.mul_zero, Int64.add_zero, Int64.zero_add]
  generalize u >>> ((32 : Int32).toInt64 &&& 63) = x1 at *
  generalize u &&& 4294967295 = x2 at *
  have m1 := c_lmul x2 10
  have m2 := rng64 (x2 * 10)
  have m3 := own_ush32 (x2 * 10)
  have m4 := c_lmul x1 10
  have m5 := rng64 (x1 * 10)
  rw [t10] at m1 m4
  generalize x2 * 10 = z2 at *
  generalize x1 * 10 = x3 at *
  generalize XT.ushrL z2 32 = z3 at *
  have m6 := c_ladd x3 z3
  have m7 := rng64 (x3 + z3)
  have m8 := own_lo32 (x3 + z3)
  have m9 := own_sh32 (x3 + z3)
  generalize x3 + z3 = t at *
  generalize t &&& 4294967295 = z1 at *
  generalize t >>> ((32 : Int32).toInt64 &&& 63) = z0 at *
  have m10 := own_sh32 z1
  have q : z1 >>> ((32 : Int32).toInt64 &&& 63) = 0 := Int64.toInt_inj.mp (by rw [m10, show (0 : Int64).toInt = 0 from rfl]; omega)
  rw [q, Int64.add_zero]
  have z2e : z2.toInt = x2.toInt * 10 := by omega
  have x3e : x3.toInt = x1.toInt * 10 := by omega
  have z3e : z3.toInt = x2.toInt * 10 / 4294967296 := by rw [m3, z2e, Int.emod_eq_of_lt (by omega) (by omega)]
  have b1 : -2147483648 ≤ x1.toInt ∧ x1.toInt ≤ 2147483648 := by omega
  have b2 : 0 ≤ z3.toInt ∧ z3.toInt ≤ 10 := by omega
  have te : t.toInt = x3.toInt + z3.toInt := by
    clear m1 m2 m3 m4 m5 m10 m8 m9 q e1 e2
    omega
  clear m1 m2 m3 m4 m5 m6 m7 m10
  omega
theorem own_raised_self (u : Int64) : own_raised u u = own_sign u := by
  unfold own_raised
  by_cases h0 : u = 0
  · subst h0; decide
  · rw [if_neg h0]
    by_cases h1 : own_mh u 10 = (u * 10) >>> ((63 : Int32).toInt64 &&& 63)
    · rw [if_pos h1]
      have q := congrArg Int64.toInt h1
      rw [own_mh10, own_sh63] at q
      have r := rng64 u
      have m1 := c_lmul u 10
      have m2 := rng64 (u * 10)
      rw [show (10 : Int64).toInt = 10 from rfl] at m1
      have h2 : ¬ u.toInt = 0 := fun e => h0 (Int64.toInt_inj.mp e)
      unfold own_cmp own_sign
      simp only [Int64.lt_iff_toInt_lt, show (0 : Int64).toInt = 0 from rfl]
      generalize u * 10 = w at *
      have h3 : w.toInt = u.toInt * 10 := by
        have g0 : w.toInt / 9223372036854775808 = 0 ∨ w.toInt / 9223372036854775808 = -1 := by omega
        rcases g0 with g | g
        · rw [g] at q
          have g1 : 0 ≤ w.toInt := by omega
          have g2 : 0 ≤ u.toInt * 10 := by omega
          have g3 : u.toInt * 10 < 18446744073709551616 := by omega
          omega
        · rw [g] at q
          have g1 : w.toInt < 0 := by omega
          have g2 : u.toInt * 10 < 0 := by omega
          have g3 : -18446744073709551616 ≤ u.toInt * 10 := by omega
          omega
      by_cases h4 : 0 < u.toInt
      · rw [if_neg (by omega), if_pos (by omega), if_pos h4]
      · rw [if_pos (by omega), if_neg h4, if_pos (by omega)]
    · rw [if_neg h1]
theorem own_down (s : Int32) (h : ¬ s = -2147483648) : (s - 1).toInt64 < s.toInt64 ∧ s.toInt64 - (s - 1).toInt64 = 1 := by
  have r := rng32 s
  have q := c_isub s 1
  have r2 := rng32 (s - 1)
  rw [show (1 : Int32).toInt = 1 from rfl] at q
  have n : ¬ s.toInt = -2147483648 := fun e => h (Int32.toInt_inj.mp e)
  have e : (s - 1).toInt = s.toInt - 1 := by omega
  constructor
  · rw [Int64.lt_iff_toInt_lt, Int32.toInt_toInt64, Int32.toInt_toInt64]; omega
  · apply Int64.toInt_inj.mp
    have g := c_lsub s.toInt64 (s - 1).toInt64
    have g2 := rng64 (s.toInt64 - (s - 1).toInt64)
    rw [Int32.toInt_toInt64, Int32.toInt_toInt64, e] at g
    rw [show (1 : Int64).toInt = 1 from rfl]; omega
theorem own_up (s : Int32) (h : s = -2147483648) : s.toInt64 < (s + 1).toInt64 ∧ (s + 1).toInt64 - s.toInt64 = 1 := by
  subst h; decide
theorem own_cmp_same (a s b : Int64) : own_compare a s b s = own_cmp a b := by simp [own_compare]
theorem own_cmp_down (u : Int64) (s : Int32) (h : ¬ s = -2147483648) : own_compare u s.toInt64 u (s - 1).toInt64 = -own_sign u := by
  have q := (own_down s h).1
  have n1 : ¬ s.toInt64 = (s - 1).toInt64 := fun e => by rw [← e] at q; rw [Int64.lt_iff_toInt_lt] at q; omega
  simp [own_compare, own_asymm q, n1, own_raised_self]
theorem own_cmp_up (u : Int64) (s : Int32) (h : s = -2147483648) : own_compare u s.toInt64 u (s + 1).toInt64 = own_sign u := by
  have q := (own_up s h).1
  have n1 : ¬ s.toInt64 = (s + 1).toInt64 := fun e => by rw [← e] at q; rw [Int64.lt_iff_toInt_lt] at q; omega
  simp [own_compare, q, n1, own_raised_self]

theorem dI_0 : decode prog_24_method_1_code 0 = .ok (.aload_n 0, 1) := by decide +kernel
theorem dI_1 : decode prog_24_method_1_code 1 = .ok (.invokespecial 1, 3) := by decide +kernel
theorem dI_4 : decode prog_24_method_1_code 4 = .ok (.return_, 1) := by decide +kernel
theorem pn_com_example_lintel_lintel_Figure : plainName "com/example/lintel/lintel/Figure" = true := by first | (simp [plainName, overriddenIn]; done) | decide +kernel
theorem efI (m : MethodId) (x0 : Addr) : entryFrame m #[(.ref x0)] 1 = (mkF m 0 #[.val (.ref x0)] []) := by first | (simp [entryFrame, mkF, argsToLocals, Value.category]; done) | rfl
def QI (Z : State) (a1 : Addr) (h0 : Heap) (n0 : Nat) (v : Option Value) (h : Heap) (L : List Loc) : Prop := v = none ∧ Fr n0 L ∧ h = h0
set_option maxRecDepth 65536 in
set_option maxHeartbeats 40000000 in
theorem rmI (l : Launch) (Z : State) (a0 : Array Value) (hw : ∀ d ∈ tables_1, d.before a0 Z = true) (ws : List Jvm.Cond) (a1 : Addr) (h0 : Heap) (n0 : Nat) (Z0 : n0 ≤ h0.size) :
    MetFree l (⟨"com/example/lintel/lintel/Figure", "<init>", "()V"⟩ : MethodName) (head1 (Jvm.Cond.code (⟨"com/example/lintel/lintel/Figure", "<init>", "()V"⟩ : MethodName) prog_24_method_1_code 1 none :: ws) ({ frames := 1, cells := 0, slots := 0, locals := 12 } : Room)) (fun a U => a = #[(.ref a1)] ∧ Z.Warmed39 U.vm ∧ U.heap = h0) (fun _ _ _ _ _ => True) (fun _ U o U' => ∃ v L, o = .returned v ∧ QI Z a1 h0 n0 v U'.heap L ∧ FrameEnd U o U' L ({ frames := 1, cells := 0, slots := 0, locals := 12 } : Room).cells ({ frames := 1, cells := 0, slots := 0, locals := 12 } : Room).slots) := by
  refine MetFree.of_bodySF (plainFor_of_name pn_com_example_lintel_lintel_Figure) hisR ?_
  intro p e s m args below meth c s₁ Bd hml0 hP hK
  obtain ⟨rfl, hZ, hh⟩ := hP
  have hx := Bd.exec
  have hby := Bd.bytes
  have hml : c.maxLocals = 1 := hml0
  have hown : s.vm.findClass "com/example/lintel/lintel/Figure" = some m.cls := findClass_of_methodNamed Bd.named
  have hnm := (name_of_methodNamed Bd.named Bd.method).1
  have X0 : Stand p l e ({ frames := 1, cells := 0, slots := 0, locals := 12 } : Room) s m #[(.ref a1)] below meth c s₁ [] 0 0 := Stand.of_body Bd
  have e0 : s₁.heap = h0 := by rw [← hh, Bd.state]; rfl
  have N0 := Fr.nil n0
  have pre0 : ∀ t, Steps p.tables e below (s₁.setTop (mkF m 0 #[.val (.ref a1)] [])) t → Steps p.tables e below (s₁.setTop (entryFrame m #[(.ref a1)] 1)) t := fun t k => castTop (efI m a1) k
  have cn1 : ∀ t, Steps p.tables e below (s₁.setTop (mkF m 1 #[.val (.ref a1)] [(.ref a1)])) t → Steps p.tables e below (s₁.setTop (entryFrame m #[(.ref a1)] 1)) t := by
    intro t k
    refine pre0 t ?_
    refine o_aloadN X0.here hx (hb hby dI_0) rfl rfl ?_
    exact k
  obtain ⟨T2, X2, e2, st2⟩ := initO X0 hx hZ hown (hw _ (List.mem_of_getElem? (i := 6) rfl)) (hw _ (List.mem_of_getElem? (i := 7) rfl)) (hw _ (List.mem_of_getElem? (i := 8) rfl)) e0 (g := (mkF m 1 #[.val (.ref a1)] [(.ref a1)])) rfl (by rw [hml]; rfl) rfl (hb hby dI_1) (by decide) (W := 0) (by show 2 * 0 + _ ≤ _; exact Nat.le_of_eq rfl) (by decide)
  have cn3 : ∀ t, Steps p.tables e below (T2.setTop (mkF m 4 #[.val (.ref a1)] [])) t → Steps p.tables e below (s₁.setTop (entryFrame m #[(.ref a1)] 1)) t := fun t k => cn1 t (st2 _ k)
  obtain ⟨fs, hr, hrun, hended, hW, hsame⟩ := X2.leave (v := none) (fun _ => rfl)
  refine ⟨_, _, cn3 _ ?_, hrun, hended, _, _, rfl, ?_, ⟨_, rfl⟩, hW, hsame.mono (by decide) (by decide)⟩
  · exact X2.returnOut hx Bd.returns (hb hby dI_4) hr
  · show QI Z a1 h0 n0 _ T2.heap _
    rw [e2]
    exact ⟨rfl, N0, rfl⟩

theorem dS_0 : decode prog_24_method_4_code 0 = .ok (.aload_n 0, 1) := by decide +kernel
theorem dS_1 : decode prog_24_method_4_code 1 = .ok (.iconst 1, 1) := by decide +kernel
theorem dS_2 : decode prog_24_method_4_code 2 = .ok (.putfield 14, 3) := by decide +kernel
theorem dS_5 : decode prog_24_method_4_code 5 = .ok (.aload_n 0, 1) := by decide +kernel
theorem dS_6 : decode prog_24_method_4_code 6 = .ok (.lload_n 1, 1) := by decide +kernel
theorem dS_7 : decode prog_24_method_4_code 7 = .ok (.putfield 22, 3) := by decide +kernel
theorem dS_10 : decode prog_24_method_4_code 10 = .ok (.aload_n 0, 1) := by decide +kernel
theorem dS_11 : decode prog_24_method_4_code 11 = .ok (.iload_n 3, 1) := by decide +kernel
theorem dS_12 : decode prog_24_method_4_code 12 = .ok (.putfield 26, 3) := by decide +kernel
theorem dS_15 : decode prog_24_method_4_code 15 = .ok (.aload_n 0, 1) := by decide +kernel
theorem dS_16 : decode prog_24_method_4_code 16 = .ok (.aconst_null, 1) := by decide +kernel
theorem dS_17 : decode prog_24_method_4_code 17 = .ok (.putfield 18, 3) := by decide +kernel
theorem dS_20 : decode prog_24_method_4_code 20 = .ok (.return_, 1) := by decide +kernel
theorem efS (m : MethodId) (x0 : Addr) (x1 : Int64) (x2 : Int32) : entryFrame m #[(.ref x0), (.long x1), (.int x2)] 4 = (mkF m 0 #[.val (.ref x0), .val (.long x1), .second, .val (.int x2)] []) := by first | (simp [entryFrame, mkF, argsToLocals, Value.category]; done) | rfl
def QS (Z : State) (a1 : Addr) (qu : Int64) (sc : Int32) (g0 : Int32) (u0 : Int64) (s0 : Int32) (h0 : Heap) (n0 : Nat) (v : Option Value) (h : Heap) (L : List Loc) : Prop := v = none ∧ Fr n0 L ∧ Keep h0 h [a1] ∧ Exa Z h a1 "com/example/lintel/lintel/Figure" ∧ Fld Z h a1 "com/example/lintel/lintel/Figure" "given" "Z" (.int (1 : Int32)) ∧ Fld Z h a1 "com/example/lintel/lintel/Figure" "unscaled" "J" (.long qu) ∧ Fld Z h a1 "com/example/lintel/lintel/Figure" "scale" "I" (.int sc) ∧ Fld Z h a1 "com/example/lintel/lintel/Figure" "large" "Ljava/math/BigDecimal;" .null
set_option maxRecDepth 65536 in
set_option maxHeartbeats 40000000 in
theorem rmS (l : Launch) (Z : State) (a0 : Array Value) (hw : ∀ d ∈ tables_1, d.before a0 Z = true) (ws : List Jvm.Cond) (a1 : Addr) (qu : Int64) (sc : Int32) (g0 : Int32) (u0 : Int64) (s0 : Int32) (h0 : Heap) (n0 : Nat) (Z0 : n0 ≤ h0.size) (pr0 : Exa Z h0 a1 "com/example/lintel/lintel/Figure") (H1 : n0 ≤ a1) (pr2 : Fld Z h0 a1 "com/example/lintel/lintel/Figure" "given" "Z" (.int g0)) (pr3 : Fld Z h0 a1 "com/example/lintel/lintel/Figure" "unscaled" "J" (.long u0)) (pr4 : Fld Z h0 a1 "com/example/lintel/lintel/Figure" "scale" "I" (.int s0)) (pr5 : Fld Z h0 a1 "com/example/lintel/lintel/Figure" "large" "Ljava/math/BigDecimal;" .null) :
    MetFree l (⟨"com/example/lintel/lintel/Figure", "set", "(JI)V"⟩ : MethodName) (head1 (Jvm.Cond.code (⟨"com/example/lintel/lintel/Figure", "set", "(JI)V"⟩ : MethodName) prog_24_method_4_code 4 none :: ws) ({ frames := 0, cells := 0, slots := 0, locals := 0 } : Room)) (fun a U => a = #[(.ref a1), (.long qu), (.int sc)] ∧ Z.Warmed39 U.vm ∧ U.heap = h0) (fun _ _ _ _ _ => True) (fun _ U o U' => ∃ v L, o = .returned v ∧ QS Z a1 qu sc g0 u0 s0 h0 n0 v U'.heap L ∧ FrameEnd U o U' L ({ frames := 0, cells := 0, slots := 0, locals := 0 } : Room).cells ({ frames := 0, cells := 0, slots := 0, locals := 0 } : Room).slots) := by
  refine MetFree.of_bodySF (plainFor_of_name pn_com_example_lintel_lintel_Figure) hisR ?_
  intro p e s m args below meth c s₁ Bd hml0 hP hK
  obtain ⟨rfl, hZ, hh⟩ := hP
  have hx := Bd.exec
  have hby := Bd.bytes
  have hml : c.maxLocals = 4 := hml0
  have hown : s.vm.findClass "com/example/lintel/lintel/Figure" = some m.cls := findClass_of_methodNamed Bd.named
  have hnm := (name_of_methodNamed Bd.named Bd.method).1
  have X0 : Stand p l e ({ frames := 0, cells := 0, slots := 0, locals := 0 } : Room) s m #[(.ref a1), (.long qu), (.int sc)] below meth c s₁ [] 0 0 := Stand.of_body Bd
  have e0 : s₁.heap = h0 := by rw [← hh, Bd.state]; rfl
  have N0 := Fr.nil n0
  have pre0 : ∀ t, Steps p.tables e below (s₁.setTop (mkF m 0 #[.val (.ref a1), .val (.long qu), .second, .val (.int sc)] [])) t → Steps p.tables e below (s₁.setTop (entryFrame m #[(.ref a1), (.long qu), (.int sc)] 4)) t := fun t k => castTop (efS m a1 qu sc) k
  have cn1 : ∀ t, Steps p.tables e below (s₁.setTop (mkF m 2 #[.val (.ref a1), .val (.long qu), .second, .val (.int sc)] [(.int (1 : Int32)), (.ref a1)])) t → Steps p.tables e below (s₁.setTop (entryFrame m #[(.ref a1), (.long qu), (.int sc)] 4)) t := by
    intro t k
    refine pre0 t ?_
    refine o_aloadN X0.here hx (hb hby dS_0) rfl rfl ?_
    refine o_iconstV X0.here hx (1 : Int32) (hb hby dS_1) rfl ?_
    exact k
  obtain ⟨T2, h2, X2, e2, W2, st2⟩ := putF X0 hx hZ hown (host := "") (Or.inl (hw _ (List.mem_of_getElem? (i := 14) rfl))) Via.refl e0 pr2 pr0 (Or.inl (hw _ (List.mem_of_getElem? (i := 15) rfl))) (hw _ (List.mem_of_getElem? (i := 1) rfl)) (ty := .boolean) (by decide) rfl rfl (g := (mkF m 2 #[.val (.ref a1), .val (.long qu), .second, .val (.int sc)] [(.int (1 : Int32)), (.ref a1)])) rfl rfl (hb hby dS_2)
  have N2 := Fr.snoc X2 N0 H1
  have P2 : Keep h0 h2 [a1] := ((Keep.refl h0 [a1]).wr W2 (Or.inl (List.mem_of_getElem? (i := 0) rfl)))
  have Z2 : n0 ≤ h2.size := (by rw [W2.size]; exact Z0)
  have E3 : Exa Z h2 a1 "com/example/lintel/lintel/Figure" := (Exa.wr W2 pr0)
  have F4 : Fld Z h2 a1 "com/example/lintel/lintel/Figure" "given" "Z" (.int (1 : Int32)) := (Fld.same W2 pr2)
  have F5 : Fld Z h2 a1 "com/example/lintel/lintel/Figure" "unscaled" "J" (.long u0) := (Fld.other W2 pr3 (Or.inr (slot_ne (C := "com/example/lintel/lintel/Figure") (Or.inl (hw _ (List.mem_of_getElem? (i := 17) rfl))) (Or.inl (hw _ (List.mem_of_getElem? (i := 15) rfl))) (by decide) (t := .long) (t' := .boolean) (by decide) (by decide))))
  have F6 : Fld Z h2 a1 "com/example/lintel/lintel/Figure" "scale" "I" (.int s0) := (Fld.other W2 pr4 (Or.inr (slot_ne (C := "com/example/lintel/lintel/Figure") (Or.inl (hw _ (List.mem_of_getElem? (i := 19) rfl))) (Or.inl (hw _ (List.mem_of_getElem? (i := 15) rfl))) (by decide) (t := .int) (t' := .boolean) (by decide) (by decide))))
  have F7 : Fld Z h2 a1 "com/example/lintel/lintel/Figure" "large" "Ljava/math/BigDecimal;" .null := (Fld.other W2 pr5 (Or.inr (slot_ne (C := "com/example/lintel/lintel/Figure") (Or.inl (hw _ (List.mem_of_getElem? (i := 21) rfl))) (Or.inl (hw _ (List.mem_of_getElem? (i := 15) rfl))) (by decide) (t := (.object "java/math/BigDecimal")) (t' := .boolean) (by decide) (by decide))))
  have cn8 : ∀ t, Steps p.tables e below (T2.setTop (mkF m 5 #[.val (.ref a1), .val (.long qu), .second, .val (.int sc)] [])) t → Steps p.tables e below (s₁.setTop (entryFrame m #[(.ref a1), (.long qu), (.int sc)] 4)) t := fun t k => cn1 t (st2 _ k)
  have cn9 : ∀ t, Steps p.tables e below (T2.setTop (mkF m 7 #[.val (.ref a1), .val (.long qu), .second, .val (.int sc)] [(.long qu), (.ref a1)])) t → Steps p.tables e below (s₁.setTop (entryFrame m #[(.ref a1), (.long qu), (.int sc)] 4)) t := by
    intro t k
    refine cn8 t ?_
    refine o_aloadN X2.here hx (hb hby dS_5) rfl rfl ?_
    refine o_lloadN X2.here hx (hb hby dS_6) rfl ?_
    exact k
  obtain ⟨T10, h10, X10, e10, W10, st10⟩ := putF X2 hx hZ hown (host := "") (Or.inl (hw _ (List.mem_of_getElem? (i := 16) rfl))) Via.refl e2 F5 E3 (Or.inl (hw _ (List.mem_of_getElem? (i := 17) rfl))) (hw _ (List.mem_of_getElem? (i := 1) rfl)) (ty := .long) (by decide) rfl rfl (g := (mkF m 7 #[.val (.ref a1), .val (.long qu), .second, .val (.int sc)] [(.long qu), (.ref a1)])) rfl rfl (hb hby dS_7)
  have N10 := Fr.snoc X10 N2 H1
  have P10 : Keep h0 h10 [a1] := (P2.wr W10 (Or.inl (List.mem_of_getElem? (i := 0) rfl)))
  have Z10 : n0 ≤ h10.size := (by rw [W10.size]; exact Z2)
  have E11 : Exa Z h10 a1 "com/example/lintel/lintel/Figure" := (Exa.wr W10 E3)
  have F12 : Fld Z h10 a1 "com/example/lintel/lintel/Figure" "given" "Z" (.int (1 : Int32)) := (Fld.other W10 F4 (Or.inr (slot_ne (C := "com/example/lintel/lintel/Figure") (Or.inl (hw _ (List.mem_of_getElem? (i := 15) rfl))) (Or.inl (hw _ (List.mem_of_getElem? (i := 17) rfl))) (by decide) (t := .boolean) (t' := .long) (by decide) (by decide))))
  have F13 : Fld Z h10 a1 "com/example/lintel/lintel/Figure" "unscaled" "J" (.long qu) := (Fld.same W10 F5)
  have F14 : Fld Z h10 a1 "com/example/lintel/lintel/Figure" "scale" "I" (.int s0) := (Fld.other W10 F6 (Or.inr (slot_ne (C := "com/example/lintel/lintel/Figure") (Or.inl (hw _ (List.mem_of_getElem? (i := 19) rfl))) (Or.inl (hw _ (List.mem_of_getElem? (i := 17) rfl))) (by decide) (t := .int) (t' := .long) (by decide) (by decide))))
  have F15 : Fld Z h10 a1 "com/example/lintel/lintel/Figure" "large" "Ljava/math/BigDecimal;" .null := (Fld.other W10 F7 (Or.inr (slot_ne (C := "com/example/lintel/lintel/Figure") (Or.inl (hw _ (List.mem_of_getElem? (i := 21) rfl))) (Or.inl (hw _ (List.mem_of_getElem? (i := 17) rfl))) (by decide) (t := (.object "java/math/BigDecimal")) (t' := .long) (by decide) (by decide))))
  have cn16 : ∀ t, Steps p.tables e below (T10.setTop (mkF m 10 #[.val (.ref a1), .val (.long qu), .second, .val (.int sc)] [])) t → Steps p.tables e below (s₁.setTop (entryFrame m #[(.ref a1), (.long qu), (.int sc)] 4)) t := fun t k => cn9 t (st10 _ k)
  have cn17 : ∀ t, Steps p.tables e below (T10.setTop (mkF m 12 #[.val (.ref a1), .val (.long qu), .second, .val (.int sc)] [(.int sc), (.ref a1)])) t → Steps p.tables e below (s₁.setTop (entryFrame m #[(.ref a1), (.long qu), (.int sc)] 4)) t := by
    intro t k
    refine cn16 t ?_
    refine o_aloadN X10.here hx (hb hby dS_10) rfl rfl ?_
    refine o_iloadN X10.here hx (hb hby dS_11) rfl ?_
    exact k
  obtain ⟨T18, h18, X18, e18, W18, st18⟩ := putF X10 hx hZ hown (host := "") (Or.inl (hw _ (List.mem_of_getElem? (i := 18) rfl))) Via.refl e10 F14 E11 (Or.inl (hw _ (List.mem_of_getElem? (i := 19) rfl))) (hw _ (List.mem_of_getElem? (i := 1) rfl)) (ty := .int) (by decide) rfl rfl (g := (mkF m 12 #[.val (.ref a1), .val (.long qu), .second, .val (.int sc)] [(.int sc), (.ref a1)])) rfl rfl (hb hby dS_12)
  have N18 := Fr.snoc X18 N10 H1
  have P18 : Keep h0 h18 [a1] := (P10.wr W18 (Or.inl (List.mem_of_getElem? (i := 0) rfl)))
  have Z18 : n0 ≤ h18.size := (by rw [W18.size]; exact Z10)
  have E19 : Exa Z h18 a1 "com/example/lintel/lintel/Figure" := (Exa.wr W18 E11)
  have F20 : Fld Z h18 a1 "com/example/lintel/lintel/Figure" "given" "Z" (.int (1 : Int32)) := (Fld.other W18 F12 (Or.inr (slot_ne (C := "com/example/lintel/lintel/Figure") (Or.inl (hw _ (List.mem_of_getElem? (i := 15) rfl))) (Or.inl (hw _ (List.mem_of_getElem? (i := 19) rfl))) (by decide) (t := .boolean) (t' := .int) (by decide) (by decide))))
  have F21 : Fld Z h18 a1 "com/example/lintel/lintel/Figure" "unscaled" "J" (.long qu) := (Fld.other W18 F13 (Or.inr (slot_ne (C := "com/example/lintel/lintel/Figure") (Or.inl (hw _ (List.mem_of_getElem? (i := 17) rfl))) (Or.inl (hw _ (List.mem_of_getElem? (i := 19) rfl))) (by decide) (t := .long) (t' := .int) (by decide) (by decide))))
  have F22 : Fld Z h18 a1 "com/example/lintel/lintel/Figure" "scale" "I" (.int sc) := (Fld.same W18 F14)
  have F23 : Fld Z h18 a1 "com/example/lintel/lintel/Figure" "large" "Ljava/math/BigDecimal;" .null := (Fld.other W18 F15 (Or.inr (slot_ne (C := "com/example/lintel/lintel/Figure") (Or.inl (hw _ (List.mem_of_getElem? (i := 21) rfl))) (Or.inl (hw _ (List.mem_of_getElem? (i := 19) rfl))) (by decide) (t := (.object "java/math/BigDecimal")) (t' := .int) (by decide) (by decide))))
  have cn24 : ∀ t, Steps p.tables e below (T18.setTop (mkF m 15 #[.val (.ref a1), .val (.long qu), .second, .val (.int sc)] [])) t → Steps p.tables e below (s₁.setTop (entryFrame m #[(.ref a1), (.long qu), (.int sc)] 4)) t := fun t k => cn17 t (st18 _ k)
  have cn25 : ∀ t, Steps p.tables e below (T18.setTop (mkF m 17 #[.val (.ref a1), .val (.long qu), .second, .val (.int sc)] [.null, (.ref a1)])) t → Steps p.tables e below (s₁.setTop (entryFrame m #[(.ref a1), (.long qu), (.int sc)] 4)) t := by
    intro t k
    refine cn24 t ?_
    refine o_aloadN X18.here hx (hb hby dS_15) rfl rfl ?_
    refine o_aconstNull X18.here hx (hb hby dS_16) ?_
    exact k
  obtain ⟨T26, h26, X26, e26, W26, st26⟩ := putF X18 hx hZ hown (host := "") (Or.inl (hw _ (List.mem_of_getElem? (i := 20) rfl))) Via.refl e18 F23 E19 (Or.inl (hw _ (List.mem_of_getElem? (i := 21) rfl))) (hw _ (List.mem_of_getElem? (i := 1) rfl)) (ty := (.object "java/math/BigDecimal")) (by decide) rfl rfl (g := (mkF m 17 #[.val (.ref a1), .val (.long qu), .second, .val (.int sc)] [.null, (.ref a1)])) rfl rfl (hb hby dS_17)
  have N26 := Fr.snoc X26 N18 H1
  have P26 : Keep h0 h26 [a1] := (P18.wr W26 (Or.inl (List.mem_of_getElem? (i := 0) rfl)))
  have Z26 : n0 ≤ h26.size := (by rw [W26.size]; exact Z18)
  have E27 : Exa Z h26 a1 "com/example/lintel/lintel/Figure" := (Exa.wr W26 E19)
  have F28 : Fld Z h26 a1 "com/example/lintel/lintel/Figure" "given" "Z" (.int (1 : Int32)) := (Fld.other W26 F20 (Or.inr (slot_ne (C := "com/example/lintel/lintel/Figure") (Or.inl (hw _ (List.mem_of_getElem? (i := 15) rfl))) (Or.inl (hw _ (List.mem_of_getElem? (i := 21) rfl))) (by decide) (t := .boolean) (t' := (.object "java/math/BigDecimal")) (by decide) (by decide))))
  have F29 : Fld Z h26 a1 "com/example/lintel/lintel/Figure" "unscaled" "J" (.long qu) := (Fld.other W26 F21 (Or.inr (slot_ne (C := "com/example/lintel/lintel/Figure") (Or.inl (hw _ (List.mem_of_getElem? (i := 17) rfl))) (Or.inl (hw _ (List.mem_of_getElem? (i := 21) rfl))) (by decide) (t := .long) (t' := (.object "java/math/BigDecimal")) (by decide) (by decide))))
  have F30 : Fld Z h26 a1 "com/example/lintel/lintel/Figure" "scale" "I" (.int sc) := (Fld.other W26 F22 (Or.inr (slot_ne (C := "com/example/lintel/lintel/Figure") (Or.inl (hw _ (List.mem_of_getElem? (i := 19) rfl))) (Or.inl (hw _ (List.mem_of_getElem? (i := 21) rfl))) (by decide) (t := .int) (t' := (.object "java/math/BigDecimal")) (by decide) (by decide))))
  have F31 : Fld Z h26 a1 "com/example/lintel/lintel/Figure" "large" "Ljava/math/BigDecimal;" .null := (Fld.same W26 F23)
  have cn32 : ∀ t, Steps p.tables e below (T26.setTop (mkF m 20 #[.val (.ref a1), .val (.long qu), .second, .val (.int sc)] [])) t → Steps p.tables e below (s₁.setTop (entryFrame m #[(.ref a1), (.long qu), (.int sc)] 4)) t := fun t k => cn25 t (st26 _ k)
  obtain ⟨fs, hr, hrun, hended, hW, hsame⟩ := X26.leave (v := none) (fun _ => rfl)
  refine ⟨_, _, cn32 _ ?_, hrun, hended, _, _, rfl, ?_, ⟨_, rfl⟩, hW, hsame.mono (by decide) (by decide)⟩
  · exact X26.returnOut hx Bd.returns (hb hby dS_20) hr
  · show QS Z a1 qu sc g0 u0 s0 h0 n0 _ T26.heap _
    rw [e26]
    exact ⟨rfl, N26, P26, E27, F28, F29, F30, F31⟩

theorem dL_0 : decode prog_24_method_3_code 0 = .ok (.aload_n 0, 1) := by decide +kernel
theorem dL_1 : decode prog_24_method_3_code 1 = .ok (.iconst 0, 1) := by decide +kernel
theorem dL_2 : decode prog_24_method_3_code 2 = .ok (.putfield 14, 3) := by decide +kernel
theorem dL_5 : decode prog_24_method_3_code 5 = .ok (.aload_n 0, 1) := by decide +kernel
theorem dL_6 : decode prog_24_method_3_code 6 = .ok (.aconst_null, 1) := by decide +kernel
theorem dL_7 : decode prog_24_method_3_code 7 = .ok (.putfield 18, 3) := by decide +kernel
theorem dL_10 : decode prog_24_method_3_code 10 = .ok (.return_, 1) := by decide +kernel
theorem efL (m : MethodId) (x0 : Addr) : entryFrame m #[(.ref x0)] 1 = (mkF m 0 #[.val (.ref x0)] []) := by first | (simp [entryFrame, mkF, argsToLocals, Value.category]; done) | rfl
def QL (Z : State) (a1 : Addr) (g0 : Int32) (u0 : Int64) (s0 : Int32) (h0 : Heap) (n0 : Nat) (v : Option Value) (h : Heap) (L : List Loc) : Prop := v = none ∧ Fr n0 L ∧ Keep h0 h [a1] ∧ Exa Z h a1 "com/example/lintel/lintel/Figure" ∧ Fld Z h a1 "com/example/lintel/lintel/Figure" "given" "Z" (.int (0 : Int32)) ∧ Fld Z h a1 "com/example/lintel/lintel/Figure" "unscaled" "J" (.long u0) ∧ Fld Z h a1 "com/example/lintel/lintel/Figure" "scale" "I" (.int s0) ∧ Fld Z h a1 "com/example/lintel/lintel/Figure" "large" "Ljava/math/BigDecimal;" .null
set_option maxRecDepth 65536 in
set_option maxHeartbeats 40000000 in
theorem rmL (l : Launch) (Z : State) (a0 : Array Value) (hw : ∀ d ∈ tables_1, d.before a0 Z = true) (ws : List Jvm.Cond) (a1 : Addr) (g0 : Int32) (u0 : Int64) (s0 : Int32) (h0 : Heap) (n0 : Nat) (Z0 : n0 ≤ h0.size) (pr0 : Exa Z h0 a1 "com/example/lintel/lintel/Figure") (H1 : n0 ≤ a1) (pr2 : Fld Z h0 a1 "com/example/lintel/lintel/Figure" "given" "Z" (.int g0)) (pr3 : Fld Z h0 a1 "com/example/lintel/lintel/Figure" "unscaled" "J" (.long u0)) (pr4 : Fld Z h0 a1 "com/example/lintel/lintel/Figure" "scale" "I" (.int s0)) (pr5 : Fld Z h0 a1 "com/example/lintel/lintel/Figure" "large" "Ljava/math/BigDecimal;" .null) :
    MetFree l (⟨"com/example/lintel/lintel/Figure", "clear", "()V"⟩ : MethodName) (head1 (Jvm.Cond.code (⟨"com/example/lintel/lintel/Figure", "clear", "()V"⟩ : MethodName) prog_24_method_3_code 1 none :: ws) ({ frames := 0, cells := 0, slots := 0, locals := 0 } : Room)) (fun a U => a = #[(.ref a1)] ∧ Z.Warmed39 U.vm ∧ U.heap = h0) (fun _ _ _ _ _ => True) (fun _ U o U' => ∃ v L, o = .returned v ∧ QL Z a1 g0 u0 s0 h0 n0 v U'.heap L ∧ FrameEnd U o U' L ({ frames := 0, cells := 0, slots := 0, locals := 0 } : Room).cells ({ frames := 0, cells := 0, slots := 0, locals := 0 } : Room).slots) := by
  refine MetFree.of_bodySF (plainFor_of_name pn_com_example_lintel_lintel_Figure) hisR ?_
  intro p e s m args below meth c s₁ Bd hml0 hP hK
  obtain ⟨rfl, hZ, hh⟩ := hP
  have hx := Bd.exec
  have hby := Bd.bytes
  have hml : c.maxLocals = 1 := hml0
  have hown : s.vm.findClass "com/example/lintel/lintel/Figure" = some m.cls := findClass_of_methodNamed Bd.named
  have hnm := (name_of_methodNamed Bd.named Bd.method).1
  have X0 : Stand p l e ({ frames := 0, cells := 0, slots := 0, locals := 0 } : Room) s m #[(.ref a1)] below meth c s₁ [] 0 0 := Stand.of_body Bd
  have e0 : s₁.heap = h0 := by rw [← hh, Bd.state]; rfl
  have N0 := Fr.nil n0
  have pre0 : ∀ t, Steps p.tables e below (s₁.setTop (mkF m 0 #[.val (.ref a1)] [])) t → Steps p.tables e below (s₁.setTop (entryFrame m #[(.ref a1)] 1)) t := fun t k => castTop (efL m a1) k
  have cn1 : ∀ t, Steps p.tables e below (s₁.setTop (mkF m 2 #[.val (.ref a1)] [(.int (0 : Int32)), (.ref a1)])) t → Steps p.tables e below (s₁.setTop (entryFrame m #[(.ref a1)] 1)) t := by
    intro t k
    refine pre0 t ?_
    refine o_aloadN X0.here hx (hb hby dL_0) rfl rfl ?_
    refine o_iconstV X0.here hx (0 : Int32) (hb hby dL_1) rfl ?_
    exact k
  obtain ⟨T2, h2, X2, e2, W2, st2⟩ := putF X0 hx hZ hown (host := "") (Or.inl (hw _ (List.mem_of_getElem? (i := 14) rfl))) Via.refl e0 pr2 pr0 (Or.inl (hw _ (List.mem_of_getElem? (i := 15) rfl))) (hw _ (List.mem_of_getElem? (i := 1) rfl)) (ty := .boolean) (by decide) rfl rfl (g := (mkF m 2 #[.val (.ref a1)] [(.int (0 : Int32)), (.ref a1)])) rfl rfl (hb hby dL_2)
  have N2 := Fr.snoc X2 N0 H1
  have P2 : Keep h0 h2 [a1] := ((Keep.refl h0 [a1]).wr W2 (Or.inl (List.mem_of_getElem? (i := 0) rfl)))
  have Z2 : n0 ≤ h2.size := (by rw [W2.size]; exact Z0)
  have E3 : Exa Z h2 a1 "com/example/lintel/lintel/Figure" := (Exa.wr W2 pr0)
  have F4 : Fld Z h2 a1 "com/example/lintel/lintel/Figure" "given" "Z" (.int (0 : Int32)) := (Fld.same W2 pr2)
  have F5 : Fld Z h2 a1 "com/example/lintel/lintel/Figure" "unscaled" "J" (.long u0) := (Fld.other W2 pr3 (Or.inr (slot_ne (C := "com/example/lintel/lintel/Figure") (Or.inl (hw _ (List.mem_of_getElem? (i := 17) rfl))) (Or.inl (hw _ (List.mem_of_getElem? (i := 15) rfl))) (by decide) (t := .long) (t' := .boolean) (by decide) (by decide))))
  have F6 : Fld Z h2 a1 "com/example/lintel/lintel/Figure" "scale" "I" (.int s0) := (Fld.other W2 pr4 (Or.inr (slot_ne (C := "com/example/lintel/lintel/Figure") (Or.inl (hw _ (List.mem_of_getElem? (i := 19) rfl))) (Or.inl (hw _ (List.mem_of_getElem? (i := 15) rfl))) (by decide) (t := .int) (t' := .boolean) (by decide) (by decide))))
  have F7 : Fld Z h2 a1 "com/example/lintel/lintel/Figure" "large" "Ljava/math/BigDecimal;" .null := (Fld.other W2 pr5 (Or.inr (slot_ne (C := "com/example/lintel/lintel/Figure") (Or.inl (hw _ (List.mem_of_getElem? (i := 21) rfl))) (Or.inl (hw _ (List.mem_of_getElem? (i := 15) rfl))) (by decide) (t := (.object "java/math/BigDecimal")) (t' := .boolean) (by decide) (by decide))))
  have cn8 : ∀ t, Steps p.tables e below (T2.setTop (mkF m 5 #[.val (.ref a1)] [])) t → Steps p.tables e below (s₁.setTop (entryFrame m #[(.ref a1)] 1)) t := fun t k => cn1 t (st2 _ k)
  have cn9 : ∀ t, Steps p.tables e below (T2.setTop (mkF m 7 #[.val (.ref a1)] [.null, (.ref a1)])) t → Steps p.tables e below (s₁.setTop (entryFrame m #[(.ref a1)] 1)) t := by
    intro t k
    refine cn8 t ?_
    refine o_aloadN X2.here hx (hb hby dL_5) rfl rfl ?_
    refine o_aconstNull X2.here hx (hb hby dL_6) ?_
    exact k
  obtain ⟨T10, h10, X10, e10, W10, st10⟩ := putF X2 hx hZ hown (host := "") (Or.inl (hw _ (List.mem_of_getElem? (i := 20) rfl))) Via.refl e2 F7 E3 (Or.inl (hw _ (List.mem_of_getElem? (i := 21) rfl))) (hw _ (List.mem_of_getElem? (i := 1) rfl)) (ty := (.object "java/math/BigDecimal")) (by decide) rfl rfl (g := (mkF m 7 #[.val (.ref a1)] [.null, (.ref a1)])) rfl rfl (hb hby dL_7)
  have N10 := Fr.snoc X10 N2 H1
  have P10 : Keep h0 h10 [a1] := (P2.wr W10 (Or.inl (List.mem_of_getElem? (i := 0) rfl)))
  have Z10 : n0 ≤ h10.size := (by rw [W10.size]; exact Z2)
  have E11 : Exa Z h10 a1 "com/example/lintel/lintel/Figure" := (Exa.wr W10 E3)
  have F12 : Fld Z h10 a1 "com/example/lintel/lintel/Figure" "given" "Z" (.int (0 : Int32)) := (Fld.other W10 F4 (Or.inr (slot_ne (C := "com/example/lintel/lintel/Figure") (Or.inl (hw _ (List.mem_of_getElem? (i := 15) rfl))) (Or.inl (hw _ (List.mem_of_getElem? (i := 21) rfl))) (by decide) (t := .boolean) (t' := (.object "java/math/BigDecimal")) (by decide) (by decide))))
  have F13 : Fld Z h10 a1 "com/example/lintel/lintel/Figure" "unscaled" "J" (.long u0) := (Fld.other W10 F5 (Or.inr (slot_ne (C := "com/example/lintel/lintel/Figure") (Or.inl (hw _ (List.mem_of_getElem? (i := 17) rfl))) (Or.inl (hw _ (List.mem_of_getElem? (i := 21) rfl))) (by decide) (t := .long) (t' := (.object "java/math/BigDecimal")) (by decide) (by decide))))
  have F14 : Fld Z h10 a1 "com/example/lintel/lintel/Figure" "scale" "I" (.int s0) := (Fld.other W10 F6 (Or.inr (slot_ne (C := "com/example/lintel/lintel/Figure") (Or.inl (hw _ (List.mem_of_getElem? (i := 19) rfl))) (Or.inl (hw _ (List.mem_of_getElem? (i := 21) rfl))) (by decide) (t := .int) (t' := (.object "java/math/BigDecimal")) (by decide) (by decide))))
  have F15 : Fld Z h10 a1 "com/example/lintel/lintel/Figure" "large" "Ljava/math/BigDecimal;" .null := (Fld.same W10 F7)
  have cn16 : ∀ t, Steps p.tables e below (T10.setTop (mkF m 10 #[.val (.ref a1)] [])) t → Steps p.tables e below (s₁.setTop (entryFrame m #[(.ref a1)] 1)) t := fun t k => cn9 t (st10 _ k)
  obtain ⟨fs, hr, hrun, hended, hW, hsame⟩ := X10.leave (v := none) (fun _ => rfl)
  refine ⟨_, _, cn16 _ ?_, hrun, hended, _, _, rfl, ?_, ⟨_, rfl⟩, hW, hsame.mono (by decide) (by decide)⟩
  · exact X10.returnOut hx Bd.returns (hb hby dL_10) hr
  · show QL Z a1 g0 u0 s0 h0 n0 _ T10.heap _
    rw [e10]
    exact ⟨rfl, N10, P10, E11, F12, F13, F14, F15⟩

theorem dN_0 : decode method_2_code 0 = .ok (.lload_n 0, 1) := by decide +kernel
theorem dN_1 : decode method_2_code 1 = .ok (.lconst 0, 1) := by decide +kernel
theorem dN_2 : decode method_2_code 2 = .ok (.lcmp, 1) := by decide +kernel
theorem dN_3 : decode method_2_code 3 = .ok (.ifCond .le 5, 3) := by decide +kernel
theorem dN_6 : decode method_2_code 6 = .ok (.iconst 1, 1) := by decide +kernel
theorem dN_7 : decode method_2_code 7 = .ok (.ireturn, 1) := by decide +kernel
theorem dN_8 : decode method_2_code 8 = .ok (.lload_n 0, 1) := by decide +kernel
theorem dN_9 : decode method_2_code 9 = .ok (.lconst 0, 1) := by decide +kernel
theorem dN_10 : decode method_2_code 10 = .ok (.lcmp, 1) := by decide +kernel
theorem dN_11 : decode method_2_code 11 = .ok (.ifCond .ge 5, 3) := by decide +kernel
theorem dN_14 : decode method_2_code 14 = .ok (.iconst (-1), 1) := by decide +kernel
theorem dN_15 : decode method_2_code 15 = .ok (.ireturn, 1) := by decide +kernel
theorem dN_16 : decode method_2_code 16 = .ok (.iconst 0, 1) := by decide +kernel
theorem dN_17 : decode method_2_code 17 = .ok (.ireturn, 1) := by decide +kernel
theorem pn_com_example_lintel_lintel_FigureSetPinLaw : plainName "com/example/lintel/lintel/FigureSetPinLaw" = true := by first | (simp [plainName, overriddenIn]; done) | decide +kernel
theorem efN (m : MethodId) (x0 : Int64) : entryFrame m #[(.long x0)] 2 = (mkF m 0 #[.val (.long x0), .second] []) := by first | (simp [entryFrame, mkF, argsToLocals, Value.category]; done) | rfl
def QN (Z : State) (qu : Int64) (h0 : Heap) (n0 : Nat) (v : Option Value) (h : Heap) (L : List Loc) : Prop := v = some (.int (own_sign qu)) ∧ Fr n0 L ∧ h = h0
set_option maxRecDepth 65536 in
set_option maxHeartbeats 40000000 in
theorem rmN (l : Launch) (Z : State) (a0 : Array Value) (hw : ∀ d ∈ tables_1, d.before a0 Z = true) (ws : List Jvm.Cond) (qu : Int64) (h0 : Heap) (n0 : Nat) (Z0 : n0 ≤ h0.size) :
    MetFree l (⟨"com/example/lintel/lintel/FigureSetPinLaw", "sign", "(J)I"⟩ : MethodName) (head1 (Jvm.Cond.code (⟨"com/example/lintel/lintel/FigureSetPinLaw", "sign", "(J)I"⟩ : MethodName) method_2_code 2 (some .int) :: ws) ({ frames := 0, cells := 0, slots := 0, locals := 0 } : Room)) (fun a U => a = #[(.long qu)] ∧ Z.Warmed39 U.vm ∧ U.heap = h0) (fun _ _ _ _ _ => True) (fun _ U o U' => ∃ v L, o = .returned v ∧ QN Z qu h0 n0 v U'.heap L ∧ FrameEnd U o U' L ({ frames := 0, cells := 0, slots := 0, locals := 0 } : Room).cells ({ frames := 0, cells := 0, slots := 0, locals := 0 } : Room).slots) := by
  refine MetFree.of_bodySF (plainFor_of_name pn_com_example_lintel_lintel_FigureSetPinLaw) hisR ?_
  intro p e s m args below meth c s₁ Bd hml0 hP hK
  obtain ⟨rfl, hZ, hh⟩ := hP
  have hx := Bd.exec
  have hby := Bd.bytes
  have hml : c.maxLocals = 2 := hml0
  have hown : s.vm.findClass "com/example/lintel/lintel/FigureSetPinLaw" = some m.cls := findClass_of_methodNamed Bd.named
  have hnm := (name_of_methodNamed Bd.named Bd.method).1
  have X0 : Stand p l e ({ frames := 0, cells := 0, slots := 0, locals := 0 } : Room) s m #[(.long qu)] below meth c s₁ [] 0 0 := Stand.of_body Bd
  have e0 : s₁.heap = h0 := by rw [← hh, Bd.state]; rfl
  have N0 := Fr.nil n0
  have pre0 : ∀ t, Steps p.tables e below (s₁.setTop (mkF m 0 #[.val (.long qu), .second] [])) t → Steps p.tables e below (s₁.setTop (entryFrame m #[(.long qu)] 2)) t := fun t k => castTop (efN m qu) k
  have cn1 : ∀ t, Steps p.tables e below (s₁.setTop (mkF m 3 #[.val (.long qu), .second] [(.int (XT.cmpL qu (0 : Int64)))])) t → Steps p.tables e below (s₁.setTop (entryFrame m #[(.long qu)] 2)) t := by
    intro t k
    refine pre0 t ?_
    refine o_lloadN X0.here hx (hb hby dN_0) rfl ?_
    refine o_lconstV X0.here hx (0 : Int64) (hb hby dN_1) rfl ?_
    refine o_lcmp X0.here hx (hb hby dN_2) ?_
    exact k
  by_cases h3_2 : (0 : Int64) < qu
  · -- pc 3 not taken
    have cn3 : ∀ t, Steps p.tables e below (s₁.setTop (mkF m 7 #[.val (.long qu), .second] [(.int (1 : Int32))])) t → Steps p.tables e below (s₁.setTop (entryFrame m #[(.long qu)] 2)) t := by
      intro t k
      refine cn1 t ?_
      refine o_ifNo X0.here hx (hb hby dN_3) (XT.ll_le_f h3_2) ?_
      refine o_iconstV X0.here hx (1 : Int32) (hb hby dN_6) rfl ?_
      exact k
    obtain ⟨fs, hr, hrun, hended, hW, hsame⟩ := X0.leave (v := some (.int (1 : Int32))) (fun h => by rw [Bd.returns] at h; cases h)
    refine ⟨_, _, cn3 _ ?_, hrun, hended, _, _, rfl, ?_, ⟨_, rfl⟩, hW, hsame.mono (by decide) (by decide)⟩
    · exact retI X0 hx Bd.returns (hb hby dN_7) hr
    · show QN Z qu h0 n0 _ s₁.heap _
      rw [e0]
      exact ⟨(by simp [own_sign, h3_2]), N0, rfl⟩
  · -- pc 3 taken
    have cn4 : ∀ t, Steps p.tables e below (s₁.setTop (mkF m 11 #[.val (.long qu), .second] [(.int (XT.cmpL qu (0 : Int64)))])) t → Steps p.tables e below (s₁.setTop (entryFrame m #[(.long qu)] 2)) t := by
      intro t k
      refine cn1 t ?_
      refine o_ifYes X0.here hx (pc' := 8) (hb hby dN_3) (XT.ll_le_t h3_2) (by decide) (by decide) ?_
      refine o_lloadN X0.here hx (hb hby dN_8) rfl ?_
      refine o_lconstV X0.here hx (0 : Int64) (hb hby dN_9) rfl ?_
      refine o_lcmp X0.here hx (hb hby dN_10) ?_
      exact k
    by_cases h11_5 : qu < (0 : Int64)
    · -- pc 11 not taken
      have cn6 : ∀ t, Steps p.tables e below (s₁.setTop (mkF m 15 #[.val (.long qu), .second] [(.int (-1 : Int32))])) t → Steps p.tables e below (s₁.setTop (entryFrame m #[(.long qu)] 2)) t := by
        intro t k
        refine cn4 t ?_
        refine o_ifNo X0.here hx (hb hby dN_11) (XT.ll_ge_f h11_5) ?_
        refine o_iconstV X0.here hx (-1 : Int32) (hb hby dN_14) rfl ?_
        exact k
      obtain ⟨fs, hr, hrun, hended, hW, hsame⟩ := X0.leave (v := some (.int (-1 : Int32))) (fun h => by rw [Bd.returns] at h; cases h)
      refine ⟨_, _, cn6 _ ?_, hrun, hended, _, _, rfl, ?_, ⟨_, rfl⟩, hW, hsame.mono (by decide) (by decide)⟩
      · exact retI X0 hx Bd.returns (hb hby dN_15) hr
      · show QN Z qu h0 n0 _ s₁.heap _
        rw [e0]
        exact ⟨(by simp [own_sign, h3_2, h11_5]), N0, rfl⟩
    · -- pc 11 taken
      have cn7 : ∀ t, Steps p.tables e below (s₁.setTop (mkF m 17 #[.val (.long qu), .second] [(.int (0 : Int32))])) t → Steps p.tables e below (s₁.setTop (entryFrame m #[(.long qu)] 2)) t := by
        intro t k
        refine cn4 t ?_
        refine o_ifYes X0.here hx (pc' := 16) (hb hby dN_11) (XT.ll_ge_t h11_5) (by decide) (by decide) ?_
        refine o_iconstV X0.here hx (0 : Int32) (hb hby dN_16) rfl ?_
        exact k
      obtain ⟨fs, hr, hrun, hended, hW, hsame⟩ := X0.leave (v := some (.int (0 : Int32))) (fun h => by rw [Bd.returns] at h; cases h)
      refine ⟨_, _, cn7 _ ?_, hrun, hended, _, _, rfl, ?_, ⟨_, rfl⟩, hW, hsame.mono (by decide) (by decide)⟩
      · exact retI X0 hx Bd.returns (hb hby dN_17) hr
      · show QN Z qu h0 n0 _ s₁.heap _
        rw [e0]
        exact ⟨(by simp [own_sign, h3_2, h11_5]), N0, rfl⟩

theorem dM_0 : decode method_3_code 0 = .ok (.lload_n 0, 1) := by decide +kernel
theorem dM_1 : decode method_3_code 1 = .ok (.lload_n 2, 1) := by decide +kernel
theorem dM_2 : decode method_3_code 2 = .ok (.lcmp, 1) := by decide +kernel
theorem dM_3 : decode method_3_code 3 = .ok (.ifCond .ge 5, 3) := by decide +kernel
theorem dM_6 : decode method_3_code 6 = .ok (.iconst (-1), 1) := by decide +kernel
theorem dM_7 : decode method_3_code 7 = .ok (.ireturn, 1) := by decide +kernel
theorem dM_8 : decode method_3_code 8 = .ok (.lload_n 0, 1) := by decide +kernel
theorem dM_9 : decode method_3_code 9 = .ok (.lload_n 2, 1) := by decide +kernel
theorem dM_10 : decode method_3_code 10 = .ok (.lcmp, 1) := by decide +kernel
theorem dM_11 : decode method_3_code 11 = .ok (.ifCond .le 5, 3) := by decide +kernel
theorem dM_14 : decode method_3_code 14 = .ok (.iconst 1, 1) := by decide +kernel
theorem dM_15 : decode method_3_code 15 = .ok (.ireturn, 1) := by decide +kernel
theorem dM_16 : decode method_3_code 16 = .ok (.iconst 0, 1) := by decide +kernel
theorem dM_17 : decode method_3_code 17 = .ok (.ireturn, 1) := by decide +kernel
theorem efM (m : MethodId) (x0 : Int64) (x1 : Int64) : entryFrame m #[(.long x0), (.long x1)] 4 = (mkF m 0 #[.val (.long x0), .second, .val (.long x1), .second] []) := by first | (simp [entryFrame, mkF, argsToLocals, Value.category]; done) | rfl
def QM (Z : State) (qu : Int64) (qv : Int64) (h0 : Heap) (n0 : Nat) (v : Option Value) (h : Heap) (L : List Loc) : Prop := v = some (.int (own_cmp qu qv)) ∧ Fr n0 L ∧ h = h0
set_option maxRecDepth 65536 in
set_option maxHeartbeats 40000000 in
theorem rmM (l : Launch) (Z : State) (a0 : Array Value) (hw : ∀ d ∈ tables_1, d.before a0 Z = true) (ws : List Jvm.Cond) (qu : Int64) (qv : Int64) (h0 : Heap) (n0 : Nat) (Z0 : n0 ≤ h0.size) :
    MetFree l (⟨"com/example/lintel/lintel/FigureSetPinLaw", "cmp", "(JJ)I"⟩ : MethodName) (head1 (Jvm.Cond.code (⟨"com/example/lintel/lintel/FigureSetPinLaw", "cmp", "(JJ)I"⟩ : MethodName) method_3_code 4 (some .int) :: ws) ({ frames := 0, cells := 0, slots := 0, locals := 0 } : Room)) (fun a U => a = #[(.long qu), (.long qv)] ∧ Z.Warmed39 U.vm ∧ U.heap = h0) (fun _ _ _ _ _ => True) (fun _ U o U' => ∃ v L, o = .returned v ∧ QM Z qu qv h0 n0 v U'.heap L ∧ FrameEnd U o U' L ({ frames := 0, cells := 0, slots := 0, locals := 0 } : Room).cells ({ frames := 0, cells := 0, slots := 0, locals := 0 } : Room).slots) := by
  refine MetFree.of_bodySF (plainFor_of_name pn_com_example_lintel_lintel_FigureSetPinLaw) hisR ?_
  intro p e s m args below meth c s₁ Bd hml0 hP hK
  obtain ⟨rfl, hZ, hh⟩ := hP
  have hx := Bd.exec
  have hby := Bd.bytes
  have hml : c.maxLocals = 4 := hml0
  have hown : s.vm.findClass "com/example/lintel/lintel/FigureSetPinLaw" = some m.cls := findClass_of_methodNamed Bd.named
  have hnm := (name_of_methodNamed Bd.named Bd.method).1
  have X0 : Stand p l e ({ frames := 0, cells := 0, slots := 0, locals := 0 } : Room) s m #[(.long qu), (.long qv)] below meth c s₁ [] 0 0 := Stand.of_body Bd
  have e0 : s₁.heap = h0 := by rw [← hh, Bd.state]; rfl
  have N0 := Fr.nil n0
  have pre0 : ∀ t, Steps p.tables e below (s₁.setTop (mkF m 0 #[.val (.long qu), .second, .val (.long qv), .second] [])) t → Steps p.tables e below (s₁.setTop (entryFrame m #[(.long qu), (.long qv)] 4)) t := fun t k => castTop (efM m qu qv) k
  have cn1 : ∀ t, Steps p.tables e below (s₁.setTop (mkF m 3 #[.val (.long qu), .second, .val (.long qv), .second] [(.int (XT.cmpL qu qv))])) t → Steps p.tables e below (s₁.setTop (entryFrame m #[(.long qu), (.long qv)] 4)) t := by
    intro t k
    refine pre0 t ?_
    refine o_lloadN X0.here hx (hb hby dM_0) rfl ?_
    refine o_lloadN X0.here hx (hb hby dM_1) rfl ?_
    refine o_lcmp X0.here hx (hb hby dM_2) ?_
    exact k
  by_cases h3_2 : qu < qv
  · -- pc 3 not taken
    have cn3 : ∀ t, Steps p.tables e below (s₁.setTop (mkF m 7 #[.val (.long qu), .second, .val (.long qv), .second] [(.int (-1 : Int32))])) t → Steps p.tables e below (s₁.setTop (entryFrame m #[(.long qu), (.long qv)] 4)) t := by
      intro t k
      refine cn1 t ?_
      refine o_ifNo X0.here hx (hb hby dM_3) (XT.ll_ge_f h3_2) ?_
      refine o_iconstV X0.here hx (-1 : Int32) (hb hby dM_6) rfl ?_
      exact k
    obtain ⟨fs, hr, hrun, hended, hW, hsame⟩ := X0.leave (v := some (.int (-1 : Int32))) (fun h => by rw [Bd.returns] at h; cases h)
    refine ⟨_, _, cn3 _ ?_, hrun, hended, _, _, rfl, ?_, ⟨_, rfl⟩, hW, hsame.mono (by decide) (by decide)⟩
    · exact retI X0 hx Bd.returns (hb hby dM_7) hr
    · show QM Z qu qv h0 n0 _ s₁.heap _
      rw [e0]
      exact ⟨(by simp [own_cmp, h3_2]), N0, rfl⟩
  · -- pc 3 taken
    have cn4 : ∀ t, Steps p.tables e below (s₁.setTop (mkF m 11 #[.val (.long qu), .second, .val (.long qv), .second] [(.int (XT.cmpL qu qv))])) t → Steps p.tables e below (s₁.setTop (entryFrame m #[(.long qu), (.long qv)] 4)) t := by
      intro t k
      refine cn1 t ?_
      refine o_ifYes X0.here hx (pc' := 8) (hb hby dM_3) (XT.ll_ge_t h3_2) (by decide) (by decide) ?_
      refine o_lloadN X0.here hx (hb hby dM_8) rfl ?_
      refine o_lloadN X0.here hx (hb hby dM_9) rfl ?_
      refine o_lcmp X0.here hx (hb hby dM_10) ?_
      exact k
    by_cases h11_5 : qv < qu
    · -- pc 11 not taken
      have cn6 : ∀ t, Steps p.tables e below (s₁.setTop (mkF m 15 #[.val (.long qu), .second, .val (.long qv), .second] [(.int (1 : Int32))])) t → Steps p.tables e below (s₁.setTop (entryFrame m #[(.long qu), (.long qv)] 4)) t := by
        intro t k
        refine cn4 t ?_
        refine o_ifNo X0.here hx (hb hby dM_11) (XT.ll_le_f h11_5) ?_
        refine o_iconstV X0.here hx (1 : Int32) (hb hby dM_14) rfl ?_
        exact k
      obtain ⟨fs, hr, hrun, hended, hW, hsame⟩ := X0.leave (v := some (.int (1 : Int32))) (fun h => by rw [Bd.returns] at h; cases h)
      refine ⟨_, _, cn6 _ ?_, hrun, hended, _, _, rfl, ?_, ⟨_, rfl⟩, hW, hsame.mono (by decide) (by decide)⟩
      · exact retI X0 hx Bd.returns (hb hby dM_15) hr
      · show QM Z qu qv h0 n0 _ s₁.heap _
        rw [e0]
        exact ⟨(by simp [own_cmp, h3_2, h11_5]), N0, rfl⟩
    · -- pc 11 taken
      have cn7 : ∀ t, Steps p.tables e below (s₁.setTop (mkF m 17 #[.val (.long qu), .second, .val (.long qv), .second] [(.int (0 : Int32))])) t → Steps p.tables e below (s₁.setTop (entryFrame m #[(.long qu), (.long qv)] 4)) t := by
        intro t k
        refine cn4 t ?_
        refine o_ifYes X0.here hx (pc' := 16) (hb hby dM_11) (XT.ll_le_t h11_5) (by decide) (by decide) ?_
        refine o_iconstV X0.here hx (0 : Int32) (hb hby dM_16) rfl ?_
        exact k
      obtain ⟨fs, hr, hrun, hended, hW, hsame⟩ := X0.leave (v := some (.int (0 : Int32))) (fun h => by rw [Bd.returns] at h; cases h)
      refine ⟨_, _, cn7 _ ?_, hrun, hended, _, _, rfl, ?_, ⟨_, rfl⟩, hW, hsame.mono (by decide) (by decide)⟩
      · exact retI X0 hx Bd.returns (hb hby dM_17) hr
      · show QM Z qu qv h0 n0 _ s₁.heap _
        rw [e0]
        exact ⟨(by simp [own_cmp, h3_2, h11_5]), N0, rfl⟩

theorem own_gt {a b : Int64} (h : ¬ a < b) (g : ¬ a = b) : b < a := by
  rw [Int64.lt_iff_toInt_lt] at *
  have : ¬ a.toInt = b.toInt := fun e => g (Int64.toInt_inj.mp e)
  omega

theorem dP_0 : decode jdk_35_method_42_code 0 = .ok (.lload_n 0, 1) := by decide +kernel
theorem dP_1 : decode jdk_35_method_42_code 1 = .ok (.lload_n 2, 1) := by decide +kernel
theorem dP_2 : decode jdk_35_method_42_code 2 = .ok (.lcmp, 1) := by decide +kernel
theorem dP_3 : decode jdk_35_method_42_code 3 = .ok (.ifCond .ge 7, 3) := by decide +kernel
theorem dP_6 : decode jdk_35_method_42_code 6 = .ok (.iconst (-1), 1) := by decide +kernel
theorem dP_7 : decode jdk_35_method_42_code 7 = .ok (.goto 14, 3) := by decide +kernel
theorem dP_10 : decode jdk_35_method_42_code 10 = .ok (.lload_n 0, 1) := by decide +kernel
theorem dP_11 : decode jdk_35_method_42_code 11 = .ok (.lload_n 2, 1) := by decide +kernel
theorem dP_12 : decode jdk_35_method_42_code 12 = .ok (.lcmp, 1) := by decide +kernel
theorem dP_13 : decode jdk_35_method_42_code 13 = .ok (.ifCond .ne 7, 3) := by decide +kernel
theorem dP_16 : decode jdk_35_method_42_code 16 = .ok (.iconst 0, 1) := by decide +kernel
theorem dP_17 : decode jdk_35_method_42_code 17 = .ok (.goto 4, 3) := by decide +kernel
theorem dP_20 : decode jdk_35_method_42_code 20 = .ok (.iconst 1, 1) := by decide +kernel
theorem dP_21 : decode jdk_35_method_42_code 21 = .ok (.ireturn, 1) := by decide +kernel
theorem pn_java_lang_Long : plainName "java/lang/Long" = true := by first | (simp [plainName, overriddenIn]; done) | decide +kernel
theorem efP (m : MethodId) (x0 : Int64) (x1 : Int64) : entryFrame m #[(.long x0), (.long x1)] 4 = (mkF m 0 #[.val (.long x0), .second, .val (.long x1), .second] []) := by first | (simp [entryFrame, mkF, argsToLocals, Value.category]; done) | rfl
def QP (Z : State) (qu : Int64) (qv : Int64) (h0 : Heap) (n0 : Nat) (v : Option Value) (h : Heap) (L : List Loc) : Prop := v = some (.int (own_cmp qu qv)) ∧ Fr n0 L ∧ h = h0
set_option maxRecDepth 65536 in
set_option maxHeartbeats 40000000 in
theorem rmP (l : Launch) (Z : State) (a0 : Array Value) (hw : ∀ d ∈ tables_1, d.before a0 Z = true) (ws : List Jvm.Cond) (qu : Int64) (qv : Int64) (h0 : Heap) (n0 : Nat) (Z0 : n0 ≤ h0.size) :
    MetFree l (⟨"java/lang/Long", "compare", "(JJ)I"⟩ : MethodName) (head1 (Jvm.Cond.code (⟨"java/lang/Long", "compare", "(JJ)I"⟩ : MethodName) jdk_35_method_42_code 4 (some .int) :: ws) ({ frames := 0, cells := 0, slots := 0, locals := 0 } : Room)) (fun a U => a = #[(.long qu), (.long qv)] ∧ Z.Warmed39 U.vm ∧ U.heap = h0) (fun _ _ _ _ _ => True) (fun _ U o U' => ∃ v L, o = .returned v ∧ QP Z qu qv h0 n0 v U'.heap L ∧ FrameEnd U o U' L ({ frames := 0, cells := 0, slots := 0, locals := 0 } : Room).cells ({ frames := 0, cells := 0, slots := 0, locals := 0 } : Room).slots) := by
  refine MetFree.of_bodySF (plainFor_of_name pn_java_lang_Long) hisR ?_
  intro p e s m args below meth c s₁ Bd hml0 hP hK
  obtain ⟨rfl, hZ, hh⟩ := hP
  have hx := Bd.exec
  have hby := Bd.bytes
  have hml : c.maxLocals = 4 := hml0
  have hown : s.vm.findClass "java/lang/Long" = some m.cls := findClass_of_methodNamed Bd.named
  have hnm := (name_of_methodNamed Bd.named Bd.method).1
  have X0 : Stand p l e ({ frames := 0, cells := 0, slots := 0, locals := 0 } : Room) s m #[(.long qu), (.long qv)] below meth c s₁ [] 0 0 := Stand.of_body Bd
  have e0 : s₁.heap = h0 := by rw [← hh, Bd.state]; rfl
  have N0 := Fr.nil n0
  have pre0 : ∀ t, Steps p.tables e below (s₁.setTop (mkF m 0 #[.val (.long qu), .second, .val (.long qv), .second] [])) t → Steps p.tables e below (s₁.setTop (entryFrame m #[(.long qu), (.long qv)] 4)) t := fun t k => castTop (efP m qu qv) k
  have cn1 : ∀ t, Steps p.tables e below (s₁.setTop (mkF m 3 #[.val (.long qu), .second, .val (.long qv), .second] [(.int (XT.cmpL qu qv))])) t → Steps p.tables e below (s₁.setTop (entryFrame m #[(.long qu), (.long qv)] 4)) t := by
    intro t k
    refine pre0 t ?_
    refine o_lloadN X0.here hx (hb hby dP_0) rfl ?_
    refine o_lloadN X0.here hx (hb hby dP_1) rfl ?_
    refine o_lcmp X0.here hx (hb hby dP_2) ?_
    exact k
  by_cases h3_2 : qu < qv
  · -- pc 3 not taken
    have cn3 : ∀ t, Steps p.tables e below (s₁.setTop (mkF m 21 #[.val (.long qu), .second, .val (.long qv), .second] [(.int (-1 : Int32))])) t → Steps p.tables e below (s₁.setTop (entryFrame m #[(.long qu), (.long qv)] 4)) t := by
      intro t k
      refine cn1 t ?_
      refine o_ifNo X0.here hx (hb hby dP_3) (XT.ll_ge_f h3_2) ?_
      refine o_iconstV X0.here hx (-1 : Int32) (hb hby dP_6) rfl ?_
      show Steps p.tables e below (s₁.setTop (mkF m 7 #[.val (.long qu), .second, .val (.long qv), .second] [(.int (-1 : Int32))])) _
      refine o_goto X0.here hx (pc' := 21) (hb hby dP_7) (by decide) (by decide) ?_
      exact k
    obtain ⟨fs, hr, hrun, hended, hW, hsame⟩ := X0.leave (v := some (.int (-1 : Int32))) (fun h => by rw [Bd.returns] at h; cases h)
    refine ⟨_, _, cn3 _ ?_, hrun, hended, _, _, rfl, ?_, ⟨_, rfl⟩, hW, hsame.mono (by decide) (by decide)⟩
    · exact retI X0 hx Bd.returns (hb hby dP_21) hr
    · show QP Z qu qv h0 n0 _ s₁.heap _
      rw [e0]
      exact ⟨(by simp [own_cmp, h3_2]), N0, rfl⟩
  · -- pc 3 taken
    have cn4 : ∀ t, Steps p.tables e below (s₁.setTop (mkF m 13 #[.val (.long qu), .second, .val (.long qv), .second] [(.int (XT.cmpL qu qv))])) t → Steps p.tables e below (s₁.setTop (entryFrame m #[(.long qu), (.long qv)] 4)) t := by
      intro t k
      refine cn1 t ?_
      refine o_ifYes X0.here hx (pc' := 10) (hb hby dP_3) (XT.ll_ge_t h3_2) (by decide) (by decide) ?_
      refine o_lloadN X0.here hx (hb hby dP_10) rfl ?_
      refine o_lloadN X0.here hx (hb hby dP_11) rfl ?_
      refine o_lcmp X0.here hx (hb hby dP_12) ?_
      exact k
    by_cases h13_5 : qu = qv
    · -- pc 13 not taken
      have cn6 : ∀ t, Steps p.tables e below (s₁.setTop (mkF m 21 #[.val (.long qu), .second, .val (.long qv), .second] [(.int (0 : Int32))])) t → Steps p.tables e below (s₁.setTop (entryFrame m #[(.long qu), (.long qv)] 4)) t := by
        intro t k
        refine cn4 t ?_
        refine o_ifNo X0.here hx (hb hby dP_13) (XT.ll_ne_f h13_5) ?_
        refine o_iconstV X0.here hx (0 : Int32) (hb hby dP_16) rfl ?_
        show Steps p.tables e below (s₁.setTop (mkF m 17 #[.val (.long qu), .second, .val (.long qv), .second] [(.int (0 : Int32))])) _
        refine o_goto X0.here hx (pc' := 21) (hb hby dP_17) (by decide) (by decide) ?_
        exact k
      obtain ⟨fs, hr, hrun, hended, hW, hsame⟩ := X0.leave (v := some (.int (0 : Int32))) (fun h => by rw [Bd.returns] at h; cases h)
      refine ⟨_, _, cn6 _ ?_, hrun, hended, _, _, rfl, ?_, ⟨_, rfl⟩, hW, hsame.mono (by decide) (by decide)⟩
      · exact retI X0 hx Bd.returns (hb hby dP_21) hr
      · show QP Z qu qv h0 n0 _ s₁.heap _
        rw [e0]
        exact ⟨(by have q := h13_5; subst q; simp [own_cmp]), N0, rfl⟩
    · -- pc 13 taken
      have cn7 : ∀ t, Steps p.tables e below (s₁.setTop (mkF m 21 #[.val (.long qu), .second, .val (.long qv), .second] [(.int (1 : Int32))])) t → Steps p.tables e below (s₁.setTop (entryFrame m #[(.long qu), (.long qv)] 4)) t := by
        intro t k
        refine cn4 t ?_
        refine o_ifYes X0.here hx (pc' := 20) (hb hby dP_13) (XT.ll_ne_t h13_5) (by decide) (by decide) ?_
        refine o_iconstV X0.here hx (1 : Int32) (hb hby dP_20) rfl ?_
        exact k
      obtain ⟨fs, hr, hrun, hended, hW, hsame⟩ := X0.leave (v := some (.int (1 : Int32))) (fun h => by rw [Bd.returns] at h; cases h)
      refine ⟨_, _, cn7 _ ?_, hrun, hended, _, _, rfl, ?_, ⟨_, rfl⟩, hW, hsame.mono (by decide) (by decide)⟩
      · exact retI X0 hx Bd.returns (hb hby dP_21) hr
      · show QP Z qu qv h0 n0 _ s₁.heap _
        rw [e0]
        exact ⟨(by simp [own_cmp, h3_2, own_gt h3_2 h13_5]), N0, rfl⟩

theorem dG_0 : decode jdk_35_method_57_code 0 = .ok (.lload_n 0, 1) := by decide +kernel
theorem dG_1 : decode jdk_35_method_57_code 1 = .ok (.bipush 63, 2) := by decide +kernel
theorem dG_3 : decode jdk_35_method_57_code 3 = .ok (.lshr, 1) := by decide +kernel
theorem dG_4 : decode jdk_35_method_57_code 4 = .ok (.lload_n 0, 1) := by decide +kernel
theorem dG_5 : decode jdk_35_method_57_code 5 = .ok (.lneg, 1) := by decide +kernel
theorem dG_6 : decode jdk_35_method_57_code 6 = .ok (.bipush 63, 2) := by decide +kernel
theorem dG_8 : decode jdk_35_method_57_code 8 = .ok (.lushr, 1) := by decide +kernel
theorem dG_9 : decode jdk_35_method_57_code 9 = .ok (.lor, 1) := by decide +kernel
theorem dG_10 : decode jdk_35_method_57_code 10 = .ok (.l2i, 1) := by decide +kernel
theorem dG_11 : decode jdk_35_method_57_code 11 = .ok (.ireturn, 1) := by decide +kernel
theorem efG (m : MethodId) (x0 : Int64) : entryFrame m #[(.long x0)] 2 = (mkF m 0 #[.val (.long x0), .second] []) := by first | (simp [entryFrame, mkF, argsToLocals, Value.category]; done) | rfl
def QG (Z : State) (qu : Int64) (h0 : Heap) (n0 : Nat) (v : Option Value) (h : Heap) (L : List Loc) : Prop := v = some (.int (own_sign qu)) ∧ Fr n0 L ∧ h = h0
set_option maxRecDepth 65536 in
set_option maxHeartbeats 40000000 in
theorem rmG (l : Launch) (Z : State) (a0 : Array Value) (hw : ∀ d ∈ tables_1, d.before a0 Z = true) (ws : List Jvm.Cond) (qu : Int64) (h0 : Heap) (n0 : Nat) (Z0 : n0 ≤ h0.size) :
    MetFree l (⟨"java/lang/Long", "signum", "(J)I"⟩ : MethodName) (head1 (Jvm.Cond.code (⟨"java/lang/Long", "signum", "(J)I"⟩ : MethodName) jdk_35_method_57_code 2 (some .int) :: ws) ({ frames := 0, cells := 0, slots := 0, locals := 0 } : Room)) (fun a U => a = #[(.long qu)] ∧ Z.Warmed39 U.vm ∧ U.heap = h0) (fun _ _ _ _ _ => True) (fun _ U o U' => ∃ v L, o = .returned v ∧ QG Z qu h0 n0 v U'.heap L ∧ FrameEnd U o U' L ({ frames := 0, cells := 0, slots := 0, locals := 0 } : Room).cells ({ frames := 0, cells := 0, slots := 0, locals := 0 } : Room).slots) := by
  refine MetFree.of_bodySF (plainFor_of_name pn_java_lang_Long) hisR ?_
  intro p e s m args below meth c s₁ Bd hml0 hP hK
  obtain ⟨rfl, hZ, hh⟩ := hP
  have hx := Bd.exec
  have hby := Bd.bytes
  have hml : c.maxLocals = 2 := hml0
  have hown : s.vm.findClass "java/lang/Long" = some m.cls := findClass_of_methodNamed Bd.named
  have hnm := (name_of_methodNamed Bd.named Bd.method).1
  have X0 : Stand p l e ({ frames := 0, cells := 0, slots := 0, locals := 0 } : Room) s m #[(.long qu)] below meth c s₁ [] 0 0 := Stand.of_body Bd
  have e0 : s₁.heap = h0 := by rw [← hh, Bd.state]; rfl
  have N0 := Fr.nil n0
  have pre0 : ∀ t, Steps p.tables e below (s₁.setTop (mkF m 0 #[.val (.long qu), .second] [])) t → Steps p.tables e below (s₁.setTop (entryFrame m #[(.long qu)] 2)) t := fun t k => castTop (efG m qu) k
  have cn1 : ∀ t, Steps p.tables e below (s₁.setTop (mkF m 11 #[.val (.long qu), .second] [(.int (((qu >>> ((63 : Int32).toInt64 &&& 63)) ||| (XT.ushrL (-qu) (63 : Int32))).toInt32))])) t → Steps p.tables e below (s₁.setTop (entryFrame m #[(.long qu)] 2)) t := by
    intro t k
    refine pre0 t ?_
    refine o_lloadN X0.here hx (hb hby dG_0) rfl ?_
    refine o_bipushV X0.here hx (63 : Int32) (hb hby dG_1) rfl ?_
    refine o_lshr X0.here hx (hb hby dG_3) ?_
    refine o_lloadN X0.here hx (hb hby dG_4) rfl ?_
    refine o_lneg X0.here hx (hb hby dG_5) ?_
    refine o_bipushV X0.here hx (63 : Int32) (hb hby dG_6) rfl ?_
    refine o_lushr X0.here hx (hb hby dG_8) ?_
    refine o_lor X0.here hx (hb hby dG_9) ?_
    refine o_l2i X0.here hx (hb hby dG_10) ?_
    exact k
  obtain ⟨fs, hr, hrun, hended, hW, hsame⟩ := X0.leave (v := some (.int (((qu >>> ((63 : Int32).toInt64 &&& 63)) ||| (XT.ushrL (-qu) (63 : Int32))).toInt32))) (fun h => by rw [Bd.returns] at h; cases h)
  refine ⟨_, _, cn1 _ ?_, hrun, hended, _, _, rfl, ?_, ⟨_, rfl⟩, hW, hsame.mono (by decide) (by decide)⟩
  · exact retI X0 hx Bd.returns (hb hby dG_11) hr
  · show QG Z qu h0 n0 _ s₁.heap _
    rw [e0]
    exact ⟨(by rw [own_signum]), N0, rfl⟩

theorem dH_0 : decode jdk_29_method_45_code 0 = .ok (.lload_n 0, 1) := by decide +kernel
theorem dH_1 : decode jdk_29_method_45_code 1 = .ok (.bipush 32, 2) := by decide +kernel
theorem dH_3 : decode jdk_29_method_45_code 3 = .ok (.lshr, 1) := by decide +kernel
theorem dH_4 : decode jdk_29_method_45_code 4 = .ok (.lstore 4, 2) := by decide +kernel
theorem dH_6 : decode jdk_29_method_45_code 6 = .ok (.lload_n 0, 1) := by decide +kernel
theorem dH_7 : decode jdk_29_method_45_code 7 = .ok (.ldc2_w 138, 3) := by decide +kernel
theorem dH_10 : decode jdk_29_method_45_code 10 = .ok (.land, 1) := by decide +kernel
theorem dH_11 : decode jdk_29_method_45_code 11 = .ok (.lstore 6, 2) := by decide +kernel
theorem dH_13 : decode jdk_29_method_45_code 13 = .ok (.lload_n 2, 1) := by decide +kernel
theorem dH_14 : decode jdk_29_method_45_code 14 = .ok (.bipush 32, 2) := by decide +kernel
theorem dH_16 : decode jdk_29_method_45_code 16 = .ok (.lshr, 1) := by decide +kernel
theorem dH_17 : decode jdk_29_method_45_code 17 = .ok (.lstore 8, 2) := by decide +kernel
theorem dH_19 : decode jdk_29_method_45_code 19 = .ok (.lload_n 2, 1) := by decide +kernel
theorem dH_20 : decode jdk_29_method_45_code 20 = .ok (.ldc2_w 138, 3) := by decide +kernel
theorem dH_23 : decode jdk_29_method_45_code 23 = .ok (.land, 1) := by decide +kernel
theorem dH_24 : decode jdk_29_method_45_code 24 = .ok (.lstore 10, 2) := by decide +kernel
theorem dH_26 : decode jdk_29_method_45_code 26 = .ok (.lload 6, 2) := by decide +kernel
theorem dH_28 : decode jdk_29_method_45_code 28 = .ok (.lload 10, 2) := by decide +kernel
theorem dH_30 : decode jdk_29_method_45_code 30 = .ok (.lmul, 1) := by decide +kernel
theorem dH_31 : decode jdk_29_method_45_code 31 = .ok (.lstore 12, 2) := by decide +kernel
theorem dH_33 : decode jdk_29_method_45_code 33 = .ok (.lload 4, 2) := by decide +kernel
theorem dH_35 : decode jdk_29_method_45_code 35 = .ok (.lload 10, 2) := by decide +kernel
theorem dH_37 : decode jdk_29_method_45_code 37 = .ok (.lmul, 1) := by decide +kernel
theorem dH_38 : decode jdk_29_method_45_code 38 = .ok (.lload 12, 2) := by decide +kernel
theorem dH_40 : decode jdk_29_method_45_code 40 = .ok (.bipush 32, 2) := by decide +kernel
theorem dH_42 : decode jdk_29_method_45_code 42 = .ok (.lushr, 1) := by decide +kernel
theorem dH_43 : decode jdk_29_method_45_code 43 = .ok (.ladd, 1) := by decide +kernel
theorem dH_44 : decode jdk_29_method_45_code 44 = .ok (.lstore 14, 2) := by decide +kernel
theorem dH_46 : decode jdk_29_method_45_code 46 = .ok (.lload 14, 2) := by decide +kernel
theorem dH_48 : decode jdk_29_method_45_code 48 = .ok (.ldc2_w 138, 3) := by decide +kernel
theorem dH_51 : decode jdk_29_method_45_code 51 = .ok (.land, 1) := by decide +kernel
theorem dH_52 : decode jdk_29_method_45_code 52 = .ok (.lstore 16, 2) := by decide +kernel
theorem dH_54 : decode jdk_29_method_45_code 54 = .ok (.lload 14, 2) := by decide +kernel
theorem dH_56 : decode jdk_29_method_45_code 56 = .ok (.bipush 32, 2) := by decide +kernel
theorem dH_58 : decode jdk_29_method_45_code 58 = .ok (.lshr, 1) := by decide +kernel
theorem dH_59 : decode jdk_29_method_45_code 59 = .ok (.lstore 18, 2) := by decide +kernel
theorem dH_61 : decode jdk_29_method_45_code 61 = .ok (.lload 16, 2) := by decide +kernel
theorem dH_63 : decode jdk_29_method_45_code 63 = .ok (.lload 6, 2) := by decide +kernel
theorem dH_65 : decode jdk_29_method_45_code 65 = .ok (.lload 8, 2) := by decide +kernel
theorem dH_67 : decode jdk_29_method_45_code 67 = .ok (.lmul, 1) := by decide +kernel
theorem dH_68 : decode jdk_29_method_45_code 68 = .ok (.ladd, 1) := by decide +kernel
theorem dH_69 : decode jdk_29_method_45_code 69 = .ok (.lstore 16, 2) := by decide +kernel
theorem dH_71 : decode jdk_29_method_45_code 71 = .ok (.lload 4, 2) := by decide +kernel
theorem dH_73 : decode jdk_29_method_45_code 73 = .ok (.lload 8, 2) := by decide +kernel
theorem dH_75 : decode jdk_29_method_45_code 75 = .ok (.lmul, 1) := by decide +kernel
theorem dH_76 : decode jdk_29_method_45_code 76 = .ok (.lload 18, 2) := by decide +kernel
theorem dH_78 : decode jdk_29_method_45_code 78 = .ok (.ladd, 1) := by decide +kernel
theorem dH_79 : decode jdk_29_method_45_code 79 = .ok (.lload 16, 2) := by decide +kernel
theorem dH_81 : decode jdk_29_method_45_code 81 = .ok (.bipush 32, 2) := by decide +kernel
theorem dH_83 : decode jdk_29_method_45_code 83 = .ok (.lshr, 1) := by decide +kernel
theorem dH_84 : decode jdk_29_method_45_code 84 = .ok (.ladd, 1) := by decide +kernel
theorem dH_85 : decode jdk_29_method_45_code 85 = .ok (.lreturn, 1) := by decide +kernel
theorem efH (m : MethodId) (x0 : Int64) (x1 : Int64) : entryFrame m #[(.long x0), (.long x1)] 20 = (mkF m 0 #[.val (.long x0), .second, .val (.long x1), .second, .unset, .unset, .unset, .unset, .unset, .unset, .unset, .unset, .unset, .unset, .unset, .unset, .unset, .unset, .unset, .unset] []) := by first | (simp [entryFrame, mkF, argsToLocals, Value.category]; done) | rfl
def QH (Z : State) (qx : Int64) (qy : Int64) (h0 : Heap) (n0 : Nat) (v : Option Value) (h : Heap) (L : List Loc) : Prop := v = some (.long (own_mh qx qy)) ∧ Fr n0 L ∧ h = h0
set_option maxRecDepth 65536 in
set_option maxHeartbeats 40000000 in
theorem rmH (l : Launch) (Z : State) (a0 : Array Value) (hw : ∀ d ∈ tables_1, d.before a0 Z = true) (ws : List Jvm.Cond) (qx : Int64) (qy : Int64) (h0 : Heap) (n0 : Nat) (Z0 : n0 ≤ h0.size) :
    MetFree l (⟨"java/lang/Math", "multiplyHigh", "(JJ)J"⟩ : MethodName) (head1 (Jvm.Cond.code (⟨"java/lang/Math", "multiplyHigh", "(JJ)J"⟩ : MethodName) jdk_29_method_45_code 20 (some .long) :: ws) ({ frames := 0, cells := 0, slots := 0, locals := 0 } : Room)) (fun a U => a = #[(.long qx), (.long qy)] ∧ Z.Warmed39 U.vm ∧ U.heap = h0) (fun _ _ _ _ _ => True) (fun _ U o U' => ∃ v L, o = .returned v ∧ QH Z qx qy h0 n0 v U'.heap L ∧ FrameEnd U o U' L ({ frames := 0, cells := 0, slots := 0, locals := 0 } : Room).cells ({ frames := 0, cells := 0, slots := 0, locals := 0 } : Room).slots) := by
  refine MetFree.of_bodySF (by decide +kernel) hisR ?_
  intro p e s m args below meth c s₁ Bd hml0 hP hK
  obtain ⟨rfl, hZ, hh⟩ := hP
  have hx := Bd.exec
  have hby := Bd.bytes
  have hml : c.maxLocals = 20 := hml0
  have hown : s.vm.findClass "java/lang/Math" = some m.cls := findClass_of_methodNamed Bd.named
  have hnm := (name_of_methodNamed Bd.named Bd.method).1
  have X0 : Stand p l e ({ frames := 0, cells := 0, slots := 0, locals := 0 } : Room) s m #[(.long qx), (.long qy)] below meth c s₁ [] 0 0 := Stand.of_body Bd
  have e0 : s₁.heap = h0 := by rw [← hh, Bd.state]; rfl
  have N0 := Fr.nil n0
  have pre0 : ∀ t, Steps p.tables e below (s₁.setTop (mkF m 0 #[.val (.long qx), .second, .val (.long qy), .second, .unset, .unset, .unset, .unset, .unset, .unset, .unset, .unset, .unset, .unset, .unset, .unset, .unset, .unset, .unset, .unset] [])) t → Steps p.tables e below (s₁.setTop (entryFrame m #[(.long qx), (.long qy)] 20)) t := fun t k => castTop (efH m qx qy) k
  obtain ⟨x1, h_x1⟩ : ∃ z : Int64, z = qx >>> ((32 : Int32).toInt64 &&& 63) := ⟨_, rfl⟩
  obtain ⟨x2, h_x2⟩ : ∃ z : Int64, z = qx &&& (4294967295 : Int64) := ⟨_, rfl⟩
  obtain ⟨y1, h_y1⟩ : ∃ z : Int64, z = qy >>> ((32 : Int32).toInt64 &&& 63) := ⟨_, rfl⟩
  obtain ⟨y2, h_y2⟩ : ∃ z : Int64, z = qy &&& (4294967295 : Int64) := ⟨_, rfl⟩
  obtain ⟨z2, h_z2⟩ : ∃ z : Int64, z = x2 * y2 := ⟨_, rfl⟩
  obtain ⟨t1, h_t1⟩ : ∃ z : Int64, z = (x1 * y2) + (XT.ushrL z2 (32 : Int32)) := ⟨_, rfl⟩
  obtain ⟨z1, h_z1⟩ : ∃ z : Int64, z = t1 &&& (4294967295 : Int64) := ⟨_, rfl⟩
  obtain ⟨z0, h_z0⟩ : ∃ z : Int64, z = t1 >>> ((32 : Int32).toInt64 &&& 63) := ⟨_, rfl⟩
  obtain ⟨z3, h_z3⟩ : ∃ z : Int64, z = z1 + (x2 * y1) := ⟨_, rfl⟩
  have cn1 : ∀ t, Steps p.tables e below (s₁.setTop (mkF m 85 #[.val (.long qx), .second, .val (.long qy), .second, .val (.long x1), .second, .val (.long x2), .second, .val (.long y1), .second, .val (.long y2), .second, .val (.long z2), .second, .val (.long t1), .second, .val (.long z3), .second, .val (.long z0), .second] [(.long (((x1 * y1) + z0) + (z3 >>> ((32 : Int32).toInt64 &&& 63))))])) t → Steps p.tables e below (s₁.setTop (entryFrame m #[(.long qx), (.long qy)] 20)) t := by
    intro t k
    refine pre0 t ?_
    refine o_lloadN X0.here hx (hb hby dH_0) rfl ?_
    refine o_bipushV X0.here hx (32 : Int32) (hb hby dH_1) rfl ?_
    refine o_lshr X0.here hx (hb hby dH_3) ?_
    rw [← h_x1]
    refine o_lstore X0.here hx (hb hby dH_4) (l' := #[.val (.long qx), .second, .val (.long qy), .second, .val (.long x1), .second, .unset, .unset, .unset, .unset, .unset, .unset, .unset, .unset, .unset, .unset, .unset, .unset, .unset, .unset]) rfl ?_
    refine o_lloadN X0.here hx (hb hby dH_6) rfl ?_
    refine X0.ldc2J hx hown (mvT hZ (hw _ (List.mem_of_getElem? (i := 69) rfl))) rfl (hb hby dH_7) ?_
    show Steps p.tables e below (s₁.setTop (mkF m 10 #[.val (.long qx), .second, .val (.long qy), .second, .val (.long x1), .second, .unset, .unset, .unset, .unset, .unset, .unset, .unset, .unset, .unset, .unset, .unset, .unset, .unset, .unset] [(.long (4294967295 : Int64)), (.long qx)])) _
    refine o_land X0.here hx (hb hby dH_10) ?_
    rw [← h_x2]
    refine o_lstore X0.here hx (hb hby dH_11) (l' := #[.val (.long qx), .second, .val (.long qy), .second, .val (.long x1), .second, .val (.long x2), .second, .unset, .unset, .unset, .unset, .unset, .unset, .unset, .unset, .unset, .unset, .unset, .unset]) rfl ?_
    refine o_lloadN X0.here hx (hb hby dH_13) rfl ?_
    refine o_bipushV X0.here hx (32 : Int32) (hb hby dH_14) rfl ?_
    refine o_lshr X0.here hx (hb hby dH_16) ?_
    rw [← h_y1]
    refine o_lstore X0.here hx (hb hby dH_17) (l' := #[.val (.long qx), .second, .val (.long qy), .second, .val (.long x1), .second, .val (.long x2), .second, .val (.long y1), .second, .unset, .unset, .unset, .unset, .unset, .unset, .unset, .unset, .unset, .unset]) rfl ?_
    refine o_lloadN X0.here hx (hb hby dH_19) rfl ?_
    refine X0.ldc2J hx hown (mvT hZ (hw _ (List.mem_of_getElem? (i := 69) rfl))) rfl (hb hby dH_20) ?_
    show Steps p.tables e below (s₁.setTop (mkF m 23 #[.val (.long qx), .second, .val (.long qy), .second, .val (.long x1), .second, .val (.long x2), .second, .val (.long y1), .second, .unset, .unset, .unset, .unset, .unset, .unset, .unset, .unset, .unset, .unset] [(.long (4294967295 : Int64)), (.long qy)])) _
    refine o_land X0.here hx (hb hby dH_23) ?_
    rw [← h_y2]
    refine o_lstore X0.here hx (hb hby dH_24) (l' := #[.val (.long qx), .second, .val (.long qy), .second, .val (.long x1), .second, .val (.long x2), .second, .val (.long y1), .second, .val (.long y2), .second, .unset, .unset, .unset, .unset, .unset, .unset, .unset, .unset]) rfl ?_
    refine o_lload X0.here hx (hb hby dH_26) rfl ?_
    refine o_lload X0.here hx (hb hby dH_28) rfl ?_
    refine o_lmul X0.here hx (hb hby dH_30) ?_
    rw [← h_z2]
    refine o_lstore X0.here hx (hb hby dH_31) (l' := #[.val (.long qx), .second, .val (.long qy), .second, .val (.long x1), .second, .val (.long x2), .second, .val (.long y1), .second, .val (.long y2), .second, .val (.long z2), .second, .unset, .unset, .unset, .unset, .unset, .unset]) rfl ?_
    refine o_lload X0.here hx (hb hby dH_33) rfl ?_
    refine o_lload X0.here hx (hb hby dH_35) rfl ?_
    refine o_lmul X0.here hx (hb hby dH_37) ?_
    refine o_lload X0.here hx (hb hby dH_38) rfl ?_
    refine o_bipushV X0.here hx (32 : Int32) (hb hby dH_40) rfl ?_
    refine o_lushr X0.here hx (hb hby dH_42) ?_
    refine o_ladd X0.here hx (hb hby dH_43) ?_
    rw [← h_t1]
    refine o_lstore X0.here hx (hb hby dH_44) (l' := #[.val (.long qx), .second, .val (.long qy), .second, .val (.long x1), .second, .val (.long x2), .second, .val (.long y1), .second, .val (.long y2), .second, .val (.long z2), .second, .val (.long t1), .second, .unset, .unset, .unset, .unset]) rfl ?_
    refine o_lload X0.here hx (hb hby dH_46) rfl ?_
    refine X0.ldc2J hx hown (mvT hZ (hw _ (List.mem_of_getElem? (i := 69) rfl))) rfl (hb hby dH_48) ?_
    show Steps p.tables e below (s₁.setTop (mkF m 51 #[.val (.long qx), .second, .val (.long qy), .second, .val (.long x1), .second, .val (.long x2), .second, .val (.long y1), .second, .val (.long y2), .second, .val (.long z2), .second, .val (.long t1), .second, .unset, .unset, .unset, .unset] [(.long (4294967295 : Int64)), (.long t1)])) _
    refine o_land X0.here hx (hb hby dH_51) ?_
    rw [← h_z1]
    refine o_lstore X0.here hx (hb hby dH_52) (l' := #[.val (.long qx), .second, .val (.long qy), .second, .val (.long x1), .second, .val (.long x2), .second, .val (.long y1), .second, .val (.long y2), .second, .val (.long z2), .second, .val (.long t1), .second, .val (.long z1), .second, .unset, .unset]) rfl ?_
    refine o_lload X0.here hx (hb hby dH_54) rfl ?_
    refine o_bipushV X0.here hx (32 : Int32) (hb hby dH_56) rfl ?_
    refine o_lshr X0.here hx (hb hby dH_58) ?_
    rw [← h_z0]
    refine o_lstore X0.here hx (hb hby dH_59) (l' := #[.val (.long qx), .second, .val (.long qy), .second, .val (.long x1), .second, .val (.long x2), .second, .val (.long y1), .second, .val (.long y2), .second, .val (.long z2), .second, .val (.long t1), .second, .val (.long z1), .second, .val (.long z0), .second]) rfl ?_
    refine o_lload X0.here hx (hb hby dH_61) rfl ?_
    refine o_lload X0.here hx (hb hby dH_63) rfl ?_
    refine o_lload X0.here hx (hb hby dH_65) rfl ?_
    refine o_lmul X0.here hx (hb hby dH_67) ?_
    refine o_ladd X0.here hx (hb hby dH_68) ?_
    rw [← h_z3]
    refine o_lstore X0.here hx (hb hby dH_69) (l' := #[.val (.long qx), .second, .val (.long qy), .second, .val (.long x1), .second, .val (.long x2), .second, .val (.long y1), .second, .val (.long y2), .second, .val (.long z2), .second, .val (.long t1), .second, .val (.long z3), .second, .val (.long z0), .second]) rfl ?_
    refine o_lload X0.here hx (hb hby dH_71) rfl ?_
    refine o_lload X0.here hx (hb hby dH_73) rfl ?_
    refine o_lmul X0.here hx (hb hby dH_75) ?_
    refine o_lload X0.here hx (hb hby dH_76) rfl ?_
    refine o_ladd X0.here hx (hb hby dH_78) ?_
    refine o_lload X0.here hx (hb hby dH_79) rfl ?_
    refine o_bipushV X0.here hx (32 : Int32) (hb hby dH_81) rfl ?_
    refine o_lshr X0.here hx (hb hby dH_83) ?_
    refine o_ladd X0.here hx (hb hby dH_84) ?_
    exact k
  obtain ⟨fs, hr, hrun, hended, hW, hsame⟩ := X0.leave (v := some (.long (((x1 * y1) + z0) + (z3 >>> ((32 : Int32).toInt64 &&& 63))))) (fun h => by rw [Bd.returns] at h; cases h)
  refine ⟨_, _, cn1 _ ?_, hrun, hended, _, _, rfl, ?_, ⟨_, rfl⟩, hW, hsame.mono (by decide) (by decide)⟩
  · exact retOut X0 hx Bd.returns rfl (Or.inr (Or.inl ⟨rfl, rfl, _, rfl⟩)) (hb hby dH_85) hr
  · show QH Z qx qy h0 n0 _ s₁.heap _
    rw [e0]
    exact ⟨(by subst h_z3 h_z0 h_z1 h_t1 h_z2 h_y2 h_y1 h_x2 h_x1; rfl), N0, rfl⟩

theorem dR_0 : decode prog_24_method_13_code 0 = .ok (.lload_n 0, 1) := by decide +kernel
theorem dR_1 : decode prog_24_method_13_code 1 = .ok (.lconst 0, 1) := by decide +kernel
theorem dR_2 : decode prog_24_method_13_code 2 = .ok (.lcmp, 1) := by decide +kernel
theorem dR_3 : decode prog_24_method_13_code 3 = .ok (.ifCond .ne 10, 3) := by decide +kernel
theorem dR_6 : decode prog_24_method_13_code 6 = .ok (.lload 4, 2) := by decide +kernel
theorem dR_8 : decode prog_24_method_13_code 8 = .ok (.invokestatic 64, 3) := by decide +kernel
theorem dR_11 : decode prog_24_method_13_code 11 = .ok (.ineg, 1) := by decide +kernel
theorem dR_12 : decode prog_24_method_13_code 12 = .ok (.ireturn, 1) := by decide +kernel
theorem dR_13 : decode prog_24_method_13_code 13 = .ok (.lload_n 2, 1) := by decide +kernel
theorem dR_14 : decode prog_24_method_13_code 14 = .ok (.getstatic 105, 3) := by decide +kernel
theorem dR_17 : decode prog_24_method_13_code 17 = .ok (.arraylength, 1) := by decide +kernel
theorem dR_18 : decode prog_24_method_13_code 18 = .ok (.i2l, 1) := by decide +kernel
theorem dR_19 : decode prog_24_method_13_code 19 = .ok (.lcmp, 1) := by decide +kernel
theorem dR_20 : decode prog_24_method_13_code 20 = .ok (.ifCond .lt 8, 3) := by decide +kernel
theorem dR_28 : decode prog_24_method_13_code 28 = .ok (.lload_n 0, 1) := by decide +kernel
theorem dR_29 : decode prog_24_method_13_code 29 = .ok (.getstatic 105, 3) := by decide +kernel
theorem dR_32 : decode prog_24_method_13_code 32 = .ok (.lload_n 2, 1) := by decide +kernel
theorem dR_33 : decode prog_24_method_13_code 33 = .ok (.l2i, 1) := by decide +kernel
theorem dR_34 : decode prog_24_method_13_code 34 = .ok (.laload, 1) := by decide +kernel
theorem dR_35 : decode prog_24_method_13_code 35 = .ok (.lmul, 1) := by decide +kernel
theorem dR_36 : decode prog_24_method_13_code 36 = .ok (.lstore 6, 2) := by decide +kernel
theorem dR_38 : decode prog_24_method_13_code 38 = .ok (.lload_n 0, 1) := by decide +kernel
theorem dR_39 : decode prog_24_method_13_code 39 = .ok (.getstatic 105, 3) := by decide +kernel
theorem dR_42 : decode prog_24_method_13_code 42 = .ok (.lload_n 2, 1) := by decide +kernel
theorem dR_43 : decode prog_24_method_13_code 43 = .ok (.l2i, 1) := by decide +kernel
theorem dR_44 : decode prog_24_method_13_code 44 = .ok (.laload, 1) := by decide +kernel
theorem dR_45 : decode prog_24_method_13_code 45 = .ok (.invokestatic 85, 3) := by decide +kernel
theorem dR_48 : decode prog_24_method_13_code 48 = .ok (.lload 6, 2) := by decide +kernel
theorem dR_50 : decode prog_24_method_13_code 50 = .ok (.bipush 63, 2) := by decide +kernel
theorem dR_52 : decode prog_24_method_13_code 52 = .ok (.lshr, 1) := by decide +kernel
theorem dR_53 : decode prog_24_method_13_code 53 = .ok (.lcmp, 1) := by decide +kernel
theorem dR_54 : decode prog_24_method_13_code 54 = .ok (.ifCond .eq 8, 3) := by decide +kernel
theorem dR_57 : decode prog_24_method_13_code 57 = .ok (.lload_n 0, 1) := by decide +kernel
theorem dR_58 : decode prog_24_method_13_code 58 = .ok (.invokestatic 64, 3) := by decide +kernel
theorem dR_61 : decode prog_24_method_13_code 61 = .ok (.ireturn, 1) := by decide +kernel
theorem dR_62 : decode prog_24_method_13_code 62 = .ok (.lload 6, 2) := by decide +kernel
theorem dR_64 : decode prog_24_method_13_code 64 = .ok (.lload 4, 2) := by decide +kernel
theorem dR_66 : decode prog_24_method_13_code 66 = .ok (.invokestatic 98, 3) := by decide +kernel
theorem dR_69 : decode prog_24_method_13_code 69 = .ok (.ireturn, 1) := by decide +kernel
theorem pd_oJcI : parseMethodDescriptor "(J)I" = some ⟨[.long], some .int⟩ := by decide +kernel
theorem pd_oJJcJ : parseMethodDescriptor "(JJ)J" = some ⟨[.long, .long], some .long⟩ := by decide +kernel
theorem pd_oJJcI : parseMethodDescriptor "(JJ)I" = some ⟨[.long, .long], some .int⟩ := by decide +kernel
theorem efR (m : MethodId) (x0 : Int64) (x1 : Int64) (x2 : Int64) : entryFrame m #[(.long x0), (.long x1), (.long x2)] 8 = (mkF m 0 #[.val (.long x0), .second, .val (.long x1), .second, .val (.long x2), .second, .unset, .unset] []) := by first | (simp [entryFrame, mkF, argsToLocals, Value.category]; done) | rfl
def QR (Z : State) (qa : Int64) (qb : Int64) (pa : Addr) (pk : ClassId) (h0 : Heap) (n0 : Nat) (v : Option Value) (h : Heap) (L : List Loc) : Prop := v = some (.int (own_raised qa qb)) ∧ Fr n0 L ∧ h = h0
set_option maxRecDepth 65536 in
set_option maxHeartbeats 40000000 in
theorem rmR (l : Launch) (Z : State) (a0 : Array Value) (hw : ∀ d ∈ tables_1, d.before a0 Z = true) (ws : List Jvm.Cond) (qa : Int64) (qb : Int64) (pa : Addr) (pk : ClassId) (h0 : Heap) (n0 : Nat) (Z0 : n0 ≤ h0.size) (pr0 : Sta Z h0 "com/example/lintel/lintel/Figure" "POWERS_OF_TEN" "[J" (.ref pa)) (pr1 : Arv Z h0 pa pk .long (19 : Int32) [(.long (1 : Int64)), (.long (10 : Int64)), (.long (100 : Int64)), (.long (1000 : Int64)), (.long (10000 : Int64)), (.long (100000 : Int64)), (.long (1000000 : Int64)), (.long (10000000 : Int64)), (.long (100000000 : Int64)), (.long (1000000000 : Int64)), (.long (10000000000 : Int64)), (.long (100000000000 : Int64)), (.long (1000000000000 : Int64)), (.long (10000000000000 : Int64)), (.long (100000000000000 : Int64)), (.long (1000000000000000 : Int64)), (.long (10000000000000000 : Int64)), (.long (100000000000000000 : Int64)), (.long (1000000000000000000 : Int64))] (.long (0 : Int64))) :
    MetFree l (⟨"com/example/lintel/lintel/Figure", "compareRaised", "(JJJ)I"⟩ : MethodName) (head1 (Jvm.Cond.code (⟨"com/example/lintel/lintel/Figure", "compareRaised", "(JJJ)I"⟩ : MethodName) prog_24_method_13_code 8 (some .int) :: ws) ({ frames := 1, cells := 0, slots := 0, locals := 48 } : Room)) (fun a U => a = #[(.long qa), (.long (1 : Int64)), (.long qb)] ∧ Z.Warmed39 U.vm ∧ U.heap = h0) (fun _ _ _ _ _ => True) (fun _ U o U' => ∃ v L, o = .returned v ∧ QR Z qa qb pa pk h0 n0 v U'.heap L ∧ FrameEnd U o U' L ({ frames := 1, cells := 0, slots := 0, locals := 48 } : Room).cells ({ frames := 1, cells := 0, slots := 0, locals := 48 } : Room).slots) := by
  refine MetFree.of_bodySF (plainFor_of_name pn_com_example_lintel_lintel_Figure) hisR ?_
  intro p e s m args below meth c s₁ Bd hml0 hP hK
  obtain ⟨rfl, hZ, hh⟩ := hP
  have hx := Bd.exec
  have hby := Bd.bytes
  have hml : c.maxLocals = 8 := hml0
  have hown : s.vm.findClass "com/example/lintel/lintel/Figure" = some m.cls := findClass_of_methodNamed Bd.named
  have hnm := (name_of_methodNamed Bd.named Bd.method).1
  have X0 : Stand p l e ({ frames := 1, cells := 0, slots := 0, locals := 48 } : Room) s m #[(.long qa), (.long (1 : Int64)), (.long qb)] below meth c s₁ [] 0 0 := Stand.of_body Bd
  have e0 : s₁.heap = h0 := by rw [← hh, Bd.state]; rfl
  have N0 := Fr.nil n0
  have pre0 : ∀ t, Steps p.tables e below (s₁.setTop (mkF m 0 #[.val (.long qa), .second, .val (.long (1 : Int64)), .second, .val (.long qb), .second, .unset, .unset] [])) t → Steps p.tables e below (s₁.setTop (entryFrame m #[(.long qa), (.long (1 : Int64)), (.long qb)] 8)) t := fun t k => castTop (efR m qa (1 : Int64) qb) k
  have cn1 : ∀ t, Steps p.tables e below (s₁.setTop (mkF m 3 #[.val (.long qa), .second, .val (.long (1 : Int64)), .second, .val (.long qb), .second, .unset, .unset] [(.int (XT.cmpL qa (0 : Int64)))])) t → Steps p.tables e below (s₁.setTop (entryFrame m #[(.long qa), (.long (1 : Int64)), (.long qb)] 8)) t := by
    intro t k
    refine pre0 t ?_
    refine o_lloadN X0.here hx (hb hby dR_0) rfl ?_
    refine o_lconstV X0.here hx (0 : Int64) (hb hby dR_1) rfl ?_
    refine o_lcmp X0.here hx (hb hby dR_2) ?_
    exact k
  by_cases h3_2 : qa = (0 : Int64)
  · -- pc 3 not taken
    have cn3 : ∀ t, Steps p.tables e below (s₁.setTop (mkF m 8 #[.val (.long qa), .second, .val (.long (1 : Int64)), .second, .val (.long qb), .second, .unset, .unset] [(.long qb)])) t → Steps p.tables e below (s₁.setTop (entryFrame m #[(.long qa), (.long (1 : Int64)), (.long qb)] 8)) t := by
      intro t k
      refine cn1 t ?_
      refine o_ifNo X0.here hx (hb hby dR_3) (XT.ll_ne_f h3_2) ?_
      refine o_lload X0.here hx (hb hby dR_6) rfl ?_
      exact k
    obtain ⟨_, _, ⟨T4, L4, c4, n4⟩, -, X4, ⟨Lc4, hQ4, l4, y4, z4⟩, st4⟩ := Jvm.LawKit.callS X0 hx (y := (⟨"java/lang/Long", "signum", "(J)I"⟩ : MethodName)) hown (mvT hZ (hw _ (List.mem_of_getElem? (i := 42) rfl))) (mvT hZ (hw _ (List.mem_of_getElem? (i := 43) rfl))) (mvT hZ (hw _ (List.mem_of_getElem? (i := 44) rfl))) (mvT hZ (hw _ (List.mem_of_getElem? (i := 45) rfl))) (by decide) (backOf (W := 0) (rmG l Z a0 hw [] qb h0 n0 Z0) hZ (hw _ (List.mem_of_getElem? (i := 45) rfl)) (hw _ (List.mem_of_getElem? (i := 44) rfl)) (by decide) (by decide)) (g := (mkF m 8 #[.val (.long qa), .second, .val (.long (1 : Int64)), .second, .val (.long qb), .second, .unset, .unset] [(.long qb)])) rfl (by rw [hml]; rfl) (argsL := [(.long qb)]) (rest := []) (lenOf pd_oJcI rfl) rfl (by show 2 * 0 + _ ≤ _; exact Nat.le_of_eq rfl) (hb hby dR_8) (fun _ _ => ⟨rfl, e0, (by decide : 0 + 0 ≤ _), (by decide : 0 + 0 ≤ _)⟩)
    dsimp only [Pt.U, Pt.locs, Pt.cells, Pt.slots] at X4 l4 y4 z4 st4 hQ4
    subst l4 y4 z4
    obtain ⟨rfl, N4a, eh4⟩ := hQ4
    have N4 := Fr.app N0 N4a
    have e4 : T4.heap = h0 := eh4
    have cn5 : ∀ t, Steps p.tables e below (T4.setTop (mkF m 11 #[.val (.long qa), .second, .val (.long (1 : Int64)), .second, .val (.long qb), .second, .unset, .unset] [(.int (own_sign qb))])) t → Steps p.tables e below (s₁.setTop (entryFrame m #[(.long qa), (.long (1 : Int64)), (.long qb)] 8)) t := fun t k => cn3 t (st4 _ k)
    have cn6 : ∀ t, Steps p.tables e below (T4.setTop (mkF m 12 #[.val (.long qa), .second, .val (.long (1 : Int64)), .second, .val (.long qb), .second, .unset, .unset] [(.int (-(own_sign qb)))])) t → Steps p.tables e below (s₁.setTop (entryFrame m #[(.long qa), (.long (1 : Int64)), (.long qb)] 8)) t := by
      intro t k
      refine cn5 t ?_
      refine o_ineg X4.here hx (hb hby dR_11) ?_
      exact k
    obtain ⟨fs, hr, hrun, hended, hW, hsame⟩ := X4.leave (v := some (.int (-(own_sign qb)))) (fun h => by rw [Bd.returns] at h; cases h)
    refine ⟨_, _, cn6 _ ?_, hrun, hended, _, _, rfl, ?_, ⟨_, rfl⟩, hW, hsame.mono (by decide) (by decide)⟩
    · exact retI X4 hx Bd.returns (hb hby dR_12) hr
    · show QR Z qa qb pa pk h0 n0 _ T4.heap _
      rw [e4]
      exact ⟨(by rw [own_raised, if_pos h3_2]), N4, rfl⟩
  · -- pc 3 taken
    have cn7 : ∀ t, Steps p.tables e below (s₁.setTop (mkF m 14 #[.val (.long qa), .second, .val (.long (1 : Int64)), .second, .val (.long qb), .second, .unset, .unset] [(.long (1 : Int64))])) t → Steps p.tables e below (s₁.setTop (entryFrame m #[(.long qa), (.long (1 : Int64)), (.long qb)] 8)) t := by
      intro t k
      refine cn1 t ?_
      refine o_ifYes X0.here hx (pc' := 13) (hb hby dR_3) (XT.ll_ne_t h3_2) (by decide) (by decide) ?_
      refine o_lloadN X0.here hx (hb hby dR_13) rfl ?_
      exact k
    obtain ⟨T8, X8, e8, st8⟩ := getS2 X0 hx hZ (host := "") hown (Or.inl (hw _ (List.mem_of_getElem? (i := 63) rfl))) Via.refl e0 pr0 (g := (mkF m 14 #[.val (.long qa), .second, .val (.long (1 : Int64)), .second, .val (.long qb), .second, .unset, .unset] [(.long (1 : Int64))])) rfl (hb hby dR_14)
    have cn9 : ∀ t, Steps p.tables e below (T8.setTop (mkF m 17 #[.val (.long qa), .second, .val (.long (1 : Int64)), .second, .val (.long qb), .second, .unset, .unset] [(.ref pa), (.long (1 : Int64))])) t → Steps p.tables e below (s₁.setTop (entryFrame m #[(.long qa), (.long (1 : Int64)), (.long qb)] 8)) t := fun t k => cn7 t (st8 _ k)
    obtain ⟨cl10, Ar10, qk10, Sz10, Mz10, Hh10, Gg10⟩ := pr1
    have pr1 : Arv Z h0 pa pk .long (19 : Int32) [(.long (1 : Int64)), (.long (10 : Int64)), (.long (100 : Int64)), (.long (1000 : Int64)), (.long (10000 : Int64)), (.long (100000 : Int64)), (.long (1000000 : Int64)), (.long (10000000 : Int64)), (.long (100000000 : Int64)), (.long (1000000000 : Int64)), (.long (10000000000 : Int64)), (.long (100000000000 : Int64)), (.long (1000000000000 : Int64)), (.long (10000000000000 : Int64)), (.long (100000000000000 : Int64)), (.long (1000000000000000 : Int64)), (.long (10000000000000000 : Int64)), (.long (100000000000000000 : Int64)), (.long (1000000000000000000 : Int64))] (.long (0 : Int64)) := ⟨cl10, Ar10, qk10, Sz10, Mz10, Hh10, Gg10⟩
    have cn11 : ∀ t, Steps p.tables e below (T8.setTop (mkF m 29 #[.val (.long qa), .second, .val (.long (1 : Int64)), .second, .val (.long qb), .second, .unset, .unset] [(.long qa)])) t → Steps p.tables e below (s₁.setTop (entryFrame m #[(.long qa), (.long (1 : Int64)), (.long qb)] 8)) t := by
      intro t k
      refine cn9 t ?_
      refine X8.arraylength hx (by rw [e8]; exact Ar10.1) (State.isArrayOf_alike hZ.alike Ar10.2.1) (g := (mkF m 17 #[.val (.long qa), .second, .val (.long (1 : Int64)), .second, .val (.long qb), .second, .unset, .unset] [(.ref pa), (.long (1 : Int64))])) rfl rfl (hb hby dR_17) _ ?_
      rw [len_of Sz10 Mz10]
      show Steps p.tables e below (T8.setTop (mkF m 18 #[.val (.long qa), .second, .val (.long (1 : Int64)), .second, .val (.long qb), .second, .unset, .unset] [(.int (19 : Int32)), (.long (1 : Int64))])) _
      refine o_i2l X8.here hx (hb hby dR_18) ?_
      refine o_lcmp X8.here hx (hb hby dR_19) ?_
      show Steps p.tables e below (T8.setTop (mkF m 20 #[.val (.long qa), .second, .val (.long (1 : Int64)), .second, .val (.long qb), .second, .unset, .unset] [(.int (XT.cmpL (1 : Int64) ((19 : Int32).toInt64)))])) _
      refine o_ifYes X8.here hx (pc' := 28) (hb hby dR_20) (XT.ll_lt_t (by decide)) (by decide) (by decide) ?_
      refine o_lloadN X8.here hx (hb hby dR_28) rfl ?_
      exact k
    obtain ⟨T12, X12, e12, st12⟩ := getS2 X8 hx hZ (host := "") hown (Or.inl (hw _ (List.mem_of_getElem? (i := 63) rfl))) Via.refl e8 pr0 (g := (mkF m 29 #[.val (.long qa), .second, .val (.long (1 : Int64)), .second, .val (.long qb), .second, .unset, .unset] [(.long qa)])) rfl (hb hby dR_29)
    have cn13 : ∀ t, Steps p.tables e below (T12.setTop (mkF m 32 #[.val (.long qa), .second, .val (.long (1 : Int64)), .second, .val (.long qb), .second, .unset, .unset] [(.ref pa), (.long qa)])) t → Steps p.tables e below (s₁.setTop (entryFrame m #[(.long qa), (.long (1 : Int64)), (.long qb)] 8)) t := fun t k => cn11 t (st12 _ k)
    have cn14 : ∀ t, Steps p.tables e below (T12.setTop (mkF m 34 #[.val (.long qa), .second, .val (.long (1 : Int64)), .second, .val (.long qb), .second, .unset, .unset] [(.int (1 : Int32)), (.ref pa), (.long qa)])) t → Steps p.tables e below (s₁.setTop (entryFrame m #[(.long qa), (.long (1 : Int64)), (.long qb)] 8)) t := by
      intro t k
      refine cn13 t ?_
      refine o_lloadN X12.here hx (hb hby dR_32) rfl ?_
      refine o_l2i X12.here hx (hb hby dR_33) ?_
      rw [(show (1 : Int64).toInt32 = (1 : Int32) from rfl)]
      exact k
    obtain ⟨cl15, Ar15, qk15, Sz15, Mz15, Hh15, Gg15⟩ := pr1
    have pr1 : Arv Z h0 pa pk .long (19 : Int32) [(.long (1 : Int64)), (.long (10 : Int64)), (.long (100 : Int64)), (.long (1000 : Int64)), (.long (10000 : Int64)), (.long (100000 : Int64)), (.long (1000000 : Int64)), (.long (10000000 : Int64)), (.long (100000000 : Int64)), (.long (1000000000 : Int64)), (.long (10000000000 : Int64)), (.long (100000000000 : Int64)), (.long (1000000000000 : Int64)), (.long (10000000000000 : Int64)), (.long (100000000000000 : Int64)), (.long (1000000000000000 : Int64)), (.long (10000000000000000 : Int64)), (.long (100000000000000000 : Int64)), (.long (1000000000000000000 : Int64))] (.long (0 : Int64)) := ⟨cl15, Ar15, qk15, Sz15, Mz15, Hh15, Gg15⟩
    have cn16 : ∀ t, Steps p.tables e below (T12.setTop (mkF m 39 #[.val (.long qa), .second, .val (.long (1 : Int64)), .second, .val (.long qb), .second, .val (.long (qa * (10 : Int64))), .second] [(.long qa)])) t → Steps p.tables e below (s₁.setTop (entryFrame m #[(.long qa), (.long (1 : Int64)), (.long qb)] 8)) t := by
      intro t k
      refine cn14 t ?_
      refine X12.laload hx (j := (1 : Int32)) (v := (.long (10 : Int64))) (by rw [e12]; exact Ar15.1) (State.isArrayOf_alike hZ.alike Ar15.2.1) Ar15.2.2 (inb_of Sz15 ⟨(by decide), (by decide)⟩) (Hh15.at (inb_of Sz15 ⟨(by decide), (by decide)⟩) rfl) (g := (mkF m 34 #[.val (.long qa), .second, .val (.long (1 : Int64)), .second, .val (.long qb), .second, .unset, .unset] [(.int (1 : Int32)), (.ref pa), (.long qa)])) rfl rfl (hb hby dR_34) _ ?_
      show Steps p.tables e below (T12.setTop (mkF m 35 #[.val (.long qa), .second, .val (.long (1 : Int64)), .second, .val (.long qb), .second, .unset, .unset] [(.long (10 : Int64)), (.long qa)])) _
      refine o_lmul X12.here hx (hb hby dR_35) ?_
      refine o_lstore X12.here hx (hb hby dR_36) (l' := #[.val (.long qa), .second, .val (.long (1 : Int64)), .second, .val (.long qb), .second, .val (.long (qa * (10 : Int64))), .second]) rfl ?_
      refine o_lloadN X12.here hx (hb hby dR_38) rfl ?_
      exact k
    obtain ⟨T17, X17, e17, st17⟩ := getS2 X12 hx hZ (host := "") hown (Or.inl (hw _ (List.mem_of_getElem? (i := 63) rfl))) Via.refl e12 pr0 (g := (mkF m 39 #[.val (.long qa), .second, .val (.long (1 : Int64)), .second, .val (.long qb), .second, .val (.long (qa * (10 : Int64))), .second] [(.long qa)])) rfl (hb hby dR_39)
    have cn18 : ∀ t, Steps p.tables e below (T17.setTop (mkF m 42 #[.val (.long qa), .second, .val (.long (1 : Int64)), .second, .val (.long qb), .second, .val (.long (qa * (10 : Int64))), .second] [(.ref pa), (.long qa)])) t → Steps p.tables e below (s₁.setTop (entryFrame m #[(.long qa), (.long (1 : Int64)), (.long qb)] 8)) t := fun t k => cn16 t (st17 _ k)
    have cn19 : ∀ t, Steps p.tables e below (T17.setTop (mkF m 44 #[.val (.long qa), .second, .val (.long (1 : Int64)), .second, .val (.long qb), .second, .val (.long (qa * (10 : Int64))), .second] [(.int (1 : Int32)), (.ref pa), (.long qa)])) t → Steps p.tables e below (s₁.setTop (entryFrame m #[(.long qa), (.long (1 : Int64)), (.long qb)] 8)) t := by
      intro t k
      refine cn18 t ?_
      refine o_lloadN X17.here hx (hb hby dR_42) rfl ?_
      refine o_l2i X17.here hx (hb hby dR_43) ?_
      rw [(show (1 : Int64).toInt32 = (1 : Int32) from rfl)]
      exact k
    obtain ⟨cl20, Ar20, qk20, Sz20, Mz20, Hh20, Gg20⟩ := pr1
    have pr1 : Arv Z h0 pa pk .long (19 : Int32) [(.long (1 : Int64)), (.long (10 : Int64)), (.long (100 : Int64)), (.long (1000 : Int64)), (.long (10000 : Int64)), (.long (100000 : Int64)), (.long (1000000 : Int64)), (.long (10000000 : Int64)), (.long (100000000 : Int64)), (.long (1000000000 : Int64)), (.long (10000000000 : Int64)), (.long (100000000000 : Int64)), (.long (1000000000000 : Int64)), (.long (10000000000000 : Int64)), (.long (100000000000000 : Int64)), (.long (1000000000000000 : Int64)), (.long (10000000000000000 : Int64)), (.long (100000000000000000 : Int64)), (.long (1000000000000000000 : Int64))] (.long (0 : Int64)) := ⟨cl20, Ar20, qk20, Sz20, Mz20, Hh20, Gg20⟩
    have cn21 : ∀ t, Steps p.tables e below (T17.setTop (mkF m 45 #[.val (.long qa), .second, .val (.long (1 : Int64)), .second, .val (.long qb), .second, .val (.long (qa * (10 : Int64))), .second] [(.long (10 : Int64)), (.long qa)])) t → Steps p.tables e below (s₁.setTop (entryFrame m #[(.long qa), (.long (1 : Int64)), (.long qb)] 8)) t := by
      intro t k
      refine cn19 t ?_
      refine X17.laload hx (j := (1 : Int32)) (v := (.long (10 : Int64))) (by rw [e17]; exact Ar20.1) (State.isArrayOf_alike hZ.alike Ar20.2.1) Ar20.2.2 (inb_of Sz20 ⟨(by decide), (by decide)⟩) (Hh20.at (inb_of Sz20 ⟨(by decide), (by decide)⟩) rfl) (g := (mkF m 44 #[.val (.long qa), .second, .val (.long (1 : Int64)), .second, .val (.long qb), .second, .val (.long (qa * (10 : Int64))), .second] [(.int (1 : Int32)), (.ref pa), (.long qa)])) rfl rfl (hb hby dR_44) _ ?_
      show Steps p.tables e below (T17.setTop (mkF m 45 #[.val (.long qa), .second, .val (.long (1 : Int64)), .second, .val (.long qb), .second, .val (.long (qa * (10 : Int64))), .second] [(.long (10 : Int64)), (.long qa)])) _
      exact k
    obtain ⟨_, _, ⟨T22, L22, c22, n22⟩, -, X22, ⟨Lc22, hQ22, l22, y22, z22⟩, st22⟩ := Jvm.LawKit.callS X17 hx (y := (⟨"java/lang/Math", "multiplyHigh", "(JJ)J"⟩ : MethodName)) hown (mvT hZ (hw _ (List.mem_of_getElem? (i := 65) rfl))) (mvT hZ (hw _ (List.mem_of_getElem? (i := 66) rfl))) (mvT hZ (hw _ (List.mem_of_getElem? (i := 67) rfl))) (mvT hZ (hw _ (List.mem_of_getElem? (i := 68) rfl))) (by decide) (backOf (W := 0) (rmH l Z a0 hw [] qa (10 : Int64) h0 n0 Z0) hZ (hw _ (List.mem_of_getElem? (i := 68) rfl)) (hw _ (List.mem_of_getElem? (i := 67) rfl)) (by decide) (by decide)) (g := (mkF m 45 #[.val (.long qa), .second, .val (.long (1 : Int64)), .second, .val (.long qb), .second, .val (.long (qa * (10 : Int64))), .second] [(.long (10 : Int64)), (.long qa)])) rfl (by rw [hml]; rfl) (argsL := [(.long qa), (.long (10 : Int64))]) (rest := []) (lenOf pd_oJJcJ rfl) rfl (by show 2 * 0 + _ ≤ _; exact Nat.le_of_eq rfl) (hb hby dR_45) (fun _ _ => ⟨rfl, e17, (by decide : 0 + 0 ≤ _), (by decide : 0 + 0 ≤ _)⟩)
    dsimp only [Pt.U, Pt.locs, Pt.cells, Pt.slots] at X22 l22 y22 z22 st22 hQ22
    subst l22 y22 z22
    obtain ⟨rfl, N22a, eh22⟩ := hQ22
    have N22 := Fr.app N0 N22a
    have e22 : T22.heap = h0 := eh22
    have cn23 : ∀ t, Steps p.tables e below (T22.setTop (mkF m 48 #[.val (.long qa), .second, .val (.long (1 : Int64)), .second, .val (.long qb), .second, .val (.long (qa * (10 : Int64))), .second] [(.long (own_mh qa (10 : Int64)))])) t → Steps p.tables e below (s₁.setTop (entryFrame m #[(.long qa), (.long (1 : Int64)), (.long qb)] 8)) t := fun t k => cn21 t (st22 _ k)
    have cn24 : ∀ t, Steps p.tables e below (T22.setTop (mkF m 54 #[.val (.long qa), .second, .val (.long (1 : Int64)), .second, .val (.long qb), .second, .val (.long (qa * (10 : Int64))), .second] [(.int (XT.cmpL (own_mh qa (10 : Int64)) ((qa * (10 : Int64)) >>> ((63 : Int32).toInt64 &&& 63))))])) t → Steps p.tables e below (s₁.setTop (entryFrame m #[(.long qa), (.long (1 : Int64)), (.long qb)] 8)) t := by
      intro t k
      refine cn23 t ?_
      refine o_lload X22.here hx (hb hby dR_48) rfl ?_
      refine o_bipushV X22.here hx (63 : Int32) (hb hby dR_50) rfl ?_
      refine o_lshr X22.here hx (hb hby dR_52) ?_
      refine o_lcmp X22.here hx (hb hby dR_53) ?_
      exact k
    by_cases h54_25 : (own_mh qa (10 : Int64)) = ((qa * (10 : Int64)) >>> ((63 : Int32).toInt64 &&& 63))
    · -- pc 54 taken
      have cn26 : ∀ t, Steps p.tables e below (T22.setTop (mkF m 66 #[.val (.long qa), .second, .val (.long (1 : Int64)), .second, .val (.long qb), .second, .val (.long (qa * (10 : Int64))), .second] [(.long qb), (.long (qa * (10 : Int64)))])) t → Steps p.tables e below (s₁.setTop (entryFrame m #[(.long qa), (.long (1 : Int64)), (.long qb)] 8)) t := by
        intro t k
        refine cn24 t ?_
        refine o_ifYes X22.here hx (pc' := 62) (hb hby dR_54) (XT.ll_eq_t h54_25) (by decide) (by decide) ?_
        refine o_lload X22.here hx (hb hby dR_62) rfl ?_
        refine o_lload X22.here hx (hb hby dR_64) rfl ?_
        exact k
      obtain ⟨_, _, ⟨T27, L27, c27, n27⟩, -, X27, ⟨Lc27, hQ27, l27, y27, z27⟩, st27⟩ := Jvm.LawKit.callS X22 hx (y := (⟨"java/lang/Long", "compare", "(JJ)I"⟩ : MethodName)) hown (mvT hZ (hw _ (List.mem_of_getElem? (i := 54) rfl))) (mvT hZ (hw _ (List.mem_of_getElem? (i := 55) rfl))) (mvT hZ (hw _ (List.mem_of_getElem? (i := 44) rfl))) (mvT hZ (hw _ (List.mem_of_getElem? (i := 56) rfl))) (by decide) (backOf (W := 0) (rmP l Z a0 hw [] (qa * (10 : Int64)) qb h0 n0 Z0) hZ (hw _ (List.mem_of_getElem? (i := 56) rfl)) (hw _ (List.mem_of_getElem? (i := 44) rfl)) (by decide) (by decide)) (g := (mkF m 66 #[.val (.long qa), .second, .val (.long (1 : Int64)), .second, .val (.long qb), .second, .val (.long (qa * (10 : Int64))), .second] [(.long qb), (.long (qa * (10 : Int64)))])) rfl (by rw [hml]; rfl) (argsL := [(.long (qa * (10 : Int64))), (.long qb)]) (rest := []) (lenOf pd_oJJcI rfl) rfl (by show 2 * 0 + _ ≤ _; exact Nat.le_of_eq rfl) (hb hby dR_66) (fun _ _ => ⟨rfl, e22, (by decide : 0 + 0 ≤ _), (by decide : 0 + 0 ≤ _)⟩)
      dsimp only [Pt.U, Pt.locs, Pt.cells, Pt.slots] at X27 l27 y27 z27 st27 hQ27
      subst l27 y27 z27
      obtain ⟨rfl, N27a, eh27⟩ := hQ27
      have N27 := Fr.app N22 N27a
      have e27 : T27.heap = h0 := eh27
      have cn28 : ∀ t, Steps p.tables e below (T27.setTop (mkF m 69 #[.val (.long qa), .second, .val (.long (1 : Int64)), .second, .val (.long qb), .second, .val (.long (qa * (10 : Int64))), .second] [(.int (own_cmp (qa * (10 : Int64)) qb))])) t → Steps p.tables e below (s₁.setTop (entryFrame m #[(.long qa), (.long (1 : Int64)), (.long qb)] 8)) t := fun t k => cn26 t (st27 _ k)
      obtain ⟨fs, hr, hrun, hended, hW, hsame⟩ := X27.leave (v := some (.int (own_cmp (qa * (10 : Int64)) qb))) (fun h => by rw [Bd.returns] at h; cases h)
      refine ⟨_, _, cn28 _ ?_, hrun, hended, _, _, rfl, ?_, ⟨_, rfl⟩, hW, hsame.mono (by decide) (by decide)⟩
      · exact retI X27 hx Bd.returns (hb hby dR_69) hr
      · show QR Z qa qb pa pk h0 n0 _ T27.heap _
        rw [e27]
        exact ⟨(by rw [own_raised, if_neg h3_2, if_pos h54_25]), N27, rfl⟩
    · -- pc 54 not taken
      have cn29 : ∀ t, Steps p.tables e below (T22.setTop (mkF m 58 #[.val (.long qa), .second, .val (.long (1 : Int64)), .second, .val (.long qb), .second, .val (.long (qa * (10 : Int64))), .second] [(.long qa)])) t → Steps p.tables e below (s₁.setTop (entryFrame m #[(.long qa), (.long (1 : Int64)), (.long qb)] 8)) t := by
        intro t k
        refine cn24 t ?_
        refine o_ifNo X22.here hx (hb hby dR_54) (XT.ll_eq_f h54_25) ?_
        refine o_lloadN X22.here hx (hb hby dR_57) rfl ?_
        exact k
      obtain ⟨_, _, ⟨T30, L30, c30, n30⟩, -, X30, ⟨Lc30, hQ30, l30, y30, z30⟩, st30⟩ := Jvm.LawKit.callS X22 hx (y := (⟨"java/lang/Long", "signum", "(J)I"⟩ : MethodName)) hown (mvT hZ (hw _ (List.mem_of_getElem? (i := 42) rfl))) (mvT hZ (hw _ (List.mem_of_getElem? (i := 43) rfl))) (mvT hZ (hw _ (List.mem_of_getElem? (i := 44) rfl))) (mvT hZ (hw _ (List.mem_of_getElem? (i := 45) rfl))) (by decide) (backOf (W := 0) (rmG l Z a0 hw [] qa h0 n0 Z0) hZ (hw _ (List.mem_of_getElem? (i := 45) rfl)) (hw _ (List.mem_of_getElem? (i := 44) rfl)) (by decide) (by decide)) (g := (mkF m 58 #[.val (.long qa), .second, .val (.long (1 : Int64)), .second, .val (.long qb), .second, .val (.long (qa * (10 : Int64))), .second] [(.long qa)])) rfl (by rw [hml]; rfl) (argsL := [(.long qa)]) (rest := []) (lenOf pd_oJcI rfl) rfl (by show 2 * 0 + _ ≤ _; exact Nat.le_of_eq rfl) (hb hby dR_58) (fun _ _ => ⟨rfl, e22, (by decide : 0 + 0 ≤ _), (by decide : 0 + 0 ≤ _)⟩)
      dsimp only [Pt.U, Pt.locs, Pt.cells, Pt.slots] at X30 l30 y30 z30 st30 hQ30
      subst l30 y30 z30
      obtain ⟨rfl, N30a, eh30⟩ := hQ30
      have N30 := Fr.app N22 N30a
      have e30 : T30.heap = h0 := eh30
      have cn31 : ∀ t, Steps p.tables e below (T30.setTop (mkF m 61 #[.val (.long qa), .second, .val (.long (1 : Int64)), .second, .val (.long qb), .second, .val (.long (qa * (10 : Int64))), .second] [(.int (own_sign qa))])) t → Steps p.tables e below (s₁.setTop (entryFrame m #[(.long qa), (.long (1 : Int64)), (.long qb)] 8)) t := fun t k => cn29 t (st30 _ k)
      obtain ⟨fs, hr, hrun, hended, hW, hsame⟩ := X30.leave (v := some (.int (own_sign qa))) (fun h => by rw [Bd.returns] at h; cases h)
      refine ⟨_, _, cn31 _ ?_, hrun, hended, _, _, rfl, ?_, ⟨_, rfl⟩, hW, hsame.mono (by decide) (by decide)⟩
      · exact retI X30 hx Bd.returns (hb hby dR_61) hr
      · show QR Z qa qb pa pk h0 n0 _ T30.heap _
        rw [e30]
        exact ⟨(by rw [own_raised, if_neg h3_2, if_neg h54_25]), N30, rfl⟩

theorem dK_0 : decode prog_24_method_12_code 0 = .ok (.lload_n 2, 1) := by decide +kernel
theorem dK_1 : decode prog_24_method_12_code 1 = .ok (.lload 6, 2) := by decide +kernel
theorem dK_3 : decode prog_24_method_12_code 3 = .ok (.lcmp, 1) := by decide +kernel
theorem dK_4 : decode prog_24_method_12_code 4 = .ok (.ifCond .ne 10, 3) := by decide +kernel
theorem dK_7 : decode prog_24_method_12_code 7 = .ok (.lload_n 0, 1) := by decide +kernel
theorem dK_8 : decode prog_24_method_12_code 8 = .ok (.lload 4, 2) := by decide +kernel
theorem dK_10 : decode prog_24_method_12_code 10 = .ok (.invokestatic 98, 3) := by decide +kernel
theorem dK_13 : decode prog_24_method_12_code 13 = .ok (.ireturn, 1) := by decide +kernel
theorem dK_14 : decode prog_24_method_12_code 14 = .ok (.lload_n 2, 1) := by decide +kernel
theorem dK_15 : decode prog_24_method_12_code 15 = .ok (.lload 6, 2) := by decide +kernel
theorem dK_17 : decode prog_24_method_12_code 17 = .ok (.lcmp, 1) := by decide +kernel
theorem dK_18 : decode prog_24_method_12_code 18 = .ok (.ifCond .ge 14, 3) := by decide +kernel
theorem dK_21 : decode prog_24_method_12_code 21 = .ok (.lload_n 0, 1) := by decide +kernel
theorem dK_22 : decode prog_24_method_12_code 22 = .ok (.lload 6, 2) := by decide +kernel
theorem dK_24 : decode prog_24_method_12_code 24 = .ok (.lload_n 2, 1) := by decide +kernel
theorem dK_25 : decode prog_24_method_12_code 25 = .ok (.lsub, 1) := by decide +kernel
theorem dK_26 : decode prog_24_method_12_code 26 = .ok (.lload 4, 2) := by decide +kernel
theorem dK_28 : decode prog_24_method_12_code 28 = .ok (.invokestatic 101, 3) := by decide +kernel
theorem dK_31 : decode prog_24_method_12_code 31 = .ok (.ireturn, 1) := by decide +kernel
theorem dK_32 : decode prog_24_method_12_code 32 = .ok (.lload 4, 2) := by decide +kernel
theorem dK_34 : decode prog_24_method_12_code 34 = .ok (.lload_n 2, 1) := by decide +kernel
theorem dK_35 : decode prog_24_method_12_code 35 = .ok (.lload 6, 2) := by decide +kernel
theorem dK_37 : decode prog_24_method_12_code 37 = .ok (.lsub, 1) := by decide +kernel
theorem dK_38 : decode prog_24_method_12_code 38 = .ok (.lload_n 0, 1) := by decide +kernel
theorem dK_39 : decode prog_24_method_12_code 39 = .ok (.invokestatic 101, 3) := by decide +kernel
theorem dK_42 : decode prog_24_method_12_code 42 = .ok (.ineg, 1) := by decide +kernel
theorem dK_43 : decode prog_24_method_12_code 43 = .ok (.ireturn, 1) := by decide +kernel
theorem pd_oJJJcI : parseMethodDescriptor "(JJJ)I" = some ⟨[.long, .long, .long], some .int⟩ := by decide +kernel
theorem efK (m : MethodId) (x0 : Int64) (x1 : Int64) (x2 : Int64) (x3 : Int64) : entryFrame m #[(.long x0), (.long x1), (.long x2), (.long x3)] 8 = (mkF m 0 #[.val (.long x0), .second, .val (.long x1), .second, .val (.long x2), .second, .val (.long x3), .second] []) := by first | (simp [entryFrame, mkF, argsToLocals, Value.category]; done) | rfl
def QK (Z : State) (qa : Int64) (qs : Int64) (qb : Int64) (qr : Int64) (pa : Addr) (pk : ClassId) (h0 : Heap) (n0 : Nat) (v : Option Value) (h : Heap) (L : List Loc) : Prop := v = some (.int (own_compare qa qs qb qr)) ∧ Fr n0 L ∧ h = h0
set_option maxRecDepth 65536 in
set_option maxHeartbeats 40000000 in
theorem rmK (l : Launch) (Z : State) (a0 : Array Value) (hw : ∀ d ∈ tables_1, d.before a0 Z = true) (ws : List Jvm.Cond) (qa : Int64) (qs : Int64) (qb : Int64) (qr : Int64) (pa : Addr) (pk : ClassId) (h0 : Heap) (n0 : Nat) (Z0 : n0 ≤ h0.size) (pr0 : Sta Z h0 "com/example/lintel/lintel/Figure" "POWERS_OF_TEN" "[J" (.ref pa)) (pr1 : Arv Z h0 pa pk .long (19 : Int32) [(.long (1 : Int64)), (.long (10 : Int64)), (.long (100 : Int64)), (.long (1000 : Int64)), (.long (10000 : Int64)), (.long (100000 : Int64)), (.long (1000000 : Int64)), (.long (10000000 : Int64)), (.long (100000000 : Int64)), (.long (1000000000 : Int64)), (.long (10000000000 : Int64)), (.long (100000000000 : Int64)), (.long (1000000000000 : Int64)), (.long (10000000000000 : Int64)), (.long (100000000000000 : Int64)), (.long (1000000000000000 : Int64)), (.long (10000000000000000 : Int64)), (.long (100000000000000000 : Int64)), (.long (1000000000000000000 : Int64))] (.long (0 : Int64))) (H2 : (qs < qr → qr - qs = 1) ∧ (¬ qs < qr → ¬ qs = qr → qs - qr = 1)) :
    MetFree l (⟨"com/example/lintel/lintel/Figure", "compare", "(JJJJ)I"⟩ : MethodName) (head1 (Jvm.Cond.code (⟨"com/example/lintel/lintel/Figure", "compare", "(JJJJ)I"⟩ : MethodName) prog_24_method_12_code 8 (some .int) :: ws) ({ frames := 2, cells := 0, slots := 0, locals := 72 } : Room)) (fun a U => a = #[(.long qa), (.long qs), (.long qb), (.long qr)] ∧ Z.Warmed39 U.vm ∧ U.heap = h0) (fun _ _ _ _ _ => True) (fun _ U o U' => ∃ v L, o = .returned v ∧ QK Z qa qs qb qr pa pk h0 n0 v U'.heap L ∧ FrameEnd U o U' L ({ frames := 2, cells := 0, slots := 0, locals := 72 } : Room).cells ({ frames := 2, cells := 0, slots := 0, locals := 72 } : Room).slots) := by
  refine MetFree.of_bodySF (plainFor_of_name pn_com_example_lintel_lintel_Figure) hisR ?_
  intro p e s m args below meth c s₁ Bd hml0 hP hK
  obtain ⟨rfl, hZ, hh⟩ := hP
  have hx := Bd.exec
  have hby := Bd.bytes
  have hml : c.maxLocals = 8 := hml0
  have hown : s.vm.findClass "com/example/lintel/lintel/Figure" = some m.cls := findClass_of_methodNamed Bd.named
  have hnm := (name_of_methodNamed Bd.named Bd.method).1
  have X0 : Stand p l e ({ frames := 2, cells := 0, slots := 0, locals := 72 } : Room) s m #[(.long qa), (.long qs), (.long qb), (.long qr)] below meth c s₁ [] 0 0 := Stand.of_body Bd
  have e0 : s₁.heap = h0 := by rw [← hh, Bd.state]; rfl
  have N0 := Fr.nil n0
  have pre0 : ∀ t, Steps p.tables e below (s₁.setTop (mkF m 0 #[.val (.long qa), .second, .val (.long qs), .second, .val (.long qb), .second, .val (.long qr), .second] [])) t → Steps p.tables e below (s₁.setTop (entryFrame m #[(.long qa), (.long qs), (.long qb), (.long qr)] 8)) t := fun t k => castTop (efK m qa qs qb qr) k
  have cn1 : ∀ t, Steps p.tables e below (s₁.setTop (mkF m 4 #[.val (.long qa), .second, .val (.long qs), .second, .val (.long qb), .second, .val (.long qr), .second] [(.int (XT.cmpL qs qr))])) t → Steps p.tables e below (s₁.setTop (entryFrame m #[(.long qa), (.long qs), (.long qb), (.long qr)] 8)) t := by
    intro t k
    refine pre0 t ?_
    refine o_lloadN X0.here hx (hb hby dK_0) rfl ?_
    refine o_lload X0.here hx (hb hby dK_1) rfl ?_
    refine o_lcmp X0.here hx (hb hby dK_3) ?_
    exact k
  by_cases h4_2 : qs = qr
  · -- pc 4 not taken
    have cn3 : ∀ t, Steps p.tables e below (s₁.setTop (mkF m 10 #[.val (.long qa), .second, .val (.long qs), .second, .val (.long qb), .second, .val (.long qr), .second] [(.long qb), (.long qa)])) t → Steps p.tables e below (s₁.setTop (entryFrame m #[(.long qa), (.long qs), (.long qb), (.long qr)] 8)) t := by
      intro t k
      refine cn1 t ?_
      refine o_ifNo X0.here hx (hb hby dK_4) (XT.ll_ne_f h4_2) ?_
      refine o_lloadN X0.here hx (hb hby dK_7) rfl ?_
      refine o_lload X0.here hx (hb hby dK_8) rfl ?_
      exact k
    obtain ⟨_, _, ⟨T4, L4, c4, n4⟩, -, X4, ⟨Lc4, hQ4, l4, y4, z4⟩, st4⟩ := Jvm.LawKit.callS X0 hx (y := (⟨"java/lang/Long", "compare", "(JJ)I"⟩ : MethodName)) hown (mvT hZ (hw _ (List.mem_of_getElem? (i := 54) rfl))) (mvT hZ (hw _ (List.mem_of_getElem? (i := 55) rfl))) (mvT hZ (hw _ (List.mem_of_getElem? (i := 44) rfl))) (mvT hZ (hw _ (List.mem_of_getElem? (i := 56) rfl))) (by decide) (backOf (W := 0) (rmP l Z a0 hw [] qa qb h0 n0 Z0) hZ (hw _ (List.mem_of_getElem? (i := 56) rfl)) (hw _ (List.mem_of_getElem? (i := 44) rfl)) (by decide) (by decide)) (g := (mkF m 10 #[.val (.long qa), .second, .val (.long qs), .second, .val (.long qb), .second, .val (.long qr), .second] [(.long qb), (.long qa)])) rfl (by rw [hml]; rfl) (argsL := [(.long qa), (.long qb)]) (rest := []) (lenOf pd_oJJcI rfl) rfl (by show 2 * 0 + _ ≤ _; exact Nat.le_of_eq rfl) (hb hby dK_10) (fun _ _ => ⟨rfl, e0, (by decide : 0 + 0 ≤ _), (by decide : 0 + 0 ≤ _)⟩)
    dsimp only [Pt.U, Pt.locs, Pt.cells, Pt.slots] at X4 l4 y4 z4 st4 hQ4
    subst l4 y4 z4
    obtain ⟨rfl, N4a, eh4⟩ := hQ4
    have N4 := Fr.app N0 N4a
    have e4 : T4.heap = h0 := eh4
    have cn5 : ∀ t, Steps p.tables e below (T4.setTop (mkF m 13 #[.val (.long qa), .second, .val (.long qs), .second, .val (.long qb), .second, .val (.long qr), .second] [(.int (own_cmp qa qb))])) t → Steps p.tables e below (s₁.setTop (entryFrame m #[(.long qa), (.long qs), (.long qb), (.long qr)] 8)) t := fun t k => cn3 t (st4 _ k)
    obtain ⟨fs, hr, hrun, hended, hW, hsame⟩ := X4.leave (v := some (.int (own_cmp qa qb))) (fun h => by rw [Bd.returns] at h; cases h)
    refine ⟨_, _, cn5 _ ?_, hrun, hended, _, _, rfl, ?_, ⟨_, rfl⟩, hW, hsame.mono (by decide) (by decide)⟩
    · exact retI X4 hx Bd.returns (hb hby dK_13) hr
    · show QK Z qa qs qb qr pa pk h0 n0 _ T4.heap _
      rw [e4]
      exact ⟨(by simp [own_compare, h4_2]), N4, rfl⟩
  · -- pc 4 taken
    have cn6 : ∀ t, Steps p.tables e below (s₁.setTop (mkF m 18 #[.val (.long qa), .second, .val (.long qs), .second, .val (.long qb), .second, .val (.long qr), .second] [(.int (XT.cmpL qs qr))])) t → Steps p.tables e below (s₁.setTop (entryFrame m #[(.long qa), (.long qs), (.long qb), (.long qr)] 8)) t := by
      intro t k
      refine cn1 t ?_
      refine o_ifYes X0.here hx (pc' := 14) (hb hby dK_4) (XT.ll_ne_t h4_2) (by decide) (by decide) ?_
      refine o_lloadN X0.here hx (hb hby dK_14) rfl ?_
      refine o_lload X0.here hx (hb hby dK_15) rfl ?_
      refine o_lcmp X0.here hx (hb hby dK_17) ?_
      exact k
    by_cases h18_7 : qs < qr
    · -- pc 18 not taken
      have cn8 : ∀ t, Steps p.tables e below (s₁.setTop (mkF m 28 #[.val (.long qa), .second, .val (.long qs), .second, .val (.long qb), .second, .val (.long qr), .second] [(.long qb), (.long (1 : Int64)), (.long qa)])) t → Steps p.tables e below (s₁.setTop (entryFrame m #[(.long qa), (.long qs), (.long qb), (.long qr)] 8)) t := by
        intro t k
        refine cn6 t ?_
        refine o_ifNo X0.here hx (hb hby dK_18) (XT.ll_ge_f h18_7) ?_
        refine o_lloadN X0.here hx (hb hby dK_21) rfl ?_
        refine o_lload X0.here hx (hb hby dK_22) rfl ?_
        refine o_lloadN X0.here hx (hb hby dK_24) rfl ?_
        refine o_lsub X0.here hx (hb hby dK_25) ?_
        rw [(H2.1 h18_7)]
        refine o_lload X0.here hx (hb hby dK_26) rfl ?_
        exact k
      obtain ⟨_, _, ⟨T9, L9, c9, n9⟩, -, X9, ⟨Lc9, hQ9, l9, y9, z9⟩, st9⟩ := Jvm.LawKit.callS X0 hx (y := (⟨"com/example/lintel/lintel/Figure", "compareRaised", "(JJJ)I"⟩ : MethodName)) hown (mvT hZ (hw _ (List.mem_of_getElem? (i := 60) rfl))) (mvT hZ (hw _ (List.mem_of_getElem? (i := 61) rfl))) (mvT hZ (hw _ (List.mem_of_getElem? (i := 2) rfl))) (mvT hZ (hw _ (List.mem_of_getElem? (i := 62) rfl))) (by decide) (backOf (W := 0) (rmR l Z a0 hw [] qa qb pa pk h0 n0 Z0 pr0 pr1) hZ (hw _ (List.mem_of_getElem? (i := 62) rfl)) (hw _ (List.mem_of_getElem? (i := 2) rfl)) (by decide) (by decide)) (g := (mkF m 28 #[.val (.long qa), .second, .val (.long qs), .second, .val (.long qb), .second, .val (.long qr), .second] [(.long qb), (.long (1 : Int64)), (.long qa)])) rfl (by rw [hml]; rfl) (argsL := [(.long qa), (.long (1 : Int64)), (.long qb)]) (rest := []) (lenOf pd_oJJJcI rfl) rfl (by show 2 * 0 + _ ≤ _; exact Nat.le_of_eq rfl) (hb hby dK_28) (fun _ _ => ⟨rfl, e0, (by decide : 0 + 0 ≤ _), (by decide : 0 + 0 ≤ _)⟩)
      dsimp only [Pt.U, Pt.locs, Pt.cells, Pt.slots] at X9 l9 y9 z9 st9 hQ9
      subst l9 y9 z9
      obtain ⟨rfl, N9a, eh9⟩ := hQ9
      have N9 := Fr.app N0 N9a
      have e9 : T9.heap = h0 := eh9
      have cn10 : ∀ t, Steps p.tables e below (T9.setTop (mkF m 31 #[.val (.long qa), .second, .val (.long qs), .second, .val (.long qb), .second, .val (.long qr), .second] [(.int (own_raised qa qb))])) t → Steps p.tables e below (s₁.setTop (entryFrame m #[(.long qa), (.long qs), (.long qb), (.long qr)] 8)) t := fun t k => cn8 t (st9 _ k)
      obtain ⟨fs, hr, hrun, hended, hW, hsame⟩ := X9.leave (v := some (.int (own_raised qa qb))) (fun h => by rw [Bd.returns] at h; cases h)
      refine ⟨_, _, cn10 _ ?_, hrun, hended, _, _, rfl, ?_, ⟨_, rfl⟩, hW, hsame.mono (by decide) (by decide)⟩
      · exact retI X9 hx Bd.returns (hb hby dK_31) hr
      · show QK Z qa qs qb qr pa pk h0 n0 _ T9.heap _
        rw [e9]
        exact ⟨(by simp [own_compare, h4_2, h18_7]), N9, rfl⟩
    · -- pc 18 taken
      have cn11 : ∀ t, Steps p.tables e below (s₁.setTop (mkF m 39 #[.val (.long qa), .second, .val (.long qs), .second, .val (.long qb), .second, .val (.long qr), .second] [(.long qa), (.long (1 : Int64)), (.long qb)])) t → Steps p.tables e below (s₁.setTop (entryFrame m #[(.long qa), (.long qs), (.long qb), (.long qr)] 8)) t := by
        intro t k
        refine cn6 t ?_
        refine o_ifYes X0.here hx (pc' := 32) (hb hby dK_18) (XT.ll_ge_t h18_7) (by decide) (by decide) ?_
        refine o_lload X0.here hx (hb hby dK_32) rfl ?_
        refine o_lloadN X0.here hx (hb hby dK_34) rfl ?_
        refine o_lload X0.here hx (hb hby dK_35) rfl ?_
        refine o_lsub X0.here hx (hb hby dK_37) ?_
        rw [(H2.2 h18_7 h4_2)]
        refine o_lloadN X0.here hx (hb hby dK_38) rfl ?_
        exact k
      obtain ⟨_, _, ⟨T12, L12, c12, n12⟩, -, X12, ⟨Lc12, hQ12, l12, y12, z12⟩, st12⟩ := Jvm.LawKit.callS X0 hx (y := (⟨"com/example/lintel/lintel/Figure", "compareRaised", "(JJJ)I"⟩ : MethodName)) hown (mvT hZ (hw _ (List.mem_of_getElem? (i := 60) rfl))) (mvT hZ (hw _ (List.mem_of_getElem? (i := 61) rfl))) (mvT hZ (hw _ (List.mem_of_getElem? (i := 2) rfl))) (mvT hZ (hw _ (List.mem_of_getElem? (i := 62) rfl))) (by decide) (backOf (W := 0) (rmR l Z a0 hw [] qb qa pa pk h0 n0 Z0 pr0 pr1) hZ (hw _ (List.mem_of_getElem? (i := 62) rfl)) (hw _ (List.mem_of_getElem? (i := 2) rfl)) (by decide) (by decide)) (g := (mkF m 39 #[.val (.long qa), .second, .val (.long qs), .second, .val (.long qb), .second, .val (.long qr), .second] [(.long qa), (.long (1 : Int64)), (.long qb)])) rfl (by rw [hml]; rfl) (argsL := [(.long qb), (.long (1 : Int64)), (.long qa)]) (rest := []) (lenOf pd_oJJJcI rfl) rfl (by show 2 * 0 + _ ≤ _; exact Nat.le_of_eq rfl) (hb hby dK_39) (fun _ _ => ⟨rfl, e0, (by decide : 0 + 0 ≤ _), (by decide : 0 + 0 ≤ _)⟩)
      dsimp only [Pt.U, Pt.locs, Pt.cells, Pt.slots] at X12 l12 y12 z12 st12 hQ12
      subst l12 y12 z12
      obtain ⟨rfl, N12a, eh12⟩ := hQ12
      have N12 := Fr.app N0 N12a
      have e12 : T12.heap = h0 := eh12
      have cn13 : ∀ t, Steps p.tables e below (T12.setTop (mkF m 42 #[.val (.long qa), .second, .val (.long qs), .second, .val (.long qb), .second, .val (.long qr), .second] [(.int (own_raised qb qa))])) t → Steps p.tables e below (s₁.setTop (entryFrame m #[(.long qa), (.long qs), (.long qb), (.long qr)] 8)) t := fun t k => cn11 t (st12 _ k)
      have cn14 : ∀ t, Steps p.tables e below (T12.setTop (mkF m 43 #[.val (.long qa), .second, .val (.long qs), .second, .val (.long qb), .second, .val (.long qr), .second] [(.int (-(own_raised qb qa)))])) t → Steps p.tables e below (s₁.setTop (entryFrame m #[(.long qa), (.long qs), (.long qb), (.long qr)] 8)) t := by
        intro t k
        refine cn13 t ?_
        refine o_ineg X12.here hx (hb hby dK_42) ?_
        exact k
      obtain ⟨fs, hr, hrun, hended, hW, hsame⟩ := X12.leave (v := some (.int (-(own_raised qb qa)))) (fun h => by rw [Bd.returns] at h; cases h)
      refine ⟨_, _, cn14 _ ?_, hrun, hended, _, _, rfl, ?_, ⟨_, rfl⟩, hW, hsame.mono (by decide) (by decide)⟩
      · exact retI X12 hx Bd.returns (hb hby dK_43) hr
      · show QK Z qa qs qb qr pa pk h0 n0 _ T12.heap _
        rw [e12]
        exact ⟨(by simp [own_compare, h4_2, h18_7]), N12, rfl⟩

theorem dV_0 : decode prog_24_method_7_code 0 = .ok (.aload_n 0, 1) := by decide +kernel
theorem dV_1 : decode prog_24_method_7_code 1 = .ok (.getfield 14, 3) := by decide +kernel
theorem dV_4 : decode prog_24_method_7_code 4 = .ok (.ireturn, 1) := by decide +kernel
theorem efV (m : MethodId) (x0 : Addr) : entryFrame m #[(.ref x0)] 1 = (mkF m 0 #[.val (.ref x0)] []) := by first | (simp [entryFrame, mkF, argsToLocals, Value.category]; done) | rfl
def QV (Z : State) (a1 : Addr) (h0 : Heap) (n0 : Nat) (v : Option Value) (h : Heap) (L : List Loc) : Prop := v = some (.int (1 : Int32)) ∧ Fr n0 L ∧ h = h0
set_option maxRecDepth 65536 in
set_option maxHeartbeats 40000000 in
theorem rmV (l : Launch) (Z : State) (a0 : Array Value) (hw : ∀ d ∈ tables_1, d.before a0 Z = true) (ws : List Jvm.Cond) (a1 : Addr) (h0 : Heap) (n0 : Nat) (Z0 : n0 ≤ h0.size) (pr0 : Fld Z h0 a1 "com/example/lintel/lintel/Figure" "given" "Z" (.int (1 : Int32))) :
    MetFree l (⟨"com/example/lintel/lintel/Figure", "isGiven", "()Z"⟩ : MethodName) (head1 (Jvm.Cond.code (⟨"com/example/lintel/lintel/Figure", "isGiven", "()Z"⟩ : MethodName) prog_24_method_7_code 1 (some .boolean) :: ws) ({ frames := 0, cells := 0, slots := 0, locals := 0 } : Room)) (fun a U => a = #[(.ref a1)] ∧ Z.Warmed39 U.vm ∧ U.heap = h0) (fun _ _ _ _ _ => True) (fun _ U o U' => ∃ v L, o = .returned v ∧ QV Z a1 h0 n0 v U'.heap L ∧ FrameEnd U o U' L ({ frames := 0, cells := 0, slots := 0, locals := 0 } : Room).cells ({ frames := 0, cells := 0, slots := 0, locals := 0 } : Room).slots) := by
  refine MetFree.of_bodySF (plainFor_of_name pn_com_example_lintel_lintel_Figure) hisR ?_
  intro p e s m args below meth c s₁ Bd hml0 hP hK
  obtain ⟨rfl, hZ, hh⟩ := hP
  have hx := Bd.exec
  have hby := Bd.bytes
  have hml : c.maxLocals = 1 := hml0
  have hown : s.vm.findClass "com/example/lintel/lintel/Figure" = some m.cls := findClass_of_methodNamed Bd.named
  have hnm := (name_of_methodNamed Bd.named Bd.method).1
  have X0 : Stand p l e ({ frames := 0, cells := 0, slots := 0, locals := 0 } : Room) s m #[(.ref a1)] below meth c s₁ [] 0 0 := Stand.of_body Bd
  have e0 : s₁.heap = h0 := by rw [← hh, Bd.state]; rfl
  have N0 := Fr.nil n0
  have pre0 : ∀ t, Steps p.tables e below (s₁.setTop (mkF m 0 #[.val (.ref a1)] [])) t → Steps p.tables e below (s₁.setTop (entryFrame m #[(.ref a1)] 1)) t := fun t k => castTop (efV m a1) k
  have cn1 : ∀ t, Steps p.tables e below (s₁.setTop (mkF m 1 #[.val (.ref a1)] [(.ref a1)])) t → Steps p.tables e below (s₁.setTop (entryFrame m #[(.ref a1)] 1)) t := by
    intro t k
    refine pre0 t ?_
    refine o_aloadN X0.here hx (hb hby dV_0) rfl rfl ?_
    exact k
  obtain ⟨T2, X2, e2, st2⟩ := getF X0 hx hZ hown (host := "") (Or.inl (hw _ (List.mem_of_getElem? (i := 14) rfl))) Via.refl e0 pr0 (g := (mkF m 1 #[.val (.ref a1)] [(.ref a1)])) rfl rfl (hb hby dV_1)
  have cn3 : ∀ t, Steps p.tables e below (T2.setTop (mkF m 4 #[.val (.ref a1)] [(.int (1 : Int32))])) t → Steps p.tables e below (s₁.setTop (entryFrame m #[(.ref a1)] 1)) t := fun t k => cn1 t (st2 _ k)
  obtain ⟨fs, hr, hrun, hended, hW, hsame⟩ := X2.leave (v := some (.int (1 : Int32))) (fun h => by rw [Bd.returns] at h; cases h)
  refine ⟨_, _, cn3 _ ?_, hrun, hended, _, _, rfl, ?_, ⟨_, rfl⟩, hW, hsame.mono (by decide) (by decide)⟩
  · exact retN X2 hx (t := .boolean) Bd.returns (by simp) (hb hby dV_4) hr
  · show QV Z a1 h0 n0 _ T2.heap _
    rw [e2]
    exact ⟨rfl, N0, rfl⟩

theorem dW_0 : decode prog_24_method_8_code 0 = .ok (.aload_n 0, 1) := by decide +kernel
theorem dW_1 : decode prog_24_method_8_code 1 = .ok (.getfield 18, 3) := by decide +kernel
theorem dW_4 : decode prog_24_method_8_code 4 = .ok (.ifnull 13, 3) := by decide +kernel
theorem dW_17 : decode prog_24_method_8_code 17 = .ok (.aload_n 0, 1) := by decide +kernel
theorem dW_18 : decode prog_24_method_8_code 18 = .ok (.getfield 22, 3) := by decide +kernel
theorem dW_21 : decode prog_24_method_8_code 21 = .ok (.invokestatic 64, 3) := by decide +kernel
theorem dW_24 : decode prog_24_method_8_code 24 = .ok (.ireturn, 1) := by decide +kernel
theorem efW (m : MethodId) (x0 : Addr) : entryFrame m #[(.ref x0)] 1 = (mkF m 0 #[.val (.ref x0)] []) := by first | (simp [entryFrame, mkF, argsToLocals, Value.category]; done) | rfl
def QW (Z : State) (a1 : Addr) (qu : Int64) (h0 : Heap) (n0 : Nat) (v : Option Value) (h : Heap) (L : List Loc) : Prop := v = some (.int (own_sign qu)) ∧ Fr n0 L ∧ h = h0
set_option maxRecDepth 65536 in
set_option maxHeartbeats 40000000 in
theorem rmW (l : Launch) (Z : State) (a0 : Array Value) (hw : ∀ d ∈ tables_1, d.before a0 Z = true) (ws : List Jvm.Cond) (a1 : Addr) (qu : Int64) (h0 : Heap) (n0 : Nat) (Z0 : n0 ≤ h0.size) (pr0 : Fld Z h0 a1 "com/example/lintel/lintel/Figure" "large" "Ljava/math/BigDecimal;" .null) (pr1 : Fld Z h0 a1 "com/example/lintel/lintel/Figure" "unscaled" "J" (.long qu)) :
    MetFree l (⟨"com/example/lintel/lintel/Figure", "signum", "()I"⟩ : MethodName) (head1 (Jvm.Cond.code (⟨"com/example/lintel/lintel/Figure", "signum", "()I"⟩ : MethodName) prog_24_method_8_code 1 (some .int) :: ws) ({ frames := 1, cells := 0, slots := 0, locals := 16 } : Room)) (fun a U => a = #[(.ref a1)] ∧ Z.Warmed39 U.vm ∧ U.heap = h0) (fun _ _ _ _ _ => True) (fun _ U o U' => ∃ v L, o = .returned v ∧ QW Z a1 qu h0 n0 v U'.heap L ∧ FrameEnd U o U' L ({ frames := 1, cells := 0, slots := 0, locals := 16 } : Room).cells ({ frames := 1, cells := 0, slots := 0, locals := 16 } : Room).slots) := by
  refine MetFree.of_bodySF (plainFor_of_name pn_com_example_lintel_lintel_Figure) hisR ?_
  intro p e s m args below meth c s₁ Bd hml0 hP hK
  obtain ⟨rfl, hZ, hh⟩ := hP
  have hx := Bd.exec
  have hby := Bd.bytes
  have hml : c.maxLocals = 1 := hml0
  have hown : s.vm.findClass "com/example/lintel/lintel/Figure" = some m.cls := findClass_of_methodNamed Bd.named
  have hnm := (name_of_methodNamed Bd.named Bd.method).1
  have X0 : Stand p l e ({ frames := 1, cells := 0, slots := 0, locals := 16 } : Room) s m #[(.ref a1)] below meth c s₁ [] 0 0 := Stand.of_body Bd
  have e0 : s₁.heap = h0 := by rw [← hh, Bd.state]; rfl
  have N0 := Fr.nil n0
  have pre0 : ∀ t, Steps p.tables e below (s₁.setTop (mkF m 0 #[.val (.ref a1)] [])) t → Steps p.tables e below (s₁.setTop (entryFrame m #[(.ref a1)] 1)) t := fun t k => castTop (efW m a1) k
  have cn1 : ∀ t, Steps p.tables e below (s₁.setTop (mkF m 1 #[.val (.ref a1)] [(.ref a1)])) t → Steps p.tables e below (s₁.setTop (entryFrame m #[(.ref a1)] 1)) t := by
    intro t k
    refine pre0 t ?_
    refine o_aloadN X0.here hx (hb hby dW_0) rfl rfl ?_
    exact k
  obtain ⟨T2, X2, e2, st2⟩ := getF X0 hx hZ hown (host := "") (Or.inl (hw _ (List.mem_of_getElem? (i := 20) rfl))) Via.refl e0 pr0 (g := (mkF m 1 #[.val (.ref a1)] [(.ref a1)])) rfl rfl (hb hby dW_1)
  have cn3 : ∀ t, Steps p.tables e below (T2.setTop (mkF m 4 #[.val (.ref a1)] [.null])) t → Steps p.tables e below (s₁.setTop (entryFrame m #[(.ref a1)] 1)) t := fun t k => cn1 t (st2 _ k)
  have cn4 : ∀ t, Steps p.tables e below (T2.setTop (mkF m 18 #[.val (.ref a1)] [(.ref a1)])) t → Steps p.tables e below (s₁.setTop (entryFrame m #[(.ref a1)] 1)) t := by
    intro t k
    refine cn3 t ?_
    refine o_ifnullYes X2.here hx (pc' := 17) (hb hby dW_4) (by decide) (by decide) ?_
    refine o_aloadN X2.here hx (hb hby dW_17) rfl rfl ?_
    exact k
  obtain ⟨T5, X5, e5, st5⟩ := getF X2 hx hZ hown (host := "") (Or.inl (hw _ (List.mem_of_getElem? (i := 16) rfl))) Via.refl e2 pr1 (g := (mkF m 18 #[.val (.ref a1)] [(.ref a1)])) rfl rfl (hb hby dW_18)
  have cn6 : ∀ t, Steps p.tables e below (T5.setTop (mkF m 21 #[.val (.ref a1)] [(.long qu)])) t → Steps p.tables e below (s₁.setTop (entryFrame m #[(.ref a1)] 1)) t := fun t k => cn4 t (st5 _ k)
  obtain ⟨_, _, ⟨T7, L7, c7, n7⟩, -, X7, ⟨Lc7, hQ7, l7, y7, z7⟩, st7⟩ := Jvm.LawKit.callS X5 hx (y := (⟨"java/lang/Long", "signum", "(J)I"⟩ : MethodName)) hown (mvT hZ (hw _ (List.mem_of_getElem? (i := 42) rfl))) (mvT hZ (hw _ (List.mem_of_getElem? (i := 43) rfl))) (mvT hZ (hw _ (List.mem_of_getElem? (i := 44) rfl))) (mvT hZ (hw _ (List.mem_of_getElem? (i := 45) rfl))) (by decide) (backOf (W := 0) (rmG l Z a0 hw [] qu h0 n0 Z0) hZ (hw _ (List.mem_of_getElem? (i := 45) rfl)) (hw _ (List.mem_of_getElem? (i := 44) rfl)) (by decide) (by decide)) (g := (mkF m 21 #[.val (.ref a1)] [(.long qu)])) rfl (by rw [hml]; rfl) (argsL := [(.long qu)]) (rest := []) (lenOf pd_oJcI rfl) rfl (by show 2 * 0 + _ ≤ _; exact Nat.le_of_eq rfl) (hb hby dW_21) (fun _ _ => ⟨rfl, e5, (by decide : 0 + 0 ≤ _), (by decide : 0 + 0 ≤ _)⟩)
  dsimp only [Pt.U, Pt.locs, Pt.cells, Pt.slots] at X7 l7 y7 z7 st7 hQ7
  subst l7 y7 z7
  obtain ⟨rfl, N7a, eh7⟩ := hQ7
  have N7 := Fr.app N0 N7a
  have e7 : T7.heap = h0 := eh7
  have cn8 : ∀ t, Steps p.tables e below (T7.setTop (mkF m 24 #[.val (.ref a1)] [(.int (own_sign qu))])) t → Steps p.tables e below (s₁.setTop (entryFrame m #[(.ref a1)] 1)) t := fun t k => cn6 t (st7 _ k)
  obtain ⟨fs, hr, hrun, hended, hW, hsame⟩ := X7.leave (v := some (.int (own_sign qu))) (fun h => by rw [Bd.returns] at h; cases h)
  refine ⟨_, _, cn8 _ ?_, hrun, hended, _, _, rfl, ?_, ⟨_, rfl⟩, hW, hsame.mono (by decide) (by decide)⟩
  · exact retI X7 hx Bd.returns (hb hby dW_24) hr
  · show QW Z a1 qu h0 n0 _ T7.heap _
    rw [e7]
    exact ⟨rfl, N7, rfl⟩

theorem dX_0 : decode prog_24_method_10_code 0 = .ok (.aload_n 0, 1) := by decide +kernel
theorem dX_1 : decode prog_24_method_10_code 1 = .ok (.getfield 18, 3) := by decide +kernel
theorem dX_4 : decode prog_24_method_10_code 4 = .ok (.ifnonnull 10, 3) := by decide +kernel
theorem dX_7 : decode prog_24_method_10_code 7 = .ok (.aload_n 1, 1) := by decide +kernel
theorem dX_8 : decode prog_24_method_10_code 8 = .ok (.getfield 18, 3) := by decide +kernel
theorem dX_11 : decode prog_24_method_10_code 11 = .ok (.ifnull 15, 3) := by decide +kernel
theorem dX_26 : decode prog_24_method_10_code 26 = .ok (.aload_n 0, 1) := by decide +kernel
theorem dX_27 : decode prog_24_method_10_code 27 = .ok (.getfield 22, 3) := by decide +kernel
theorem dX_30 : decode prog_24_method_10_code 30 = .ok (.aload_n 0, 1) := by decide +kernel
theorem dX_31 : decode prog_24_method_10_code 31 = .ok (.getfield 26, 3) := by decide +kernel
theorem dX_34 : decode prog_24_method_10_code 34 = .ok (.i2l, 1) := by decide +kernel
theorem dX_35 : decode prog_24_method_10_code 35 = .ok (.aload_n 1, 1) := by decide +kernel
theorem dX_36 : decode prog_24_method_10_code 36 = .ok (.getfield 22, 3) := by decide +kernel
theorem dX_39 : decode prog_24_method_10_code 39 = .ok (.aload_n 1, 1) := by decide +kernel
theorem dX_40 : decode prog_24_method_10_code 40 = .ok (.getfield 26, 3) := by decide +kernel
theorem dX_43 : decode prog_24_method_10_code 43 = .ok (.i2l, 1) := by decide +kernel
theorem dX_44 : decode prog_24_method_10_code 44 = .ok (.invokestatic 81, 3) := by decide +kernel
theorem dX_47 : decode prog_24_method_10_code 47 = .ok (.ireturn, 1) := by decide +kernel
theorem pd_oJJJJcI : parseMethodDescriptor "(JJJJ)I" = some ⟨[.long, .long, .long, .long], some .int⟩ := by decide +kernel
theorem efX (m : MethodId) (x0 : Addr) (x1 : Addr) : entryFrame m #[(.ref x0), (.ref x1)] 2 = (mkF m 0 #[.val (.ref x0), .val (.ref x1)] []) := by first | (simp [entryFrame, mkF, argsToLocals, Value.category]; done) | rfl
def QX (Z : State) (a1 : Addr) (a2 : Addr) (u1 : Int64) (s1 : Int32) (u2 : Int64) (s2 : Int32) (pa : Addr) (pk : ClassId) (h0 : Heap) (n0 : Nat) (v : Option Value) (h : Heap) (L : List Loc) : Prop := v = some (.int (own_compare u1 s1.toInt64 u2 s2.toInt64)) ∧ Fr n0 L ∧ h = h0
set_option maxRecDepth 65536 in
set_option maxHeartbeats 40000000 in
theorem rmX (l : Launch) (Z : State) (a0 : Array Value) (hw : ∀ d ∈ tables_1, d.before a0 Z = true) (ws : List Jvm.Cond) (a1 : Addr) (a2 : Addr) (u1 : Int64) (s1 : Int32) (u2 : Int64) (s2 : Int32) (pa : Addr) (pk : ClassId) (h0 : Heap) (n0 : Nat) (Z0 : n0 ≤ h0.size) (pr0 : Fld Z h0 a1 "com/example/lintel/lintel/Figure" "large" "Ljava/math/BigDecimal;" .null) (pr1 : Fld Z h0 a1 "com/example/lintel/lintel/Figure" "unscaled" "J" (.long u1)) (pr2 : Fld Z h0 a1 "com/example/lintel/lintel/Figure" "scale" "I" (.int s1)) (pr3 : Fld Z h0 a2 "com/example/lintel/lintel/Figure" "large" "Ljava/math/BigDecimal;" .null) (pr4 : Fld Z h0 a2 "com/example/lintel/lintel/Figure" "unscaled" "J" (.long u2)) (pr5 : Fld Z h0 a2 "com/example/lintel/lintel/Figure" "scale" "I" (.int s2)) (pr6 : Sta Z h0 "com/example/lintel/lintel/Figure" "POWERS_OF_TEN" "[J" (.ref pa)) (pr7 : Arv Z h0 pa pk .long (19 : Int32) [(.long (1 : Int64)), (.long (10 : Int64)), (.long (100 : Int64)), (.long (1000 : Int64)), (.long (10000 : Int64)), (.long (100000 : Int64)), (.long (1000000 : Int64)), (.long (10000000 : Int64)), (.long (100000000 : Int64)), (.long (1000000000 : Int64)), (.long (10000000000 : Int64)), (.long (100000000000 : Int64)), (.long (1000000000000 : Int64)), (.long (10000000000000 : Int64)), (.long (100000000000000 : Int64)), (.long (1000000000000000 : Int64)), (.long (10000000000000000 : Int64)), (.long (100000000000000000 : Int64)), (.long (1000000000000000000 : Int64))] (.long (0 : Int64))) (H8 : (s1.toInt64 < s2.toInt64 → s2.toInt64 - s1.toInt64 = 1) ∧ (¬ s1.toInt64 < s2.toInt64 → ¬ s1.toInt64 = s2.toInt64 → s1.toInt64 - s2.toInt64 = 1)) :
    MetFree l (⟨"com/example/lintel/lintel/Figure", "compareTo", "(Lcom/example/lintel/lintel/Figure;)I"⟩ : MethodName) (head1 (Jvm.Cond.code (⟨"com/example/lintel/lintel/Figure", "compareTo", "(Lcom/example/lintel/lintel/Figure;)I"⟩ : MethodName) prog_24_method_10_code 2 (some .int) :: ws) ({ frames := 3, cells := 0, slots := 0, locals := 100 } : Room)) (fun a U => a = #[(.ref a1), (.ref a2)] ∧ Z.Warmed39 U.vm ∧ U.heap = h0) (fun _ _ _ _ _ => True) (fun _ U o U' => ∃ v L, o = .returned v ∧ QX Z a1 a2 u1 s1 u2 s2 pa pk h0 n0 v U'.heap L ∧ FrameEnd U o U' L ({ frames := 3, cells := 0, slots := 0, locals := 100 } : Room).cells ({ frames := 3, cells := 0, slots := 0, locals := 100 } : Room).slots) := by
  refine MetFree.of_bodySF (plainFor_of_name pn_com_example_lintel_lintel_Figure) hisR ?_
  intro p e s m args below meth c s₁ Bd hml0 hP hK
  obtain ⟨rfl, hZ, hh⟩ := hP
  have hx := Bd.exec
  have hby := Bd.bytes
  have hml : c.maxLocals = 2 := hml0
  have hown : s.vm.findClass "com/example/lintel/lintel/Figure" = some m.cls := findClass_of_methodNamed Bd.named
  have hnm := (name_of_methodNamed Bd.named Bd.method).1
  have X0 : Stand p l e ({ frames := 3, cells := 0, slots := 0, locals := 100 } : Room) s m #[(.ref a1), (.ref a2)] below meth c s₁ [] 0 0 := Stand.of_body Bd
  have e0 : s₁.heap = h0 := by rw [← hh, Bd.state]; rfl
  have N0 := Fr.nil n0
  have pre0 : ∀ t, Steps p.tables e below (s₁.setTop (mkF m 0 #[.val (.ref a1), .val (.ref a2)] [])) t → Steps p.tables e below (s₁.setTop (entryFrame m #[(.ref a1), (.ref a2)] 2)) t := fun t k => castTop (efX m a1 a2) k
  have cn1 : ∀ t, Steps p.tables e below (s₁.setTop (mkF m 1 #[.val (.ref a1), .val (.ref a2)] [(.ref a1)])) t → Steps p.tables e below (s₁.setTop (entryFrame m #[(.ref a1), (.ref a2)] 2)) t := by
    intro t k
    refine pre0 t ?_
    refine o_aloadN X0.here hx (hb hby dX_0) rfl rfl ?_
    exact k
  obtain ⟨T2, X2, e2, st2⟩ := getF X0 hx hZ hown (host := "") (Or.inl (hw _ (List.mem_of_getElem? (i := 20) rfl))) Via.refl e0 pr0 (g := (mkF m 1 #[.val (.ref a1), .val (.ref a2)] [(.ref a1)])) rfl rfl (hb hby dX_1)
  have cn3 : ∀ t, Steps p.tables e below (T2.setTop (mkF m 4 #[.val (.ref a1), .val (.ref a2)] [.null])) t → Steps p.tables e below (s₁.setTop (entryFrame m #[(.ref a1), (.ref a2)] 2)) t := fun t k => cn1 t (st2 _ k)
  have cn4 : ∀ t, Steps p.tables e below (T2.setTop (mkF m 8 #[.val (.ref a1), .val (.ref a2)] [(.ref a2)])) t → Steps p.tables e below (s₁.setTop (entryFrame m #[(.ref a1), (.ref a2)] 2)) t := by
    intro t k
    refine cn3 t ?_
    refine o_ifnonnullNo X2.here hx (hb hby dX_4) ?_
    refine o_aloadN X2.here hx (hb hby dX_7) rfl rfl ?_
    exact k
  obtain ⟨T5, X5, e5, st5⟩ := getF X2 hx hZ hown (host := "") (Or.inl (hw _ (List.mem_of_getElem? (i := 20) rfl))) Via.refl e2 pr3 (g := (mkF m 8 #[.val (.ref a1), .val (.ref a2)] [(.ref a2)])) rfl rfl (hb hby dX_8)
  have cn6 : ∀ t, Steps p.tables e below (T5.setTop (mkF m 11 #[.val (.ref a1), .val (.ref a2)] [.null])) t → Steps p.tables e below (s₁.setTop (entryFrame m #[(.ref a1), (.ref a2)] 2)) t := fun t k => cn4 t (st5 _ k)
  have cn7 : ∀ t, Steps p.tables e below (T5.setTop (mkF m 27 #[.val (.ref a1), .val (.ref a2)] [(.ref a1)])) t → Steps p.tables e below (s₁.setTop (entryFrame m #[(.ref a1), (.ref a2)] 2)) t := by
    intro t k
    refine cn6 t ?_
    refine o_ifnullYes X5.here hx (pc' := 26) (hb hby dX_11) (by decide) (by decide) ?_
    refine o_aloadN X5.here hx (hb hby dX_26) rfl rfl ?_
    exact k
  obtain ⟨T8, X8, e8, st8⟩ := getF X5 hx hZ hown (host := "") (Or.inl (hw _ (List.mem_of_getElem? (i := 16) rfl))) Via.refl e5 pr1 (g := (mkF m 27 #[.val (.ref a1), .val (.ref a2)] [(.ref a1)])) rfl rfl (hb hby dX_27)
  have cn9 : ∀ t, Steps p.tables e below (T8.setTop (mkF m 30 #[.val (.ref a1), .val (.ref a2)] [(.long u1)])) t → Steps p.tables e below (s₁.setTop (entryFrame m #[(.ref a1), (.ref a2)] 2)) t := fun t k => cn7 t (st8 _ k)
  have cn10 : ∀ t, Steps p.tables e below (T8.setTop (mkF m 31 #[.val (.ref a1), .val (.ref a2)] [(.ref a1), (.long u1)])) t → Steps p.tables e below (s₁.setTop (entryFrame m #[(.ref a1), (.ref a2)] 2)) t := by
    intro t k
    refine cn9 t ?_
    refine o_aloadN X8.here hx (hb hby dX_30) rfl rfl ?_
    exact k
  obtain ⟨T11, X11, e11, st11⟩ := getF X8 hx hZ hown (host := "") (Or.inl (hw _ (List.mem_of_getElem? (i := 18) rfl))) Via.refl e8 pr2 (g := (mkF m 31 #[.val (.ref a1), .val (.ref a2)] [(.ref a1), (.long u1)])) rfl rfl (hb hby dX_31)
  have cn12 : ∀ t, Steps p.tables e below (T11.setTop (mkF m 34 #[.val (.ref a1), .val (.ref a2)] [(.int s1), (.long u1)])) t → Steps p.tables e below (s₁.setTop (entryFrame m #[(.ref a1), (.ref a2)] 2)) t := fun t k => cn10 t (st11 _ k)
  have cn13 : ∀ t, Steps p.tables e below (T11.setTop (mkF m 36 #[.val (.ref a1), .val (.ref a2)] [(.ref a2), (.long s1.toInt64), (.long u1)])) t → Steps p.tables e below (s₁.setTop (entryFrame m #[(.ref a1), (.ref a2)] 2)) t := by
    intro t k
    refine cn12 t ?_
    refine o_i2l X11.here hx (hb hby dX_34) ?_
    refine o_aloadN X11.here hx (hb hby dX_35) rfl rfl ?_
    exact k
  obtain ⟨T14, X14, e14, st14⟩ := getF X11 hx hZ hown (host := "") (Or.inl (hw _ (List.mem_of_getElem? (i := 16) rfl))) Via.refl e11 pr4 (g := (mkF m 36 #[.val (.ref a1), .val (.ref a2)] [(.ref a2), (.long s1.toInt64), (.long u1)])) rfl rfl (hb hby dX_36)
  have cn15 : ∀ t, Steps p.tables e below (T14.setTop (mkF m 39 #[.val (.ref a1), .val (.ref a2)] [(.long u2), (.long s1.toInt64), (.long u1)])) t → Steps p.tables e below (s₁.setTop (entryFrame m #[(.ref a1), (.ref a2)] 2)) t := fun t k => cn13 t (st14 _ k)
  have cn16 : ∀ t, Steps p.tables e below (T14.setTop (mkF m 40 #[.val (.ref a1), .val (.ref a2)] [(.ref a2), (.long u2), (.long s1.toInt64), (.long u1)])) t → Steps p.tables e below (s₁.setTop (entryFrame m #[(.ref a1), (.ref a2)] 2)) t := by
    intro t k
    refine cn15 t ?_
    refine o_aloadN X14.here hx (hb hby dX_39) rfl rfl ?_
    exact k
  obtain ⟨T17, X17, e17, st17⟩ := getF X14 hx hZ hown (host := "") (Or.inl (hw _ (List.mem_of_getElem? (i := 18) rfl))) Via.refl e14 pr5 (g := (mkF m 40 #[.val (.ref a1), .val (.ref a2)] [(.ref a2), (.long u2), (.long s1.toInt64), (.long u1)])) rfl rfl (hb hby dX_40)
  have cn18 : ∀ t, Steps p.tables e below (T17.setTop (mkF m 43 #[.val (.ref a1), .val (.ref a2)] [(.int s2), (.long u2), (.long s1.toInt64), (.long u1)])) t → Steps p.tables e below (s₁.setTop (entryFrame m #[(.ref a1), (.ref a2)] 2)) t := fun t k => cn16 t (st17 _ k)
  have cn19 : ∀ t, Steps p.tables e below (T17.setTop (mkF m 44 #[.val (.ref a1), .val (.ref a2)] [(.long s2.toInt64), (.long u2), (.long s1.toInt64), (.long u1)])) t → Steps p.tables e below (s₁.setTop (entryFrame m #[(.ref a1), (.ref a2)] 2)) t := by
    intro t k
    refine cn18 t ?_
    refine o_i2l X17.here hx (hb hby dX_43) ?_
    exact k
  obtain ⟨_, _, ⟨T20, L20, c20, n20⟩, -, X20, ⟨Lc20, hQ20, l20, y20, z20⟩, st20⟩ := Jvm.LawKit.callS X17 hx (y := (⟨"com/example/lintel/lintel/Figure", "compare", "(JJJJ)I"⟩ : MethodName)) hown (mvT hZ (hw _ (List.mem_of_getElem? (i := 51) rfl))) (mvT hZ (hw _ (List.mem_of_getElem? (i := 52) rfl))) (mvT hZ (hw _ (List.mem_of_getElem? (i := 2) rfl))) (mvT hZ (hw _ (List.mem_of_getElem? (i := 53) rfl))) (by decide) (backOf (W := 0) (rmK l Z a0 hw [] u1 s1.toInt64 u2 s2.toInt64 pa pk h0 n0 Z0 pr6 pr7 H8) hZ (hw _ (List.mem_of_getElem? (i := 53) rfl)) (hw _ (List.mem_of_getElem? (i := 2) rfl)) (by decide) (by decide)) (g := (mkF m 44 #[.val (.ref a1), .val (.ref a2)] [(.long s2.toInt64), (.long u2), (.long s1.toInt64), (.long u1)])) rfl (by rw [hml]; rfl) (argsL := [(.long u1), (.long s1.toInt64), (.long u2), (.long s2.toInt64)]) (rest := []) (lenOf pd_oJJJJcI rfl) rfl (by show 2 * 0 + _ ≤ _; exact Nat.le_of_eq rfl) (hb hby dX_44) (fun _ _ => ⟨rfl, e17, (by decide : 0 + 0 ≤ _), (by decide : 0 + 0 ≤ _)⟩)
  dsimp only [Pt.U, Pt.locs, Pt.cells, Pt.slots] at X20 l20 y20 z20 st20 hQ20
  subst l20 y20 z20
  obtain ⟨rfl, N20a, eh20⟩ := hQ20
  have N20 := Fr.app N0 N20a
  have e20 : T20.heap = h0 := eh20
  have cn21 : ∀ t, Steps p.tables e below (T20.setTop (mkF m 47 #[.val (.ref a1), .val (.ref a2)] [(.int (own_compare u1 s1.toInt64 u2 s2.toInt64))])) t → Steps p.tables e below (s₁.setTop (entryFrame m #[(.ref a1), (.ref a2)] 2)) t := fun t k => cn19 t (st20 _ k)
  obtain ⟨fs, hr, hrun, hended, hW, hsame⟩ := X20.leave (v := some (.int (own_compare u1 s1.toInt64 u2 s2.toInt64))) (fun h => by rw [Bd.returns] at h; cases h)
  refine ⟨_, _, cn21 _ ?_, hrun, hended, _, _, rfl, ?_, ⟨_, rfl⟩, hW, hsame.mono (by decide) (by decide)⟩
  · exact retI X20 hx Bd.returns (hb hby dX_47) hr
  · show QX Z a1 a2 u1 s1 u2 s2 pa pk h0 n0 _ T20.heap _
    rw [e20]
    exact ⟨rfl, N20, rfl⟩

theorem pd_ocV : parseMethodDescriptor "()V" = some ⟨[], none⟩ := by decide +kernel
theorem pd_oJIcV : parseMethodDescriptor "(JI)V" = some ⟨[.long, .int], none⟩ := by decide +kernel
theorem pd_ocZ : parseMethodDescriptor "()Z" = some ⟨[], some .boolean⟩ := by decide +kernel
theorem pd_ocI : parseMethodDescriptor "()I" = some ⟨[], some .int⟩ := by decide +kernel
theorem pd_oLcom_example_lintel_lintel_FigurescI : parseMethodDescriptor "(Lcom/example/lintel/lintel/Figure;)I" = some ⟨[(.object "com/example/lintel/lintel/Figure")], some .int⟩ := by decide +kernel
theorem ef0 (m : MethodId) (x0 : Int64) (x1 : Int32) (x2 : Int64) (x3 : Int64) (x4 : Int32) (x5 : Int32) : entryFrame m #[(.long x0), (.int x1), (.long x2), (.long x3), (.int x4), (.int x5)] maxLocals = (mkF m 0 #[.val (.long x0), .second, .val (.int x1), .val (.long x2), .second, .val (.long x3), .second, .val (.int x4), .val (.int x5), .unset, .unset, .unset, .unset] []) := by first | (simp [entryFrame, mkF, argsToLocals, Value.category, maxLocals]; done) | rfl
def Q0 (Z : State) (p1 : Int64) (p2 : Int32) (p3 : Int64) (p4 : Int64) (p5 : Int32) (p6 : Int32) (pa : Addr) (pk : ClassId) (h0 : Heap) (n0 : Nat) (v : Option Value) (h : Heap) (L : List Loc) : Prop := v = some (.int (1 : Int32)) ∧ Fr n0 L
set_option maxRecDepth 65536 in
set_option maxHeartbeats 40000000 in
theorem rm0 (l : Launch) (Z : State) (a0 : Array Value) (hw : ∀ d ∈ tables_1, d.before a0 Z = true) (ws : List Jvm.Cond) (p1 : Int64) (p2 : Int32) (p3 : Int64) (p4 : Int64) (p5 : Int32) (p6 : Int32) (pa : Addr) (pk : ClassId) (h0 : Heap) (n0 : Nat) (Z0 : n0 ≤ h0.size) (pr0 : Sta Z h0 "com/example/lintel/lintel/Figure" "POWERS_OF_TEN" "[J" (.ref pa)) (pr1 : Arv Z h0 pa pk .long (19 : Int32) [(.long (1 : Int64)), (.long (10 : Int64)), (.long (100 : Int64)), (.long (1000 : Int64)), (.long (10000 : Int64)), (.long (100000 : Int64)), (.long (1000000 : Int64)), (.long (10000000 : Int64)), (.long (100000000 : Int64)), (.long (1000000000 : Int64)), (.long (10000000000 : Int64)), (.long (100000000000 : Int64)), (.long (1000000000000 : Int64)), (.long (10000000000000 : Int64)), (.long (100000000000000 : Int64)), (.long (1000000000000000 : Int64)), (.long (10000000000000000 : Int64)), (.long (100000000000000000 : Int64)), (.long (1000000000000000000 : Int64))] (.long (0 : Int64))) (pr2 : Old Z n0 h0) (H3 : Sta Z Z.heap "com/example/lintel/lintel/Figure" "POWERS_OF_TEN" "[J" (.ref pa)) (H4 : pa < Z.heap.size) :
    MetFree l x (head1 (Jvm.Cond.code x code maxLocals ret :: ws) room_1) (fun a U => a = #[(.long p1), (.int p2), (.long p3), (.long p4), (.int p5), (.int p6)] ∧ Z.Warmed39 U.vm ∧ U.heap = h0) (fun _ _ _ _ _ => True) (fun _ U o U' => ∃ v L, o = .returned v ∧ Q0 Z p1 p2 p3 p4 p5 p6 pa pk h0 n0 v U'.heap L ∧ FrameEnd U o U' L room_1.cells room_1.slots) := by
  refine MetFree.of_bodySF (plainFor_of_name pn_com_example_lintel_lintel_FigureSetPinLaw) hisR ?_
  intro p e s m args below meth c s₁ Bd hml0 hP hK
  obtain ⟨rfl, hZ, hh⟩ := hP
  have hx := Bd.exec
  have hby := Bd.bytes
  have hml : c.maxLocals = 13 := hml0
  have hown : s.vm.findClass "com/example/lintel/lintel/FigureSetPinLaw" = some m.cls := findClass_of_methodNamed Bd.named
  have hnm := (name_of_methodNamed Bd.named Bd.method).1
  have X0 : Stand p l e room_1 s m #[(.long p1), (.int p2), (.long p3), (.long p4), (.int p5), (.int p6)] below meth c s₁ [] 0 0 := Stand.of_body Bd
  have e0 : s₁.heap = h0 := by rw [← hh, Bd.state]; rfl
  have N0 := Fr.nil n0
  have pre0 : ∀ t, Steps p.tables e below (s₁.setTop (mkF m 0 #[.val (.long p1), .second, .val (.int p2), .val (.long p3), .second, .val (.long p4), .second, .val (.int p5), .val (.int p6), .unset, .unset, .unset, .unset] [])) t → Steps p.tables e below (s₁.setTop (entryFrame m #[(.long p1), (.int p2), (.long p3), (.long p4), (.int p5), (.int p6)] maxLocals)) t := fun t k => castTop (ef0 m p1 p2 p3 p4 p5 p6) k
  obtain ⟨T1, h1, X1, e1, E1, A1, D1, -, st1⟩ := newO X0 hx hZ hown (hw _ (List.mem_of_getElem? (i := 0) rfl)) (hw _ (List.mem_of_getElem? (i := 1) rfl)) (hw _ (List.mem_of_getElem? (i := 2) rfl)) e0 (g := (mkF m 0 #[.val (.long p1), .second, .val (.int p2), .val (.long p3), .second, .val (.long p4), .second, .val (.int p5), .val (.int p6), .unset, .unset, .unset, .unset] [])) rfl (hb hby at_0) (by decide) (by decide)
  obtain ⟨a1, g1⟩ : ∃ z, z = h0.size := ⟨_, rfl⟩
  rw [← g1] at A1 D1 st1
  have Z1 : n0 ≤ h1.size := (Nat.le_trans Z0 E1.1)
  have G1 : n0 ≤ a1 := (Nat.le_trans Z0 (Nat.le_of_eq g1.symm))
  have ne1_pa : pa ≠ a1 := Nat.ne_of_lt (Nat.lt_of_lt_of_eq pr1.lt g1.symm)
  have S2 : Sta Z h1 "com/example/lintel/lintel/Figure" "POWERS_OF_TEN" "[J" (.ref pa) := (Sta.ext E1 pr0)
  have A3 : Arv Z h1 pa pk .long (19 : Int32) [(.long (1 : Int64)), (.long (10 : Int64)), (.long (100 : Int64)), (.long (1000 : Int64)), (.long (10000 : Int64)), (.long (100000 : Int64)), (.long (1000000 : Int64)), (.long (10000000 : Int64)), (.long (100000000 : Int64)), (.long (1000000000 : Int64)), (.long (10000000000 : Int64)), (.long (100000000000 : Int64)), (.long (1000000000000 : Int64)), (.long (10000000000000 : Int64)), (.long (100000000000000 : Int64)), (.long (1000000000000000 : Int64)), (.long (10000000000000000 : Int64)), (.long (100000000000000000 : Int64)), (.long (1000000000000000000 : Int64))] (.long (0 : Int64)) := (pr1.ext E1)
  have O4 : Old Z n0 h1 := (pr2.ext E1)
  have F5 : Fld Z h1 a1 "com/example/lintel/lintel/Figure" "given" "Z" (.int (0 : Int32)) := (D1 (Or.inl (hw _ (List.mem_of_getElem? (i := 15) rfl))) (ty := .boolean) (by decide))
  have F6 : Fld Z h1 a1 "com/example/lintel/lintel/Figure" "unscaled" "J" (.long (0 : Int64)) := (D1 (Or.inl (hw _ (List.mem_of_getElem? (i := 17) rfl))) (ty := .long) (by decide))
  have F7 : Fld Z h1 a1 "com/example/lintel/lintel/Figure" "scale" "I" (.int (0 : Int32)) := (D1 (Or.inl (hw _ (List.mem_of_getElem? (i := 19) rfl))) (ty := .int) (by decide))
  have F8 : Fld Z h1 a1 "com/example/lintel/lintel/Figure" "large" "Ljava/math/BigDecimal;" .null := (D1 (Or.inl (hw _ (List.mem_of_getElem? (i := 21) rfl))) (ty := (.object "java/math/BigDecimal")) (by decide))
  have cn9 : ∀ t, Steps p.tables e below (T1.setTop (mkF m 3 #[.val (.long p1), .second, .val (.int p2), .val (.long p3), .second, .val (.long p4), .second, .val (.int p5), .val (.int p6), .unset, .unset, .unset, .unset] [(.ref a1)])) t → Steps p.tables e below (s₁.setTop (entryFrame m #[(.long p1), (.int p2), (.long p3), (.long p4), (.int p5), (.int p6)] maxLocals)) t := fun t k => pre0 t (st1 _ k)
  have cn10 : ∀ t, Steps p.tables e below (T1.setTop (mkF m 4 #[.val (.long p1), .second, .val (.int p2), .val (.long p3), .second, .val (.long p4), .second, .val (.int p5), .val (.int p6), .unset, .unset, .unset, .unset] [(.ref a1), (.ref a1)])) t → Steps p.tables e below (s₁.setTop (entryFrame m #[(.long p1), (.int p2), (.long p3), (.long p4), (.int p5), (.int p6)] maxLocals)) t := by
    intro t k
    refine cn9 t ?_
    refine o_dup X1.here hx (hb hby at_3) rfl ?_
    exact k
  obtain ⟨_, _, ⟨T11, L11, c11, n11⟩, -, X11, ⟨Lc11, hQ11, l11, y11, z11⟩, st11⟩ := X1.specialBack hx (y := (⟨"com/example/lintel/lintel/Figure", "<init>", "()V"⟩ : MethodName)) rfl hown (mvT hZ (hw _ (List.mem_of_getElem? (i := 3) rfl))) (mvT hZ (hw _ (List.mem_of_getElem? (i := 4) rfl))) (mvT hZ (hw _ (List.mem_of_getElem? (i := 5) rfl))) (by decide) (backOf (W := 1) (rmI l Z a0 hw [] a1 h1 n0 Z1) hZ (hw _ (List.mem_of_getElem? (i := 5) rfl)) (hw _ (List.mem_of_getElem? (i := 2) rfl)) (by decide) (by decide)) (g := (mkF m 4 #[.val (.long p1), .second, .val (.int p2), .val (.long p3), .second, .val (.long p4), .second, .val (.int p5), .val (.int p6), .unset, .unset, .unset, .unset] [(.ref a1), (.ref a1)])) rfl (by rw [hml]; rfl) (Steps.refl _) (a := a1) (argsL := []) (rest := [(.ref a1)]) (lenOf pd_ocV rfl) rfl (by show 2 * 0 + _ ≤ _; exact Nat.le_of_eq rfl) (hb hby at_4) (fun _ _ => ⟨rfl, e1, (by decide : 1 + 0 ≤ _), (by decide : 4 + 0 ≤ _)⟩)
  dsimp only [Pt.U, Pt.locs, Pt.cells, Pt.slots] at X11 l11 y11 z11 st11 hQ11
  subst l11 y11 z11
  obtain ⟨rfl, N11a, eh11⟩ := hQ11
  have N11 := Fr.app N0 N11a
  have e11 : T11.heap = h1 := eh11
  have cn12 : ∀ t, Steps p.tables e below (T11.setTop (mkF m 7 #[.val (.long p1), .second, .val (.int p2), .val (.long p3), .second, .val (.long p4), .second, .val (.int p5), .val (.int p6), .unset, .unset, .unset, .unset] [(.ref a1)])) t → Steps p.tables e below (s₁.setTop (entryFrame m #[(.long p1), (.int p2), (.long p3), (.long p4), (.int p5), (.int p6)] maxLocals)) t := fun t k => cn10 t (st11.trans k)
  have cn13 : ∀ t, Steps p.tables e below (T11.setTop (mkF m 9 #[.val (.long p1), .second, .val (.int p2), .val (.long p3), .second, .val (.long p4), .second, .val (.int p5), .val (.int p6), .val (.ref a1), .unset, .unset, .unset] [])) t → Steps p.tables e below (s₁.setTop (entryFrame m #[(.long p1), (.int p2), (.long p3), (.long p4), (.int p5), (.int p6)] maxLocals)) t := by
    intro t k
    refine cn12 t ?_
    refine o_astore X11.here hx (hb hby at_7) rfl (l' := #[.val (.long p1), .second, .val (.int p2), .val (.long p3), .second, .val (.long p4), .second, .val (.int p5), .val (.int p6), .val (.ref a1), .unset, .unset, .unset]) rfl ?_
    exact k
  obtain ⟨T14, h14, X14, e14, E14, A14, D14, -, st14⟩ := newO X11 hx hZ hown (hw _ (List.mem_of_getElem? (i := 0) rfl)) (hw _ (List.mem_of_getElem? (i := 1) rfl)) (hw _ (List.mem_of_getElem? (i := 2) rfl)) e11 (g := (mkF m 9 #[.val (.long p1), .second, .val (.int p2), .val (.long p3), .second, .val (.long p4), .second, .val (.int p5), .val (.int p6), .val (.ref a1), .unset, .unset, .unset] [])) rfl (hb hby at_9) (by decide) (by decide)
  obtain ⟨a14, g14⟩ : ∃ z, z = h1.size := ⟨_, rfl⟩
  rw [← g14] at A14 D14 st14
  have Z14 : n0 ≤ h14.size := (Nat.le_trans Z1 E14.1)
  have G14 : n0 ≤ a14 := (Nat.le_trans Z1 (Nat.le_of_eq g14.symm))
  have ne14_pa : pa ≠ a14 := Nat.ne_of_lt (Nat.lt_of_lt_of_eq A3.lt g14.symm)
  have ne14_a1 : a1 ≠ a14 := Nat.ne_of_lt (Nat.lt_of_lt_of_eq A1.lt g14.symm)
  have S15 : Sta Z h14 "com/example/lintel/lintel/Figure" "POWERS_OF_TEN" "[J" (.ref pa) := (Sta.ext E14 S2)
  have A16 : Arv Z h14 pa pk .long (19 : Int32) [(.long (1 : Int64)), (.long (10 : Int64)), (.long (100 : Int64)), (.long (1000 : Int64)), (.long (10000 : Int64)), (.long (100000 : Int64)), (.long (1000000 : Int64)), (.long (10000000 : Int64)), (.long (100000000 : Int64)), (.long (1000000000 : Int64)), (.long (10000000000 : Int64)), (.long (100000000000 : Int64)), (.long (1000000000000 : Int64)), (.long (10000000000000 : Int64)), (.long (100000000000000 : Int64)), (.long (1000000000000000 : Int64)), (.long (10000000000000000 : Int64)), (.long (100000000000000000 : Int64)), (.long (1000000000000000000 : Int64))] (.long (0 : Int64)) := (A3.ext E14)
  have O17 : Old Z n0 h14 := (O4.ext E14)
  have E18 : Exa Z h14 a1 "com/example/lintel/lintel/Figure" := (Exa.ext E14 A1)
  have F19 : Fld Z h14 a1 "com/example/lintel/lintel/Figure" "given" "Z" (.int (0 : Int32)) := (Fld.ext E14 F5)
  have F20 : Fld Z h14 a1 "com/example/lintel/lintel/Figure" "unscaled" "J" (.long (0 : Int64)) := (Fld.ext E14 F6)
  have F21 : Fld Z h14 a1 "com/example/lintel/lintel/Figure" "scale" "I" (.int (0 : Int32)) := (Fld.ext E14 F7)
  have F22 : Fld Z h14 a1 "com/example/lintel/lintel/Figure" "large" "Ljava/math/BigDecimal;" .null := (Fld.ext E14 F8)
  have F23 : Fld Z h14 a14 "com/example/lintel/lintel/Figure" "given" "Z" (.int (0 : Int32)) := (D14 (Or.inl (hw _ (List.mem_of_getElem? (i := 15) rfl))) (ty := .boolean) (by decide))
  have F24 : Fld Z h14 a14 "com/example/lintel/lintel/Figure" "unscaled" "J" (.long (0 : Int64)) := (D14 (Or.inl (hw _ (List.mem_of_getElem? (i := 17) rfl))) (ty := .long) (by decide))
  have F25 : Fld Z h14 a14 "com/example/lintel/lintel/Figure" "scale" "I" (.int (0 : Int32)) := (D14 (Or.inl (hw _ (List.mem_of_getElem? (i := 19) rfl))) (ty := .int) (by decide))
  have F26 : Fld Z h14 a14 "com/example/lintel/lintel/Figure" "large" "Ljava/math/BigDecimal;" .null := (D14 (Or.inl (hw _ (List.mem_of_getElem? (i := 21) rfl))) (ty := (.object "java/math/BigDecimal")) (by decide))
  have cn27 : ∀ t, Steps p.tables e below (T14.setTop (mkF m 12 #[.val (.long p1), .second, .val (.int p2), .val (.long p3), .second, .val (.long p4), .second, .val (.int p5), .val (.int p6), .val (.ref a1), .unset, .unset, .unset] [(.ref a14)])) t → Steps p.tables e below (s₁.setTop (entryFrame m #[(.long p1), (.int p2), (.long p3), (.long p4), (.int p5), (.int p6)] maxLocals)) t := fun t k => cn13 t (st14 _ k)
  have cn28 : ∀ t, Steps p.tables e below (T14.setTop (mkF m 13 #[.val (.long p1), .second, .val (.int p2), .val (.long p3), .second, .val (.long p4), .second, .val (.int p5), .val (.int p6), .val (.ref a1), .unset, .unset, .unset] [(.ref a14), (.ref a14)])) t → Steps p.tables e below (s₁.setTop (entryFrame m #[(.long p1), (.int p2), (.long p3), (.long p4), (.int p5), (.int p6)] maxLocals)) t := by
    intro t k
    refine cn27 t ?_
    refine o_dup X14.here hx (hb hby at_12) rfl ?_
    exact k
  obtain ⟨_, _, ⟨T29, L29, c29, n29⟩, -, X29, ⟨Lc29, hQ29, l29, y29, z29⟩, st29⟩ := X14.specialBack hx (y := (⟨"com/example/lintel/lintel/Figure", "<init>", "()V"⟩ : MethodName)) rfl hown (mvT hZ (hw _ (List.mem_of_getElem? (i := 3) rfl))) (mvT hZ (hw _ (List.mem_of_getElem? (i := 4) rfl))) (mvT hZ (hw _ (List.mem_of_getElem? (i := 5) rfl))) (by decide) (backOf (W := 1) (rmI l Z a0 hw [] a14 h14 n0 Z14) hZ (hw _ (List.mem_of_getElem? (i := 5) rfl)) (hw _ (List.mem_of_getElem? (i := 2) rfl)) (by decide) (by decide)) (g := (mkF m 13 #[.val (.long p1), .second, .val (.int p2), .val (.long p3), .second, .val (.long p4), .second, .val (.int p5), .val (.int p6), .val (.ref a1), .unset, .unset, .unset] [(.ref a14), (.ref a14)])) rfl (by rw [hml]; rfl) (Steps.refl _) (a := a14) (argsL := []) (rest := [(.ref a14)]) (lenOf pd_ocV rfl) rfl (by show 2 * 0 + _ ≤ _; exact Nat.le_of_eq rfl) (hb hby at_13) (fun _ _ => ⟨rfl, e14, (by decide : 2 + 0 ≤ _), (by decide : 8 + 0 ≤ _)⟩)
  dsimp only [Pt.U, Pt.locs, Pt.cells, Pt.slots] at X29 l29 y29 z29 st29 hQ29
  subst l29 y29 z29
  obtain ⟨rfl, N29a, eh29⟩ := hQ29
  have N29 := Fr.app N11 N29a
  have e29 : T29.heap = h14 := eh29
  have cn30 : ∀ t, Steps p.tables e below (T29.setTop (mkF m 16 #[.val (.long p1), .second, .val (.int p2), .val (.long p3), .second, .val (.long p4), .second, .val (.int p5), .val (.int p6), .val (.ref a1), .unset, .unset, .unset] [(.ref a14)])) t → Steps p.tables e below (s₁.setTop (entryFrame m #[(.long p1), (.int p2), (.long p3), (.long p4), (.int p5), (.int p6)] maxLocals)) t := fun t k => cn28 t (st29.trans k)
  have cn31 : ∀ t, Steps p.tables e below (T29.setTop (mkF m 18 #[.val (.long p1), .second, .val (.int p2), .val (.long p3), .second, .val (.long p4), .second, .val (.int p5), .val (.int p6), .val (.ref a1), .val (.ref a14), .unset, .unset] [])) t → Steps p.tables e below (s₁.setTop (entryFrame m #[(.long p1), (.int p2), (.long p3), (.long p4), (.int p5), (.int p6)] maxLocals)) t := by
    intro t k
    refine cn30 t ?_
    refine o_astore X29.here hx (hb hby at_16) rfl (l' := #[.val (.long p1), .second, .val (.int p2), .val (.long p3), .second, .val (.long p4), .second, .val (.int p5), .val (.int p6), .val (.ref a1), .val (.ref a14), .unset, .unset]) rfl ?_
    exact k
  obtain ⟨T32, h32, X32, e32, E32, A32, D32, -, st32⟩ := newO X29 hx hZ hown (hw _ (List.mem_of_getElem? (i := 0) rfl)) (hw _ (List.mem_of_getElem? (i := 1) rfl)) (hw _ (List.mem_of_getElem? (i := 2) rfl)) e29 (g := (mkF m 18 #[.val (.long p1), .second, .val (.int p2), .val (.long p3), .second, .val (.long p4), .second, .val (.int p5), .val (.int p6), .val (.ref a1), .val (.ref a14), .unset, .unset] [])) rfl (hb hby at_18) (by decide) (by decide)
  obtain ⟨a32, g32⟩ : ∃ z, z = h14.size := ⟨_, rfl⟩
  rw [← g32] at A32 D32 st32
  have Z32 : n0 ≤ h32.size := (Nat.le_trans Z14 E32.1)
  have G32 : n0 ≤ a32 := (Nat.le_trans Z14 (Nat.le_of_eq g32.symm))
  have ne32_pa : pa ≠ a32 := Nat.ne_of_lt (Nat.lt_of_lt_of_eq A16.lt g32.symm)
  have ne32_a1 : a1 ≠ a32 := Nat.ne_of_lt (Nat.lt_of_lt_of_eq E18.lt g32.symm)
  have ne32_a14 : a14 ≠ a32 := Nat.ne_of_lt (Nat.lt_of_lt_of_eq A14.lt g32.symm)
  have S33 : Sta Z h32 "com/example/lintel/lintel/Figure" "POWERS_OF_TEN" "[J" (.ref pa) := (Sta.ext E32 S15)
  have A34 : Arv Z h32 pa pk .long (19 : Int32) [(.long (1 : Int64)), (.long (10 : Int64)), (.long (100 : Int64)), (.long (1000 : Int64)), (.long (10000 : Int64)), (.long (100000 : Int64)), (.long (1000000 : Int64)), (.long (10000000 : Int64)), (.long (100000000 : Int64)), (.long (1000000000 : Int64)), (.long (10000000000 : Int64)), (.long (100000000000 : Int64)), (.long (1000000000000 : Int64)), (.long (10000000000000 : Int64)), (.long (100000000000000 : Int64)), (.long (1000000000000000 : Int64)), (.long (10000000000000000 : Int64)), (.long (100000000000000000 : Int64)), (.long (1000000000000000000 : Int64))] (.long (0 : Int64)) := (A16.ext E32)
  have O35 : Old Z n0 h32 := (O17.ext E32)
  have E36 : Exa Z h32 a1 "com/example/lintel/lintel/Figure" := (Exa.ext E32 E18)
  have F37 : Fld Z h32 a1 "com/example/lintel/lintel/Figure" "given" "Z" (.int (0 : Int32)) := (Fld.ext E32 F19)
  have F38 : Fld Z h32 a1 "com/example/lintel/lintel/Figure" "unscaled" "J" (.long (0 : Int64)) := (Fld.ext E32 F20)
  have F39 : Fld Z h32 a1 "com/example/lintel/lintel/Figure" "scale" "I" (.int (0 : Int32)) := (Fld.ext E32 F21)
  have F40 : Fld Z h32 a1 "com/example/lintel/lintel/Figure" "large" "Ljava/math/BigDecimal;" .null := (Fld.ext E32 F22)
  have E41 : Exa Z h32 a14 "com/example/lintel/lintel/Figure" := (Exa.ext E32 A14)
  have F42 : Fld Z h32 a14 "com/example/lintel/lintel/Figure" "given" "Z" (.int (0 : Int32)) := (Fld.ext E32 F23)
  have F43 : Fld Z h32 a14 "com/example/lintel/lintel/Figure" "unscaled" "J" (.long (0 : Int64)) := (Fld.ext E32 F24)
  have F44 : Fld Z h32 a14 "com/example/lintel/lintel/Figure" "scale" "I" (.int (0 : Int32)) := (Fld.ext E32 F25)
  have F45 : Fld Z h32 a14 "com/example/lintel/lintel/Figure" "large" "Ljava/math/BigDecimal;" .null := (Fld.ext E32 F26)
  have F46 : Fld Z h32 a32 "com/example/lintel/lintel/Figure" "given" "Z" (.int (0 : Int32)) := (D32 (Or.inl (hw _ (List.mem_of_getElem? (i := 15) rfl))) (ty := .boolean) (by decide))
  have F47 : Fld Z h32 a32 "com/example/lintel/lintel/Figure" "unscaled" "J" (.long (0 : Int64)) := (D32 (Or.inl (hw _ (List.mem_of_getElem? (i := 17) rfl))) (ty := .long) (by decide))
  have F48 : Fld Z h32 a32 "com/example/lintel/lintel/Figure" "scale" "I" (.int (0 : Int32)) := (D32 (Or.inl (hw _ (List.mem_of_getElem? (i := 19) rfl))) (ty := .int) (by decide))
  have F49 : Fld Z h32 a32 "com/example/lintel/lintel/Figure" "large" "Ljava/math/BigDecimal;" .null := (D32 (Or.inl (hw _ (List.mem_of_getElem? (i := 21) rfl))) (ty := (.object "java/math/BigDecimal")) (by decide))
  have cn50 : ∀ t, Steps p.tables e below (T32.setTop (mkF m 21 #[.val (.long p1), .second, .val (.int p2), .val (.long p3), .second, .val (.long p4), .second, .val (.int p5), .val (.int p6), .val (.ref a1), .val (.ref a14), .unset, .unset] [(.ref a32)])) t → Steps p.tables e below (s₁.setTop (entryFrame m #[(.long p1), (.int p2), (.long p3), (.long p4), (.int p5), (.int p6)] maxLocals)) t := fun t k => cn31 t (st32 _ k)
  have cn51 : ∀ t, Steps p.tables e below (T32.setTop (mkF m 22 #[.val (.long p1), .second, .val (.int p2), .val (.long p3), .second, .val (.long p4), .second, .val (.int p5), .val (.int p6), .val (.ref a1), .val (.ref a14), .unset, .unset] [(.ref a32), (.ref a32)])) t → Steps p.tables e below (s₁.setTop (entryFrame m #[(.long p1), (.int p2), (.long p3), (.long p4), (.int p5), (.int p6)] maxLocals)) t := by
    intro t k
    refine cn50 t ?_
    refine o_dup X32.here hx (hb hby at_21) rfl ?_
    exact k
  obtain ⟨_, _, ⟨T52, L52, c52, n52⟩, -, X52, ⟨Lc52, hQ52, l52, y52, z52⟩, st52⟩ := X32.specialBack hx (y := (⟨"com/example/lintel/lintel/Figure", "<init>", "()V"⟩ : MethodName)) rfl hown (mvT hZ (hw _ (List.mem_of_getElem? (i := 3) rfl))) (mvT hZ (hw _ (List.mem_of_getElem? (i := 4) rfl))) (mvT hZ (hw _ (List.mem_of_getElem? (i := 5) rfl))) (by decide) (backOf (W := 1) (rmI l Z a0 hw [] a32 h32 n0 Z32) hZ (hw _ (List.mem_of_getElem? (i := 5) rfl)) (hw _ (List.mem_of_getElem? (i := 2) rfl)) (by decide) (by decide)) (g := (mkF m 22 #[.val (.long p1), .second, .val (.int p2), .val (.long p3), .second, .val (.long p4), .second, .val (.int p5), .val (.int p6), .val (.ref a1), .val (.ref a14), .unset, .unset] [(.ref a32), (.ref a32)])) rfl (by rw [hml]; rfl) (Steps.refl _) (a := a32) (argsL := []) (rest := [(.ref a32)]) (lenOf pd_ocV rfl) rfl (by show 2 * 0 + _ ≤ _; exact Nat.le_of_eq rfl) (hb hby at_22) (fun _ _ => ⟨rfl, e32, (by decide : 3 + 0 ≤ _), (by decide : 12 + 0 ≤ _)⟩)
  dsimp only [Pt.U, Pt.locs, Pt.cells, Pt.slots] at X52 l52 y52 z52 st52 hQ52
  subst l52 y52 z52
  obtain ⟨rfl, N52a, eh52⟩ := hQ52
  have N52 := Fr.app N29 N52a
  have e52 : T52.heap = h32 := eh52
  have cn53 : ∀ t, Steps p.tables e below (T52.setTop (mkF m 25 #[.val (.long p1), .second, .val (.int p2), .val (.long p3), .second, .val (.long p4), .second, .val (.int p5), .val (.int p6), .val (.ref a1), .val (.ref a14), .unset, .unset] [(.ref a32)])) t → Steps p.tables e below (s₁.setTop (entryFrame m #[(.long p1), (.int p2), (.long p3), (.long p4), (.int p5), (.int p6)] maxLocals)) t := fun t k => cn51 t (st52.trans k)
  have cn54 : ∀ t, Steps p.tables e below (T52.setTop (mkF m 33 #[.val (.long p1), .second, .val (.int p2), .val (.long p3), .second, .val (.long p4), .second, .val (.int p5), .val (.int p6), .val (.ref a1), .val (.ref a14), .val (.ref a32), .unset] [(.int p5), (.long p4), (.ref a1)])) t → Steps p.tables e below (s₁.setTop (entryFrame m #[(.long p1), (.int p2), (.long p3), (.long p4), (.int p5), (.int p6)] maxLocals)) t := by
    intro t k
    refine cn53 t ?_
    refine o_astore X52.here hx (hb hby at_25) rfl (l' := #[.val (.long p1), .second, .val (.int p2), .val (.long p3), .second, .val (.long p4), .second, .val (.int p5), .val (.int p6), .val (.ref a1), .val (.ref a14), .val (.ref a32), .unset]) rfl ?_
    refine o_aload X52.here hx (hb hby at_27) rfl rfl ?_
    refine o_lload X52.here hx (hb hby at_29) rfl ?_
    refine o_iload X52.here hx (hb hby at_31) rfl ?_
    exact k
  obtain ⟨cq55, kq55, q55a, q55b, q55c⟩ := isOf hZ e52 E36
  obtain ⟨_, _, ⟨T55, L55, c55, n55⟩, -, X55, ⟨Lc55, hQ55, l55, y55, z55⟩, st55⟩ := X52.virtualBack hx (y := (⟨"com/example/lintel/lintel/Figure", "set", "(JI)V"⟩ : MethodName)) (z := (⟨"com/example/lintel/lintel/Figure", "set", "(JI)V"⟩ : MethodName)) hown (mvT hZ (hw _ (List.mem_of_getElem? (i := 9) rfl))) (mvT hZ (hw _ (List.mem_of_getElem? (i := 10) rfl))) (notFace_of_selects (args := #[]) (mvT hZ (hw _ (List.mem_of_getElem? (i := 12) rfl)))) (mvT hZ (hw _ (List.mem_of_getElem? (i := 12) rfl))) (mvT hZ (hw _ (List.mem_of_getElem? (i := 11) rfl))) (by decide) (backOf (W := 0) (rmS l Z a0 hw [] a1 p4 p5 (0 : Int32) (0 : Int64) (0 : Int32) h32 n0 Z32 E36 G1 F37 F38 F39 F40) hZ (hw _ (List.mem_of_getElem? (i := 13) rfl)) (hw _ (List.mem_of_getElem? (i := 2) rfl)) (by decide) (by decide)) q55a q55c (g := (mkF m 33 #[.val (.long p1), .second, .val (.int p2), .val (.long p3), .second, .val (.long p4), .second, .val (.int p5), .val (.int p6), .val (.ref a1), .val (.ref a14), .val (.ref a32), .unset] [(.int p5), (.long p4), (.ref a1)])) rfl (by rw [hml]; rfl) (Steps.refl _) (argsL := [(.long p4), (.int p5)]) (rest := []) (lenOf pd_oJIcV rfl) rfl (by show 2 * 0 + _ ≤ _; exact Nat.le_of_eq rfl) (hb hby at_33) (fun _ _ => ⟨rfl, e52, (by decide : 3 + 0 ≤ _), (by decide : 12 + 0 ≤ _)⟩)
  dsimp only [Pt.U, Pt.locs, Pt.cells, Pt.slots] at X55 l55 y55 z55 st55 hQ55
  subst l55 y55 z55
  obtain ⟨rfl, N55a, K55, Q55_0, Q55_1, Q55_2, Q55_3, Q55_4⟩ := hQ55
  have N55 := Fr.app N52 N55a
  have e55 : T55.heap = T55.heap := rfl
  have Z55 : n0 ≤ T55.heap.size := (Nat.le_trans Z32 K55.1)
  have O56 : Old Z n0 T55.heap := (O35.keep K55 (allS G1 all0))
  have S57 : Sta Z T55.heap "com/example/lintel/lintel/Figure" "POWERS_OF_TEN" "[J" (.ref pa) := (Sta.ext O56.2 H3)
  have A58 : Arv Z T55.heap pa pk .long (19 : Int32) [(.long (1 : Int64)), (.long (10 : Int64)), (.long (100 : Int64)), (.long (1000 : Int64)), (.long (10000 : Int64)), (.long (100000 : Int64)), (.long (1000000 : Int64)), (.long (10000000 : Int64)), (.long (100000000 : Int64)), (.long (1000000000 : Int64)), (.long (10000000000 : Int64)), (.long (100000000000 : Int64)), (.long (1000000000000 : Int64)), (.long (10000000000000 : Int64)), (.long (100000000000000 : Int64)), (.long (1000000000000000 : Int64)), (.long (10000000000000000 : Int64)), (.long (100000000000000000 : Int64)), (.long (1000000000000000000 : Int64))] (.long (0 : Int64)) := (A34.keep K55 (ninS ne1_pa nin0))
  have E59 : Exa Z T55.heap a1 "com/example/lintel/lintel/Figure" := (E36.keep K55)
  have E60 : Exa Z T55.heap a14 "com/example/lintel/lintel/Figure" := (E41.keep K55)
  have F61 : Fld Z T55.heap a14 "com/example/lintel/lintel/Figure" "given" "Z" (.int (0 : Int32)) := (F42.keep K55 (ninS (Ne.symm ne14_a1) nin0))
  have F62 : Fld Z T55.heap a14 "com/example/lintel/lintel/Figure" "unscaled" "J" (.long (0 : Int64)) := (F43.keep K55 (ninS (Ne.symm ne14_a1) nin0))
  have F63 : Fld Z T55.heap a14 "com/example/lintel/lintel/Figure" "scale" "I" (.int (0 : Int32)) := (F44.keep K55 (ninS (Ne.symm ne14_a1) nin0))
  have F64 : Fld Z T55.heap a14 "com/example/lintel/lintel/Figure" "large" "Ljava/math/BigDecimal;" .null := (F45.keep K55 (ninS (Ne.symm ne14_a1) nin0))
  have E65 : Exa Z T55.heap a32 "com/example/lintel/lintel/Figure" := (A32.keep K55)
  have F66 : Fld Z T55.heap a32 "com/example/lintel/lintel/Figure" "given" "Z" (.int (0 : Int32)) := (F46.keep K55 (ninS (Ne.symm ne32_a1) nin0))
  have F67 : Fld Z T55.heap a32 "com/example/lintel/lintel/Figure" "unscaled" "J" (.long (0 : Int64)) := (F47.keep K55 (ninS (Ne.symm ne32_a1) nin0))
  have F68 : Fld Z T55.heap a32 "com/example/lintel/lintel/Figure" "scale" "I" (.int (0 : Int32)) := (F48.keep K55 (ninS (Ne.symm ne32_a1) nin0))
  have F69 : Fld Z T55.heap a32 "com/example/lintel/lintel/Figure" "large" "Ljava/math/BigDecimal;" .null := (F49.keep K55 (ninS (Ne.symm ne32_a1) nin0))
  have cn70 : ∀ t, Steps p.tables e below (T55.setTop (mkF m 36 #[.val (.long p1), .second, .val (.int p2), .val (.long p3), .second, .val (.long p4), .second, .val (.int p5), .val (.int p6), .val (.ref a1), .val (.ref a14), .val (.ref a32), .unset] [])) t → Steps p.tables e below (s₁.setTop (entryFrame m #[(.long p1), (.int p2), (.long p3), (.long p4), (.int p5), (.int p6)] maxLocals)) t := fun t k => cn54 t (st55.trans k)
  have cn71 : ∀ t, Steps p.tables e below (T55.setTop (mkF m 40 #[.val (.long p1), .second, .val (.int p2), .val (.long p3), .second, .val (.long p4), .second, .val (.int p5), .val (.int p6), .val (.ref a1), .val (.ref a14), .val (.ref a32), .unset] [(.int (p6 &&& (1 : Int32)))])) t → Steps p.tables e below (s₁.setTop (entryFrame m #[(.long p1), (.int p2), (.long p3), (.long p4), (.int p5), (.int p6)] maxLocals)) t := by
    intro t k
    refine cn70 t ?_
    refine o_iload X55.here hx (hb hby at_36) rfl ?_
    refine o_iconstV X55.here hx (1 : Int32) (hb hby at_38) rfl ?_
    refine o_iand X55.here hx (hb hby at_39) ?_
    exact k
  by_cases h40_72 : p6 &&& (1 : Int32) = 0
  · -- pc 40 taken
    have cn73 : ∀ t, Steps p.tables e below (T55.setTop (mkF m 52 #[.val (.long p1), .second, .val (.int p2), .val (.long p3), .second, .val (.long p4), .second, .val (.int p5), .val (.int p6), .val (.ref a1), .val (.ref a14), .val (.ref a32), .unset] [(.int p2), (.long p1), (.ref a1)])) t → Steps p.tables e below (s₁.setTop (entryFrame m #[(.long p1), (.int p2), (.long p3), (.long p4), (.int p5), (.int p6)] maxLocals)) t := by
      intro t k
      refine cn71 t ?_
      refine o_ifYes X55.here hx (pc' := 48) (hb hby at_40) (XT.i0_eq_t h40_72) (by decide) (by decide) ?_
      refine o_aload X55.here hx (hb hby at_48) rfl rfl ?_
      refine o_lloadN X55.here hx (hb hby at_50) rfl ?_
      refine o_iloadN X55.here hx (hb hby at_51) rfl ?_
      exact k
    obtain ⟨cq74, kq74, q74a, q74b, q74c⟩ := isOf hZ e55 Q55_0
    obtain ⟨_, _, ⟨T74, L74, c74, n74⟩, -, X74, ⟨Lc74, hQ74, l74, y74, z74⟩, st74⟩ := X55.virtualBack hx (y := (⟨"com/example/lintel/lintel/Figure", "set", "(JI)V"⟩ : MethodName)) (z := (⟨"com/example/lintel/lintel/Figure", "set", "(JI)V"⟩ : MethodName)) hown (mvT hZ (hw _ (List.mem_of_getElem? (i := 9) rfl))) (mvT hZ (hw _ (List.mem_of_getElem? (i := 10) rfl))) (notFace_of_selects (args := #[]) (mvT hZ (hw _ (List.mem_of_getElem? (i := 12) rfl)))) (mvT hZ (hw _ (List.mem_of_getElem? (i := 12) rfl))) (mvT hZ (hw _ (List.mem_of_getElem? (i := 11) rfl))) (by decide) (backOf (W := 0) (rmS l Z a0 hw [] a1 p1 p2 (1 : Int32) p4 p5 T55.heap n0 Z55 Q55_0 G1 Q55_1 Q55_2 Q55_3 Q55_4) hZ (hw _ (List.mem_of_getElem? (i := 13) rfl)) (hw _ (List.mem_of_getElem? (i := 2) rfl)) (by decide) (by decide)) q74a q74c (g := (mkF m 52 #[.val (.long p1), .second, .val (.int p2), .val (.long p3), .second, .val (.long p4), .second, .val (.int p5), .val (.int p6), .val (.ref a1), .val (.ref a14), .val (.ref a32), .unset] [(.int p2), (.long p1), (.ref a1)])) rfl (by rw [hml]; rfl) (Steps.refl _) (argsL := [(.long p1), (.int p2)]) (rest := []) (lenOf pd_oJIcV rfl) rfl (by show 2 * 0 + _ ≤ _; exact Nat.le_of_eq rfl) (hb hby at_52) (fun _ _ => ⟨rfl, e55, (by decide : 3 + 0 ≤ _), (by decide : 12 + 0 ≤ _)⟩)
    dsimp only [Pt.U, Pt.locs, Pt.cells, Pt.slots] at X74 l74 y74 z74 st74 hQ74
    subst l74 y74 z74
    obtain ⟨rfl, N74a, K74, Q74_0, Q74_1, Q74_2, Q74_3, Q74_4⟩ := hQ74
    have N74 := Fr.app N55 N74a
    have e74 : T74.heap = T74.heap := rfl
    have Z74 : n0 ≤ T74.heap.size := (Nat.le_trans Z55 K74.1)
    have O75 : Old Z n0 T74.heap := (O56.keep K74 (allS G1 all0))
    have S76 : Sta Z T74.heap "com/example/lintel/lintel/Figure" "POWERS_OF_TEN" "[J" (.ref pa) := (Sta.ext O75.2 H3)
    have A77 : Arv Z T74.heap pa pk .long (19 : Int32) [(.long (1 : Int64)), (.long (10 : Int64)), (.long (100 : Int64)), (.long (1000 : Int64)), (.long (10000 : Int64)), (.long (100000 : Int64)), (.long (1000000 : Int64)), (.long (10000000 : Int64)), (.long (100000000 : Int64)), (.long (1000000000 : Int64)), (.long (10000000000 : Int64)), (.long (100000000000 : Int64)), (.long (1000000000000 : Int64)), (.long (10000000000000 : Int64)), (.long (100000000000000 : Int64)), (.long (1000000000000000 : Int64)), (.long (10000000000000000 : Int64)), (.long (100000000000000000 : Int64)), (.long (1000000000000000000 : Int64))] (.long (0 : Int64)) := (A58.keep K74 (ninS ne1_pa nin0))
    have E78 : Exa Z T74.heap a1 "com/example/lintel/lintel/Figure" := (E59.keep K74)
    have E79 : Exa Z T74.heap a14 "com/example/lintel/lintel/Figure" := (E60.keep K74)
    have F80 : Fld Z T74.heap a14 "com/example/lintel/lintel/Figure" "given" "Z" (.int (0 : Int32)) := (F61.keep K74 (ninS (Ne.symm ne14_a1) nin0))
    have F81 : Fld Z T74.heap a14 "com/example/lintel/lintel/Figure" "unscaled" "J" (.long (0 : Int64)) := (F62.keep K74 (ninS (Ne.symm ne14_a1) nin0))
    have F82 : Fld Z T74.heap a14 "com/example/lintel/lintel/Figure" "scale" "I" (.int (0 : Int32)) := (F63.keep K74 (ninS (Ne.symm ne14_a1) nin0))
    have F83 : Fld Z T74.heap a14 "com/example/lintel/lintel/Figure" "large" "Ljava/math/BigDecimal;" .null := (F64.keep K74 (ninS (Ne.symm ne14_a1) nin0))
    have E84 : Exa Z T74.heap a32 "com/example/lintel/lintel/Figure" := (E65.keep K74)
    have F85 : Fld Z T74.heap a32 "com/example/lintel/lintel/Figure" "given" "Z" (.int (0 : Int32)) := (F66.keep K74 (ninS (Ne.symm ne32_a1) nin0))
    have F86 : Fld Z T74.heap a32 "com/example/lintel/lintel/Figure" "unscaled" "J" (.long (0 : Int64)) := (F67.keep K74 (ninS (Ne.symm ne32_a1) nin0))
    have F87 : Fld Z T74.heap a32 "com/example/lintel/lintel/Figure" "scale" "I" (.int (0 : Int32)) := (F68.keep K74 (ninS (Ne.symm ne32_a1) nin0))
    have F88 : Fld Z T74.heap a32 "com/example/lintel/lintel/Figure" "large" "Ljava/math/BigDecimal;" .null := (F69.keep K74 (ninS (Ne.symm ne32_a1) nin0))
    have E89 : Exa Z T74.heap a1 "com/example/lintel/lintel/Figure" := (Q55_0.keep K74)
    have cn90 : ∀ t, Steps p.tables e below (T74.setTop (mkF m 55 #[.val (.long p1), .second, .val (.int p2), .val (.long p3), .second, .val (.long p4), .second, .val (.int p5), .val (.int p6), .val (.ref a1), .val (.ref a14), .val (.ref a32), .unset] [])) t → Steps p.tables e below (s₁.setTop (entryFrame m #[(.long p1), (.int p2), (.long p3), (.long p4), (.int p5), (.int p6)] maxLocals)) t := fun t k => cn73 t (st74.trans k)
    have cn91 : ∀ t, Steps p.tables e below (T74.setTop (mkF m 59 #[.val (.long p1), .second, .val (.int p2), .val (.long p3), .second, .val (.long p4), .second, .val (.int p5), .val (.int p6), .val (.ref a1), .val (.ref a14), .val (.ref a32), .unset] [(.int p2), (.long p3), (.ref a14)])) t → Steps p.tables e below (s₁.setTop (entryFrame m #[(.long p1), (.int p2), (.long p3), (.long p4), (.int p5), (.int p6)] maxLocals)) t := by
      intro t k
      refine cn90 t ?_
      refine o_aload X74.here hx (hb hby at_55) rfl rfl ?_
      refine o_lloadN X74.here hx (hb hby at_57) rfl ?_
      refine o_iloadN X74.here hx (hb hby at_58) rfl ?_
      exact k
    obtain ⟨cq92, kq92, q92a, q92b, q92c⟩ := isOf hZ e74 E79
    obtain ⟨_, _, ⟨T92, L92, c92, n92⟩, -, X92, ⟨Lc92, hQ92, l92, y92, z92⟩, st92⟩ := X74.virtualBack hx (y := (⟨"com/example/lintel/lintel/Figure", "set", "(JI)V"⟩ : MethodName)) (z := (⟨"com/example/lintel/lintel/Figure", "set", "(JI)V"⟩ : MethodName)) hown (mvT hZ (hw _ (List.mem_of_getElem? (i := 9) rfl))) (mvT hZ (hw _ (List.mem_of_getElem? (i := 10) rfl))) (notFace_of_selects (args := #[]) (mvT hZ (hw _ (List.mem_of_getElem? (i := 12) rfl)))) (mvT hZ (hw _ (List.mem_of_getElem? (i := 12) rfl))) (mvT hZ (hw _ (List.mem_of_getElem? (i := 11) rfl))) (by decide) (backOf (W := 0) (rmS l Z a0 hw [] a14 p3 p2 (0 : Int32) (0 : Int64) (0 : Int32) T74.heap n0 Z74 E79 G14 F80 F81 F82 F83) hZ (hw _ (List.mem_of_getElem? (i := 13) rfl)) (hw _ (List.mem_of_getElem? (i := 2) rfl)) (by decide) (by decide)) q92a q92c (g := (mkF m 59 #[.val (.long p1), .second, .val (.int p2), .val (.long p3), .second, .val (.long p4), .second, .val (.int p5), .val (.int p6), .val (.ref a1), .val (.ref a14), .val (.ref a32), .unset] [(.int p2), (.long p3), (.ref a14)])) rfl (by rw [hml]; rfl) (Steps.refl _) (argsL := [(.long p3), (.int p2)]) (rest := []) (lenOf pd_oJIcV rfl) rfl (by show 2 * 0 + _ ≤ _; exact Nat.le_of_eq rfl) (hb hby at_59) (fun _ _ => ⟨rfl, e74, (by decide : 3 + 0 ≤ _), (by decide : 12 + 0 ≤ _)⟩)
    dsimp only [Pt.U, Pt.locs, Pt.cells, Pt.slots] at X92 l92 y92 z92 st92 hQ92
    subst l92 y92 z92
    obtain ⟨rfl, N92a, K92, Q92_0, Q92_1, Q92_2, Q92_3, Q92_4⟩ := hQ92
    have N92 := Fr.app N74 N92a
    have e92 : T92.heap = T92.heap := rfl
    have Z92 : n0 ≤ T92.heap.size := (Nat.le_trans Z74 K92.1)
    have O93 : Old Z n0 T92.heap := (O75.keep K92 (allS G14 all0))
    have S94 : Sta Z T92.heap "com/example/lintel/lintel/Figure" "POWERS_OF_TEN" "[J" (.ref pa) := (Sta.ext O93.2 H3)
    have A95 : Arv Z T92.heap pa pk .long (19 : Int32) [(.long (1 : Int64)), (.long (10 : Int64)), (.long (100 : Int64)), (.long (1000 : Int64)), (.long (10000 : Int64)), (.long (100000 : Int64)), (.long (1000000 : Int64)), (.long (10000000 : Int64)), (.long (100000000 : Int64)), (.long (1000000000 : Int64)), (.long (10000000000 : Int64)), (.long (100000000000 : Int64)), (.long (1000000000000 : Int64)), (.long (10000000000000 : Int64)), (.long (100000000000000 : Int64)), (.long (1000000000000000 : Int64)), (.long (10000000000000000 : Int64)), (.long (100000000000000000 : Int64)), (.long (1000000000000000000 : Int64))] (.long (0 : Int64)) := (A77.keep K92 (ninS ne14_pa nin0))
    have E96 : Exa Z T92.heap a1 "com/example/lintel/lintel/Figure" := (E78.keep K92)
    have E97 : Exa Z T92.heap a14 "com/example/lintel/lintel/Figure" := (E79.keep K92)
    have E98 : Exa Z T92.heap a32 "com/example/lintel/lintel/Figure" := (E84.keep K92)
    have F99 : Fld Z T92.heap a32 "com/example/lintel/lintel/Figure" "given" "Z" (.int (0 : Int32)) := (F85.keep K92 (ninS (Ne.symm ne32_a14) nin0))
    have F100 : Fld Z T92.heap a32 "com/example/lintel/lintel/Figure" "unscaled" "J" (.long (0 : Int64)) := (F86.keep K92 (ninS (Ne.symm ne32_a14) nin0))
    have F101 : Fld Z T92.heap a32 "com/example/lintel/lintel/Figure" "scale" "I" (.int (0 : Int32)) := (F87.keep K92 (ninS (Ne.symm ne32_a14) nin0))
    have F102 : Fld Z T92.heap a32 "com/example/lintel/lintel/Figure" "large" "Ljava/math/BigDecimal;" .null := (F88.keep K92 (ninS (Ne.symm ne32_a14) nin0))
    have E103 : Exa Z T92.heap a1 "com/example/lintel/lintel/Figure" := (E89.keep K92)
    have E104 : Exa Z T92.heap a1 "com/example/lintel/lintel/Figure" := (Q74_0.keep K92)
    have F105 : Fld Z T92.heap a1 "com/example/lintel/lintel/Figure" "given" "Z" (.int (1 : Int32)) := (Q74_1.keep K92 (ninS ne14_a1 nin0))
    have F106 : Fld Z T92.heap a1 "com/example/lintel/lintel/Figure" "unscaled" "J" (.long p1) := (Q74_2.keep K92 (ninS ne14_a1 nin0))
    have F107 : Fld Z T92.heap a1 "com/example/lintel/lintel/Figure" "scale" "I" (.int p2) := (Q74_3.keep K92 (ninS ne14_a1 nin0))
    have F108 : Fld Z T92.heap a1 "com/example/lintel/lintel/Figure" "large" "Ljava/math/BigDecimal;" .null := (Q74_4.keep K92 (ninS ne14_a1 nin0))
    have cn109 : ∀ t, Steps p.tables e below (T92.setTop (mkF m 62 #[.val (.long p1), .second, .val (.int p2), .val (.long p3), .second, .val (.long p4), .second, .val (.int p5), .val (.int p6), .val (.ref a1), .val (.ref a14), .val (.ref a32), .unset] [])) t → Steps p.tables e below (s₁.setTop (entryFrame m #[(.long p1), (.int p2), (.long p3), (.long p4), (.int p5), (.int p6)] maxLocals)) t := fun t k => cn91 t (st92.trans k)
    have cn110 : ∀ t, Steps p.tables e below (T92.setTop (mkF m 65 #[.val (.long p1), .second, .val (.int p2), .val (.long p3), .second, .val (.long p4), .second, .val (.int p5), .val (.int p6), .val (.ref a1), .val (.ref a14), .val (.ref a32), .unset] [(.int (-2147483648 : Int32)), (.int p2)])) t → Steps p.tables e below (s₁.setTop (entryFrame m #[(.long p1), (.int p2), (.long p3), (.long p4), (.int p5), (.int p6)] maxLocals)) t := by
      intro t k
      refine cn109 t ?_
      refine o_iloadN X92.here hx (hb hby at_62) rfl ?_
      refine X92.ldcI hx hown (mvT hZ (hw _ (List.mem_of_getElem? (i := 27) rfl))) rfl (hb hby at_63) ?_
      show Steps p.tables e below (T92.setTop (mkF m 65 #[.val (.long p1), .second, .val (.int p2), .val (.long p3), .second, .val (.long p4), .second, .val (.int p5), .val (.int p6), .val (.ref a1), .val (.ref a14), .val (.ref a32), .unset] [(.int (-2147483648 : Int32)), (.int p2)])) _
      exact k
    by_cases h65_111 : p2 = (-2147483648 : Int32)
    · -- pc 65 taken
      have cn112 : ∀ t, Steps p.tables e below (T92.setTop (mkF m 93 #[.val (.long p1), .second, .val (.int p2), .val (.long p3), .second, .val (.long p4), .second, .val (.int p5), .val (.int p6), .val (.ref a1), .val (.ref a14), .val (.ref a32), .unset] [(.int (p2 + (1 : Int32))), (.long p1), (.ref a32)])) t → Steps p.tables e below (s₁.setTop (entryFrame m #[(.long p1), (.int p2), (.long p3), (.long p4), (.int p5), (.int p6)] maxLocals)) t := by
        intro t k
        refine cn110 t ?_
        refine o_icmpYes X92.here hx (pc' := 87) (hb hby at_65) (XT.ii_eq_t h65_111) (by decide) (by decide) ?_
        refine o_aload X92.here hx (hb hby at_87) rfl rfl ?_
        refine o_lloadN X92.here hx (hb hby at_89) rfl ?_
        refine o_iloadN X92.here hx (hb hby at_90) rfl ?_
        refine o_iconstV X92.here hx (1 : Int32) (hb hby at_91) rfl ?_
        refine o_iadd X92.here hx (hb hby at_92) ?_
        exact k
      obtain ⟨cq113, kq113, q113a, q113b, q113c⟩ := isOf hZ e92 E98
      obtain ⟨_, _, ⟨T113, L113, c113, n113⟩, -, X113, ⟨Lc113, hQ113, l113, y113, z113⟩, st113⟩ := X92.virtualBack hx (y := (⟨"com/example/lintel/lintel/Figure", "set", "(JI)V"⟩ : MethodName)) (z := (⟨"com/example/lintel/lintel/Figure", "set", "(JI)V"⟩ : MethodName)) hown (mvT hZ (hw _ (List.mem_of_getElem? (i := 9) rfl))) (mvT hZ (hw _ (List.mem_of_getElem? (i := 10) rfl))) (notFace_of_selects (args := #[]) (mvT hZ (hw _ (List.mem_of_getElem? (i := 12) rfl)))) (mvT hZ (hw _ (List.mem_of_getElem? (i := 12) rfl))) (mvT hZ (hw _ (List.mem_of_getElem? (i := 11) rfl))) (by decide) (backOf (W := 0) (rmS l Z a0 hw [] a32 p1 (p2 + (1 : Int32)) (0 : Int32) (0 : Int64) (0 : Int32) T92.heap n0 Z92 E98 G32 F99 F100 F101 F102) hZ (hw _ (List.mem_of_getElem? (i := 13) rfl)) (hw _ (List.mem_of_getElem? (i := 2) rfl)) (by decide) (by decide)) q113a q113c (g := (mkF m 93 #[.val (.long p1), .second, .val (.int p2), .val (.long p3), .second, .val (.long p4), .second, .val (.int p5), .val (.int p6), .val (.ref a1), .val (.ref a14), .val (.ref a32), .unset] [(.int (p2 + (1 : Int32))), (.long p1), (.ref a32)])) rfl (by rw [hml]; rfl) (Steps.refl _) (argsL := [(.long p1), (.int (p2 + (1 : Int32)))]) (rest := []) (lenOf pd_oJIcV rfl) rfl (by show 2 * 0 + _ ≤ _; exact Nat.le_of_eq rfl) (hb hby at_93) (fun _ _ => ⟨rfl, e92, (by decide : 3 + 0 ≤ _), (by decide : 12 + 0 ≤ _)⟩)
      dsimp only [Pt.U, Pt.locs, Pt.cells, Pt.slots] at X113 l113 y113 z113 st113 hQ113
      subst l113 y113 z113
      obtain ⟨rfl, N113a, K113, Q113_0, Q113_1, Q113_2, Q113_3, Q113_4⟩ := hQ113
      have N113 := Fr.app N92 N113a
      have e113 : T113.heap = T113.heap := rfl
      have Z113 : n0 ≤ T113.heap.size := (Nat.le_trans Z92 K113.1)
      have O114 : Old Z n0 T113.heap := (O93.keep K113 (allS G32 all0))
      have S115 : Sta Z T113.heap "com/example/lintel/lintel/Figure" "POWERS_OF_TEN" "[J" (.ref pa) := (Sta.ext O114.2 H3)
      have A116 : Arv Z T113.heap pa pk .long (19 : Int32) [(.long (1 : Int64)), (.long (10 : Int64)), (.long (100 : Int64)), (.long (1000 : Int64)), (.long (10000 : Int64)), (.long (100000 : Int64)), (.long (1000000 : Int64)), (.long (10000000 : Int64)), (.long (100000000 : Int64)), (.long (1000000000 : Int64)), (.long (10000000000 : Int64)), (.long (100000000000 : Int64)), (.long (1000000000000 : Int64)), (.long (10000000000000 : Int64)), (.long (100000000000000 : Int64)), (.long (1000000000000000 : Int64)), (.long (10000000000000000 : Int64)), (.long (100000000000000000 : Int64)), (.long (1000000000000000000 : Int64))] (.long (0 : Int64)) := (A95.keep K113 (ninS ne32_pa nin0))
      have E117 : Exa Z T113.heap a1 "com/example/lintel/lintel/Figure" := (E96.keep K113)
      have E118 : Exa Z T113.heap a14 "com/example/lintel/lintel/Figure" := (E97.keep K113)
      have E119 : Exa Z T113.heap a32 "com/example/lintel/lintel/Figure" := (E98.keep K113)
      have E120 : Exa Z T113.heap a1 "com/example/lintel/lintel/Figure" := (E103.keep K113)
      have E121 : Exa Z T113.heap a1 "com/example/lintel/lintel/Figure" := (E104.keep K113)
      have F122 : Fld Z T113.heap a1 "com/example/lintel/lintel/Figure" "given" "Z" (.int (1 : Int32)) := (F105.keep K113 (ninS ne32_a1 nin0))
      have F123 : Fld Z T113.heap a1 "com/example/lintel/lintel/Figure" "unscaled" "J" (.long p1) := (F106.keep K113 (ninS ne32_a1 nin0))
      have F124 : Fld Z T113.heap a1 "com/example/lintel/lintel/Figure" "scale" "I" (.int p2) := (F107.keep K113 (ninS ne32_a1 nin0))
      have F125 : Fld Z T113.heap a1 "com/example/lintel/lintel/Figure" "large" "Ljava/math/BigDecimal;" .null := (F108.keep K113 (ninS ne32_a1 nin0))
      have E126 : Exa Z T113.heap a14 "com/example/lintel/lintel/Figure" := (Q92_0.keep K113)
      have F127 : Fld Z T113.heap a14 "com/example/lintel/lintel/Figure" "given" "Z" (.int (1 : Int32)) := (Q92_1.keep K113 (ninS ne32_a14 nin0))
      have F128 : Fld Z T113.heap a14 "com/example/lintel/lintel/Figure" "unscaled" "J" (.long p3) := (Q92_2.keep K113 (ninS ne32_a14 nin0))
      have F129 : Fld Z T113.heap a14 "com/example/lintel/lintel/Figure" "scale" "I" (.int p2) := (Q92_3.keep K113 (ninS ne32_a14 nin0))
      have F130 : Fld Z T113.heap a14 "com/example/lintel/lintel/Figure" "large" "Ljava/math/BigDecimal;" .null := (Q92_4.keep K113 (ninS ne32_a14 nin0))
      have cn131 : ∀ t, Steps p.tables e below (T113.setTop (mkF m 96 #[.val (.long p1), .second, .val (.int p2), .val (.long p3), .second, .val (.long p4), .second, .val (.int p5), .val (.int p6), .val (.ref a1), .val (.ref a14), .val (.ref a32), .unset] [])) t → Steps p.tables e below (s₁.setTop (entryFrame m #[(.long p1), (.int p2), (.long p3), (.long p4), (.int p5), (.int p6)] maxLocals)) t := fun t k => cn112 t (st113.trans k)
      have cn132 : ∀ t, Steps p.tables e below (T113.setTop (mkF m 97 #[.val (.long p1), .second, .val (.int p2), .val (.long p3), .second, .val (.long p4), .second, .val (.int p5), .val (.int p6), .val (.ref a1), .val (.ref a14), .val (.ref a32), .unset] [(.long p1)])) t → Steps p.tables e below (s₁.setTop (entryFrame m #[(.long p1), (.int p2), (.long p3), (.long p4), (.int p5), (.int p6)] maxLocals)) t := by
        intro t k
        refine cn131 t ?_
        refine o_lloadN X113.here hx (hb hby at_96) rfl ?_
        exact k
      obtain ⟨_, _, ⟨T133, L133, c133, n133⟩, -, X133, ⟨Lc133, hQ133, l133, y133, z133⟩, st133⟩ := Jvm.LawKit.callS X113 hx (y := (⟨"com/example/lintel/lintel/FigureSetPinLaw", "sign", "(J)I"⟩ : MethodName)) hown (mvT hZ (hw _ (List.mem_of_getElem? (i := 28) rfl))) (mvT hZ (hw _ (List.mem_of_getElem? (i := 29) rfl))) (mvT hZ (hw _ (List.mem_of_getElem? (i := 30) rfl))) (mvT hZ (hw _ (List.mem_of_getElem? (i := 31) rfl))) (by decide) (backOf (W := 0) (rmN l Z a0 hw [] p1 T113.heap n0 Z113) hZ (hw _ (List.mem_of_getElem? (i := 31) rfl)) (hw _ (List.mem_of_getElem? (i := 30) rfl)) (by decide) (by decide)) (g := (mkF m 97 #[.val (.long p1), .second, .val (.int p2), .val (.long p3), .second, .val (.long p4), .second, .val (.int p5), .val (.int p6), .val (.ref a1), .val (.ref a14), .val (.ref a32), .unset] [(.long p1)])) rfl (by rw [hml]; rfl) (argsL := [(.long p1)]) (rest := []) (lenOf pd_oJcI rfl) rfl (by show 2 * 0 + _ ≤ _; exact Nat.le_of_eq rfl) (hb hby at_97) (fun _ _ => ⟨rfl, e113, (by decide : 3 + 0 ≤ _), (by decide : 12 + 0 ≤ _)⟩)
      dsimp only [Pt.U, Pt.locs, Pt.cells, Pt.slots] at X133 l133 y133 z133 st133 hQ133
      subst l133 y133 z133
      obtain ⟨rfl, N133a, eh133⟩ := hQ133
      have N133 := Fr.app N113 N133a
      have e133 : T133.heap = T113.heap := eh133
      have cn134 : ∀ t, Steps p.tables e below (T133.setTop (mkF m 100 #[.val (.long p1), .second, .val (.int p2), .val (.long p3), .second, .val (.long p4), .second, .val (.int p5), .val (.int p6), .val (.ref a1), .val (.ref a14), .val (.ref a32), .unset] [(.int (own_sign p1))])) t → Steps p.tables e below (s₁.setTop (entryFrame m #[(.long p1), (.int p2), (.long p3), (.long p4), (.int p5), (.int p6)] maxLocals)) t := fun t k => cn132 t (st133 _ k)
      have cn135 : ∀ t, Steps p.tables e below (T133.setTop (mkF m 104 #[.val (.long p1), .second, .val (.int p2), .val (.long p3), .second, .val (.long p4), .second, .val (.int p5), .val (.int p6), .val (.ref a1), .val (.ref a14), .val (.ref a32), .val (.int (own_sign p1))] [(.ref a1)])) t → Steps p.tables e below (s₁.setTop (entryFrame m #[(.long p1), (.int p2), (.long p3), (.long p4), (.int p5), (.int p6)] maxLocals)) t := by
        intro t k
        refine cn134 t ?_
        refine o_istore X133.here hx (hb hby at_100) (l' := #[.val (.long p1), .second, .val (.int p2), .val (.long p3), .second, .val (.long p4), .second, .val (.int p5), .val (.int p6), .val (.ref a1), .val (.ref a14), .val (.ref a32), .val (.int (own_sign p1))]) rfl ?_
        refine o_aload X133.here hx (hb hby at_102) rfl rfl ?_
        exact k
      obtain ⟨cq136, kq136, q136a, q136b, q136c⟩ := isOf hZ e133 E121
      obtain ⟨_, _, ⟨T136, L136, c136, n136⟩, -, X136, ⟨Lc136, hQ136, l136, y136, z136⟩, st136⟩ := X133.virtualBack hx (y := (⟨"com/example/lintel/lintel/Figure", "isGiven", "()Z"⟩ : MethodName)) (z := (⟨"com/example/lintel/lintel/Figure", "isGiven", "()Z"⟩ : MethodName)) hown (mvT hZ (hw _ (List.mem_of_getElem? (i := 32) rfl))) (mvT hZ (hw _ (List.mem_of_getElem? (i := 33) rfl))) (notFace_of_selects (args := #[]) (mvT hZ (hw _ (List.mem_of_getElem? (i := 35) rfl)))) (mvT hZ (hw _ (List.mem_of_getElem? (i := 35) rfl))) (mvT hZ (hw _ (List.mem_of_getElem? (i := 34) rfl))) (by decide) (backOf (W := 0) (rmV l Z a0 hw [] a1 T113.heap n0 Z113 F122) hZ (hw _ (List.mem_of_getElem? (i := 36) rfl)) (hw _ (List.mem_of_getElem? (i := 2) rfl)) (by decide) (by decide)) q136a q136c (g := (mkF m 104 #[.val (.long p1), .second, .val (.int p2), .val (.long p3), .second, .val (.long p4), .second, .val (.int p5), .val (.int p6), .val (.ref a1), .val (.ref a14), .val (.ref a32), .val (.int (own_sign p1))] [(.ref a1)])) rfl (by rw [hml]; rfl) (Steps.refl _) (argsL := []) (rest := []) (lenOf pd_ocZ rfl) rfl (by show 2 * 0 + _ ≤ _; exact Nat.le_of_eq rfl) (hb hby at_104) (fun _ _ => ⟨rfl, e133, (by decide : 3 + 0 ≤ _), (by decide : 12 + 0 ≤ _)⟩)
      dsimp only [Pt.U, Pt.locs, Pt.cells, Pt.slots] at X136 l136 y136 z136 st136 hQ136
      subst l136 y136 z136
      obtain ⟨rfl, N136a, eh136⟩ := hQ136
      have N136 := Fr.app N133 N136a
      have e136 : T136.heap = T113.heap := eh136
      have cn137 : ∀ t, Steps p.tables e below (T136.setTop (mkF m 107 #[.val (.long p1), .second, .val (.int p2), .val (.long p3), .second, .val (.long p4), .second, .val (.int p5), .val (.int p6), .val (.ref a1), .val (.ref a14), .val (.ref a32), .val (.int (own_sign p1))] [(.int (1 : Int32))])) t → Steps p.tables e below (s₁.setTop (entryFrame m #[(.long p1), (.int p2), (.long p3), (.long p4), (.int p5), (.int p6)] maxLocals)) t := fun t k => cn135 t (st136.trans k)
      have cn138 : ∀ t, Steps p.tables e below (T136.setTop (mkF m 112 #[.val (.long p1), .second, .val (.int p2), .val (.long p3), .second, .val (.long p4), .second, .val (.int p5), .val (.int p6), .val (.ref a1), .val (.ref a14), .val (.ref a32), .val (.int (own_sign p1))] [(.ref a1)])) t → Steps p.tables e below (s₁.setTop (entryFrame m #[(.long p1), (.int p2), (.long p3), (.long p4), (.int p5), (.int p6)] maxLocals)) t := by
        intro t k
        refine cn137 t ?_
        refine o_ifNo X136.here hx (hb hby at_107) (by decide) ?_
        refine o_aload X136.here hx (hb hby at_110) rfl rfl ?_
        exact k
      obtain ⟨cq139, kq139, q139a, q139b, q139c⟩ := isOf hZ e136 E121
      obtain ⟨_, _, ⟨T139, L139, c139, n139⟩, -, X139, ⟨Lc139, hQ139, l139, y139, z139⟩, st139⟩ := X136.virtualBack hx (y := (⟨"com/example/lintel/lintel/Figure", "signum", "()I"⟩ : MethodName)) (z := (⟨"com/example/lintel/lintel/Figure", "signum", "()I"⟩ : MethodName)) hown (mvT hZ (hw _ (List.mem_of_getElem? (i := 37) rfl))) (mvT hZ (hw _ (List.mem_of_getElem? (i := 38) rfl))) (notFace_of_selects (args := #[]) (mvT hZ (hw _ (List.mem_of_getElem? (i := 40) rfl)))) (mvT hZ (hw _ (List.mem_of_getElem? (i := 40) rfl))) (mvT hZ (hw _ (List.mem_of_getElem? (i := 39) rfl))) (by decide) (backOf (W := 0) (rmW l Z a0 hw [] a1 p1 T113.heap n0 Z113 F125 F123) hZ (hw _ (List.mem_of_getElem? (i := 41) rfl)) (hw _ (List.mem_of_getElem? (i := 2) rfl)) (by decide) (by decide)) q139a q139c (g := (mkF m 112 #[.val (.long p1), .second, .val (.int p2), .val (.long p3), .second, .val (.long p4), .second, .val (.int p5), .val (.int p6), .val (.ref a1), .val (.ref a14), .val (.ref a32), .val (.int (own_sign p1))] [(.ref a1)])) rfl (by rw [hml]; rfl) (Steps.refl _) (argsL := []) (rest := []) (lenOf pd_ocI rfl) rfl (by show 2 * 0 + _ ≤ _; exact Nat.le_of_eq rfl) (hb hby at_112) (fun _ _ => ⟨rfl, e136, (by decide : 3 + 0 ≤ _), (by decide : 12 + 0 ≤ _)⟩)
      dsimp only [Pt.U, Pt.locs, Pt.cells, Pt.slots] at X139 l139 y139 z139 st139 hQ139
      subst l139 y139 z139
      obtain ⟨rfl, N139a, eh139⟩ := hQ139
      have N139 := Fr.app N136 N139a
      have e139 : T139.heap = T113.heap := eh139
      have cn140 : ∀ t, Steps p.tables e below (T139.setTop (mkF m 115 #[.val (.long p1), .second, .val (.int p2), .val (.long p3), .second, .val (.long p4), .second, .val (.int p5), .val (.int p6), .val (.ref a1), .val (.ref a14), .val (.ref a32), .val (.int (own_sign p1))] [(.int (own_sign p1))])) t → Steps p.tables e below (s₁.setTop (entryFrame m #[(.long p1), (.int p2), (.long p3), (.long p4), (.int p5), (.int p6)] maxLocals)) t := fun t k => cn138 t (st139.trans k)
      have cn141 : ∀ t, Steps p.tables e below (T139.setTop (mkF m 116 #[.val (.long p1), .second, .val (.int p2), .val (.long p3), .second, .val (.long p4), .second, .val (.int p5), .val (.int p6), .val (.ref a1), .val (.ref a14), .val (.ref a32), .val (.int (own_sign p1))] [(.long p1), (.int (own_sign p1))])) t → Steps p.tables e below (s₁.setTop (entryFrame m #[(.long p1), (.int p2), (.long p3), (.long p4), (.int p5), (.int p6)] maxLocals)) t := by
        intro t k
        refine cn140 t ?_
        refine o_lloadN X139.here hx (hb hby at_115) rfl ?_
        exact k
      obtain ⟨_, _, ⟨T142, L142, c142, n142⟩, -, X142, ⟨Lc142, hQ142, l142, y142, z142⟩, st142⟩ := Jvm.LawKit.callS X139 hx (y := (⟨"com/example/lintel/lintel/FigureSetPinLaw", "sign", "(J)I"⟩ : MethodName)) hown (mvT hZ (hw _ (List.mem_of_getElem? (i := 28) rfl))) (mvT hZ (hw _ (List.mem_of_getElem? (i := 29) rfl))) (mvT hZ (hw _ (List.mem_of_getElem? (i := 30) rfl))) (mvT hZ (hw _ (List.mem_of_getElem? (i := 31) rfl))) (by decide) (backOf (W := 1) (rmN l Z a0 hw [] p1 T113.heap n0 Z113) hZ (hw _ (List.mem_of_getElem? (i := 31) rfl)) (hw _ (List.mem_of_getElem? (i := 30) rfl)) (by decide) (by decide)) (g := (mkF m 116 #[.val (.long p1), .second, .val (.int p2), .val (.long p3), .second, .val (.long p4), .second, .val (.int p5), .val (.int p6), .val (.ref a1), .val (.ref a14), .val (.ref a32), .val (.int (own_sign p1))] [(.long p1), (.int (own_sign p1))])) rfl (by rw [hml]; rfl) (argsL := [(.long p1)]) (rest := [(.int (own_sign p1))]) (lenOf pd_oJcI rfl) rfl (by show 2 * 0 + _ ≤ _; exact Nat.le_of_eq rfl) (hb hby at_116) (fun _ _ => ⟨rfl, e139, (by decide : 3 + 0 ≤ _), (by decide : 12 + 0 ≤ _)⟩)
      dsimp only [Pt.U, Pt.locs, Pt.cells, Pt.slots] at X142 l142 y142 z142 st142 hQ142
      subst l142 y142 z142
      obtain ⟨rfl, N142a, eh142⟩ := hQ142
      have N142 := Fr.app N139 N142a
      have e142 : T142.heap = T113.heap := eh142
      have cn143 : ∀ t, Steps p.tables e below (T142.setTop (mkF m 119 #[.val (.long p1), .second, .val (.int p2), .val (.long p3), .second, .val (.long p4), .second, .val (.int p5), .val (.int p6), .val (.ref a1), .val (.ref a14), .val (.ref a32), .val (.int (own_sign p1))] [(.int (own_sign p1)), (.int (own_sign p1))])) t → Steps p.tables e below (s₁.setTop (entryFrame m #[(.long p1), (.int p2), (.long p3), (.long p4), (.int p5), (.int p6)] maxLocals)) t := fun t k => cn141 t (st142 _ k)
      have cn144 : ∀ t, Steps p.tables e below (T142.setTop (mkF m 126 #[.val (.long p1), .second, .val (.int p2), .val (.long p3), .second, .val (.long p4), .second, .val (.int p5), .val (.int p6), .val (.ref a1), .val (.ref a14), .val (.ref a32), .val (.int (own_sign p1))] [(.ref a14), (.ref a1)])) t → Steps p.tables e below (s₁.setTop (entryFrame m #[(.long p1), (.int p2), (.long p3), (.long p4), (.int p5), (.int p6)] maxLocals)) t := by
        intro t k
        refine cn143 t ?_
        refine o_icmpNo X142.here hx (hb hby at_119) (XT.ii_ne_f rfl) ?_
        refine o_aload X142.here hx (hb hby at_122) rfl rfl ?_
        refine o_aload X142.here hx (hb hby at_124) rfl rfl ?_
        exact k
      obtain ⟨cq145, kq145, q145a, q145b, q145c⟩ := isOf hZ e142 E121
      obtain ⟨_, _, ⟨T145, L145, c145, n145⟩, -, X145, ⟨Lc145, hQ145, l145, y145, z145⟩, st145⟩ := X142.virtualBack hx (y := (⟨"com/example/lintel/lintel/Figure", "compareTo", "(Lcom/example/lintel/lintel/Figure;)I"⟩ : MethodName)) (z := (⟨"com/example/lintel/lintel/Figure", "compareTo", "(Lcom/example/lintel/lintel/Figure;)I"⟩ : MethodName)) hown (mvT hZ (hw _ (List.mem_of_getElem? (i := 46) rfl))) (mvT hZ (hw _ (List.mem_of_getElem? (i := 47) rfl))) (notFace_of_selects (args := #[]) (mvT hZ (hw _ (List.mem_of_getElem? (i := 49) rfl)))) (mvT hZ (hw _ (List.mem_of_getElem? (i := 49) rfl))) (mvT hZ (hw _ (List.mem_of_getElem? (i := 48) rfl))) (by decide) (backOf (W := 0) (rmX l Z a0 hw [] a1 a14 p1 p2 p3 p2 pa pk T113.heap n0 Z113 F125 F123 F124 F130 F128 F129 S115 A116 (⟨fun h => absurd h (own_irr _), fun _ h => absurd rfl h⟩)) hZ (hw _ (List.mem_of_getElem? (i := 50) rfl)) (hw _ (List.mem_of_getElem? (i := 2) rfl)) (by decide) (by decide)) q145a q145c (g := (mkF m 126 #[.val (.long p1), .second, .val (.int p2), .val (.long p3), .second, .val (.long p4), .second, .val (.int p5), .val (.int p6), .val (.ref a1), .val (.ref a14), .val (.ref a32), .val (.int (own_sign p1))] [(.ref a14), (.ref a1)])) rfl (by rw [hml]; rfl) (Steps.refl _) (argsL := [(.ref a14)]) (rest := []) (lenOf pd_oLcom_example_lintel_lintel_FigurescI rfl) rfl (by show 2 * 0 + _ ≤ _; exact Nat.le_of_eq rfl) (hb hby at_126) (fun _ _ => ⟨rfl, e142, (by decide : 3 + 0 ≤ _), (by decide : 12 + 0 ≤ _)⟩)
      dsimp only [Pt.U, Pt.locs, Pt.cells, Pt.slots] at X145 l145 y145 z145 st145 hQ145
      subst l145 y145 z145
      obtain ⟨rfl, N145a, eh145⟩ := hQ145
      have N145 := Fr.app N142 N145a
      have e145 : T145.heap = T113.heap := eh145
      have cn146 : ∀ t, Steps p.tables e below (T145.setTop (mkF m 129 #[.val (.long p1), .second, .val (.int p2), .val (.long p3), .second, .val (.long p4), .second, .val (.int p5), .val (.int p6), .val (.ref a1), .val (.ref a14), .val (.ref a32), .val (.int (own_sign p1))] [(.int (own_compare p1 p2.toInt64 p3 p2.toInt64))])) t → Steps p.tables e below (s₁.setTop (entryFrame m #[(.long p1), (.int p2), (.long p3), (.long p4), (.int p5), (.int p6)] maxLocals)) t := fun t k => cn144 t (st145.trans k)
      have cn147 : ∀ t, Steps p.tables e below (T145.setTop (mkF m 131 #[.val (.long p1), .second, .val (.int p2), .val (.long p3), .second, .val (.long p4), .second, .val (.int p5), .val (.int p6), .val (.ref a1), .val (.ref a14), .val (.ref a32), .val (.int (own_sign p1))] [(.long p3), (.long p1), (.int (own_compare p1 p2.toInt64 p3 p2.toInt64))])) t → Steps p.tables e below (s₁.setTop (entryFrame m #[(.long p1), (.int p2), (.long p3), (.long p4), (.int p5), (.int p6)] maxLocals)) t := by
        intro t k
        refine cn146 t ?_
        refine o_lloadN X145.here hx (hb hby at_129) rfl ?_
        refine o_lloadN X145.here hx (hb hby at_130) rfl ?_
        exact k
      obtain ⟨_, _, ⟨T148, L148, c148, n148⟩, -, X148, ⟨Lc148, hQ148, l148, y148, z148⟩, st148⟩ := Jvm.LawKit.callS X145 hx (y := (⟨"com/example/lintel/lintel/FigureSetPinLaw", "cmp", "(JJ)I"⟩ : MethodName)) hown (mvT hZ (hw _ (List.mem_of_getElem? (i := 57) rfl))) (mvT hZ (hw _ (List.mem_of_getElem? (i := 58) rfl))) (mvT hZ (hw _ (List.mem_of_getElem? (i := 30) rfl))) (mvT hZ (hw _ (List.mem_of_getElem? (i := 59) rfl))) (by decide) (backOf (W := 1) (rmM l Z a0 hw [] p1 p3 T113.heap n0 Z113) hZ (hw _ (List.mem_of_getElem? (i := 59) rfl)) (hw _ (List.mem_of_getElem? (i := 30) rfl)) (by decide) (by decide)) (g := (mkF m 131 #[.val (.long p1), .second, .val (.int p2), .val (.long p3), .second, .val (.long p4), .second, .val (.int p5), .val (.int p6), .val (.ref a1), .val (.ref a14), .val (.ref a32), .val (.int (own_sign p1))] [(.long p3), (.long p1), (.int (own_compare p1 p2.toInt64 p3 p2.toInt64))])) rfl (by rw [hml]; rfl) (argsL := [(.long p1), (.long p3)]) (rest := [(.int (own_compare p1 p2.toInt64 p3 p2.toInt64))]) (lenOf pd_oJJcI rfl) rfl (by show 2 * 0 + _ ≤ _; exact Nat.le_of_eq rfl) (hb hby at_131) (fun _ _ => ⟨rfl, e145, (by decide : 3 + 0 ≤ _), (by decide : 12 + 0 ≤ _)⟩)
      dsimp only [Pt.U, Pt.locs, Pt.cells, Pt.slots] at X148 l148 y148 z148 st148 hQ148
      subst l148 y148 z148
      obtain ⟨rfl, N148a, eh148⟩ := hQ148
      have N148 := Fr.app N145 N148a
      have e148 : T148.heap = T113.heap := eh148
      have cn149 : ∀ t, Steps p.tables e below (T148.setTop (mkF m 134 #[.val (.long p1), .second, .val (.int p2), .val (.long p3), .second, .val (.long p4), .second, .val (.int p5), .val (.int p6), .val (.ref a1), .val (.ref a14), .val (.ref a32), .val (.int (own_sign p1))] [(.int (own_cmp p1 p3)), (.int (own_compare p1 p2.toInt64 p3 p2.toInt64))])) t → Steps p.tables e below (s₁.setTop (entryFrame m #[(.long p1), (.int p2), (.long p3), (.long p4), (.int p5), (.int p6)] maxLocals)) t := fun t k => cn147 t (st148 _ k)
      have cn150 : ∀ t, Steps p.tables e below (T148.setTop (mkF m 141 #[.val (.long p1), .second, .val (.int p2), .val (.long p3), .second, .val (.long p4), .second, .val (.int p5), .val (.int p6), .val (.ref a1), .val (.ref a14), .val (.ref a32), .val (.int (own_sign p1))] [(.ref a32), (.ref a1)])) t → Steps p.tables e below (s₁.setTop (entryFrame m #[(.long p1), (.int p2), (.long p3), (.long p4), (.int p5), (.int p6)] maxLocals)) t := by
        intro t k
        refine cn149 t ?_
        refine o_icmpNo X148.here hx (hb hby at_134) (XT.ii_ne_f (own_cmp_same _ _ _)) ?_
        refine o_aload X148.here hx (hb hby at_137) rfl rfl ?_
        refine o_aload X148.here hx (hb hby at_139) rfl rfl ?_
        exact k
      obtain ⟨cq151, kq151, q151a, q151b, q151c⟩ := isOf hZ e148 E121
      obtain ⟨_, _, ⟨T151, L151, c151, n151⟩, -, X151, ⟨Lc151, hQ151, l151, y151, z151⟩, st151⟩ := X148.virtualBack hx (y := (⟨"com/example/lintel/lintel/Figure", "compareTo", "(Lcom/example/lintel/lintel/Figure;)I"⟩ : MethodName)) (z := (⟨"com/example/lintel/lintel/Figure", "compareTo", "(Lcom/example/lintel/lintel/Figure;)I"⟩ : MethodName)) hown (mvT hZ (hw _ (List.mem_of_getElem? (i := 46) rfl))) (mvT hZ (hw _ (List.mem_of_getElem? (i := 47) rfl))) (notFace_of_selects (args := #[]) (mvT hZ (hw _ (List.mem_of_getElem? (i := 49) rfl)))) (mvT hZ (hw _ (List.mem_of_getElem? (i := 49) rfl))) (mvT hZ (hw _ (List.mem_of_getElem? (i := 48) rfl))) (by decide) (backOf (W := 0) (rmX l Z a0 hw [] a1 a32 p1 p2 p1 (p2 + (1 : Int32)) pa pk T113.heap n0 Z113 F125 F123 F124 Q113_4 Q113_2 Q113_3 S115 A116 (⟨fun _ => (own_up p2 h65_111).2, fun h => absurd (own_up p2 h65_111).1 h⟩)) hZ (hw _ (List.mem_of_getElem? (i := 50) rfl)) (hw _ (List.mem_of_getElem? (i := 2) rfl)) (by decide) (by decide)) q151a q151c (g := (mkF m 141 #[.val (.long p1), .second, .val (.int p2), .val (.long p3), .second, .val (.long p4), .second, .val (.int p5), .val (.int p6), .val (.ref a1), .val (.ref a14), .val (.ref a32), .val (.int (own_sign p1))] [(.ref a32), (.ref a1)])) rfl (by rw [hml]; rfl) (Steps.refl _) (argsL := [(.ref a32)]) (rest := []) (lenOf pd_oLcom_example_lintel_lintel_FigurescI rfl) rfl (by show 2 * 0 + _ ≤ _; exact Nat.le_of_eq rfl) (hb hby at_141) (fun _ _ => ⟨rfl, e148, (by decide : 3 + 0 ≤ _), (by decide : 12 + 0 ≤ _)⟩)
      dsimp only [Pt.U, Pt.locs, Pt.cells, Pt.slots] at X151 l151 y151 z151 st151 hQ151
      subst l151 y151 z151
      obtain ⟨rfl, N151a, eh151⟩ := hQ151
      have N151 := Fr.app N148 N151a
      have e151 : T151.heap = T113.heap := eh151
      have cn152 : ∀ t, Steps p.tables e below (T151.setTop (mkF m 144 #[.val (.long p1), .second, .val (.int p2), .val (.long p3), .second, .val (.long p4), .second, .val (.int p5), .val (.int p6), .val (.ref a1), .val (.ref a14), .val (.ref a32), .val (.int (own_sign p1))] [(.int (own_compare p1 p2.toInt64 p1 (p2 + (1 : Int32)).toInt64))])) t → Steps p.tables e below (s₁.setTop (entryFrame m #[(.long p1), (.int p2), (.long p3), (.long p4), (.int p5), (.int p6)] maxLocals)) t := fun t k => cn150 t (st151.trans k)
      have cn153 : ∀ t, Steps p.tables e below (T151.setTop (mkF m 154 #[.val (.long p1), .second, .val (.int p2), .val (.long p3), .second, .val (.long p4), .second, .val (.int p5), .val (.int p6), .val (.ref a1), .val (.ref a14), .val (.ref a32), .val (.int (own_sign p1))] [(.int (1 : Int32))])) t → Steps p.tables e below (s₁.setTop (entryFrame m #[(.long p1), (.int p2), (.long p3), (.long p4), (.int p5), (.int p6)] maxLocals)) t := by
        intro t k
        refine cn152 t ?_
        refine o_iload X151.here hx (hb hby at_144) rfl ?_
        show Steps p.tables e below (T151.setTop (mkF m 146 #[.val (.long p1), .second, .val (.int p2), .val (.long p3), .second, .val (.long p4), .second, .val (.int p5), .val (.int p6), .val (.ref a1), .val (.ref a14), .val (.ref a32), .val (.int (own_sign p1))] [(.int (own_sign p1)), (.int (own_compare p1 p2.toInt64 p1 (p2 + (1 : Int32)).toInt64))])) _
        refine o_icmpNo X151.here hx (hb hby at_146) (XT.ii_ne_f (own_cmp_up _ _ h65_111)) ?_
        refine o_iconstV X151.here hx (1 : Int32) (hb hby at_149) rfl ?_
        show Steps p.tables e below (T151.setTop (mkF m 150 #[.val (.long p1), .second, .val (.int p2), .val (.long p3), .second, .val (.long p4), .second, .val (.int p5), .val (.int p6), .val (.ref a1), .val (.ref a14), .val (.ref a32), .val (.int (own_sign p1))] [(.int (1 : Int32))])) _
        refine o_goto X151.here hx (pc' := 154) (hb hby at_150) (by decide) (by decide) ?_
        exact k
      obtain ⟨fs, hr, hrun, hended, hW, hsame⟩ := X151.leave (v := some (.int (1 : Int32))) (fun h => by rw [Bd.returns] at h; cases h)
      refine ⟨_, _, cn153 _ ?_, hrun, hended, _, _, rfl, ?_, ⟨_, rfl⟩, hW, hsame.mono (by decide) (by decide)⟩
      · exact retN X151 hx (t := .boolean) Bd.returns (by simp) (hb hby at_154) hr
      · show Q0 Z p1 p2 p3 p4 p5 p6 pa pk h0 n0 _ T151.heap _
        rw [e151]
        exact ⟨rfl, N151⟩
    · -- pc 65 not taken
      have cn154 : ∀ t, Steps p.tables e below (T92.setTop (mkF m 74 #[.val (.long p1), .second, .val (.int p2), .val (.long p3), .second, .val (.long p4), .second, .val (.int p5), .val (.int p6), .val (.ref a1), .val (.ref a14), .val (.ref a32), .unset] [(.int (p2 - (1 : Int32))), (.long p1), (.ref a32)])) t → Steps p.tables e below (s₁.setTop (entryFrame m #[(.long p1), (.int p2), (.long p3), (.long p4), (.int p5), (.int p6)] maxLocals)) t := by
        intro t k
        refine cn110 t ?_
        refine o_icmpNo X92.here hx (hb hby at_65) (XT.ii_eq_f h65_111) ?_
        refine o_aload X92.here hx (hb hby at_68) rfl rfl ?_
        refine o_lloadN X92.here hx (hb hby at_70) rfl ?_
        refine o_iloadN X92.here hx (hb hby at_71) rfl ?_
        refine o_iconstV X92.here hx (1 : Int32) (hb hby at_72) rfl ?_
        refine o_isub X92.here hx (hb hby at_73) ?_
        exact k
      obtain ⟨cq155, kq155, q155a, q155b, q155c⟩ := isOf hZ e92 E98
      obtain ⟨_, _, ⟨T155, L155, c155, n155⟩, -, X155, ⟨Lc155, hQ155, l155, y155, z155⟩, st155⟩ := X92.virtualBack hx (y := (⟨"com/example/lintel/lintel/Figure", "set", "(JI)V"⟩ : MethodName)) (z := (⟨"com/example/lintel/lintel/Figure", "set", "(JI)V"⟩ : MethodName)) hown (mvT hZ (hw _ (List.mem_of_getElem? (i := 9) rfl))) (mvT hZ (hw _ (List.mem_of_getElem? (i := 10) rfl))) (notFace_of_selects (args := #[]) (mvT hZ (hw _ (List.mem_of_getElem? (i := 12) rfl)))) (mvT hZ (hw _ (List.mem_of_getElem? (i := 12) rfl))) (mvT hZ (hw _ (List.mem_of_getElem? (i := 11) rfl))) (by decide) (backOf (W := 0) (rmS l Z a0 hw [] a32 p1 (p2 - (1 : Int32)) (0 : Int32) (0 : Int64) (0 : Int32) T92.heap n0 Z92 E98 G32 F99 F100 F101 F102) hZ (hw _ (List.mem_of_getElem? (i := 13) rfl)) (hw _ (List.mem_of_getElem? (i := 2) rfl)) (by decide) (by decide)) q155a q155c (g := (mkF m 74 #[.val (.long p1), .second, .val (.int p2), .val (.long p3), .second, .val (.long p4), .second, .val (.int p5), .val (.int p6), .val (.ref a1), .val (.ref a14), .val (.ref a32), .unset] [(.int (p2 - (1 : Int32))), (.long p1), (.ref a32)])) rfl (by rw [hml]; rfl) (Steps.refl _) (argsL := [(.long p1), (.int (p2 - (1 : Int32)))]) (rest := []) (lenOf pd_oJIcV rfl) rfl (by show 2 * 0 + _ ≤ _; exact Nat.le_of_eq rfl) (hb hby at_74) (fun _ _ => ⟨rfl, e92, (by decide : 3 + 0 ≤ _), (by decide : 12 + 0 ≤ _)⟩)
      dsimp only [Pt.U, Pt.locs, Pt.cells, Pt.slots] at X155 l155 y155 z155 st155 hQ155
      subst l155 y155 z155
      obtain ⟨rfl, N155a, K155, Q155_0, Q155_1, Q155_2, Q155_3, Q155_4⟩ := hQ155
      have N155 := Fr.app N92 N155a
      have e155 : T155.heap = T155.heap := rfl
      have Z155 : n0 ≤ T155.heap.size := (Nat.le_trans Z92 K155.1)
      have O156 : Old Z n0 T155.heap := (O93.keep K155 (allS G32 all0))
      have S157 : Sta Z T155.heap "com/example/lintel/lintel/Figure" "POWERS_OF_TEN" "[J" (.ref pa) := (Sta.ext O156.2 H3)
      have A158 : Arv Z T155.heap pa pk .long (19 : Int32) [(.long (1 : Int64)), (.long (10 : Int64)), (.long (100 : Int64)), (.long (1000 : Int64)), (.long (10000 : Int64)), (.long (100000 : Int64)), (.long (1000000 : Int64)), (.long (10000000 : Int64)), (.long (100000000 : Int64)), (.long (1000000000 : Int64)), (.long (10000000000 : Int64)), (.long (100000000000 : Int64)), (.long (1000000000000 : Int64)), (.long (10000000000000 : Int64)), (.long (100000000000000 : Int64)), (.long (1000000000000000 : Int64)), (.long (10000000000000000 : Int64)), (.long (100000000000000000 : Int64)), (.long (1000000000000000000 : Int64))] (.long (0 : Int64)) := (A95.keep K155 (ninS ne32_pa nin0))
      have E159 : Exa Z T155.heap a1 "com/example/lintel/lintel/Figure" := (E96.keep K155)
      have E160 : Exa Z T155.heap a14 "com/example/lintel/lintel/Figure" := (E97.keep K155)
      have E161 : Exa Z T155.heap a32 "com/example/lintel/lintel/Figure" := (E98.keep K155)
      have E162 : Exa Z T155.heap a1 "com/example/lintel/lintel/Figure" := (E103.keep K155)
      have E163 : Exa Z T155.heap a1 "com/example/lintel/lintel/Figure" := (E104.keep K155)
      have F164 : Fld Z T155.heap a1 "com/example/lintel/lintel/Figure" "given" "Z" (.int (1 : Int32)) := (F105.keep K155 (ninS ne32_a1 nin0))
      have F165 : Fld Z T155.heap a1 "com/example/lintel/lintel/Figure" "unscaled" "J" (.long p1) := (F106.keep K155 (ninS ne32_a1 nin0))
      have F166 : Fld Z T155.heap a1 "com/example/lintel/lintel/Figure" "scale" "I" (.int p2) := (F107.keep K155 (ninS ne32_a1 nin0))
      have F167 : Fld Z T155.heap a1 "com/example/lintel/lintel/Figure" "large" "Ljava/math/BigDecimal;" .null := (F108.keep K155 (ninS ne32_a1 nin0))
      have E168 : Exa Z T155.heap a14 "com/example/lintel/lintel/Figure" := (Q92_0.keep K155)
      have F169 : Fld Z T155.heap a14 "com/example/lintel/lintel/Figure" "given" "Z" (.int (1 : Int32)) := (Q92_1.keep K155 (ninS ne32_a14 nin0))
      have F170 : Fld Z T155.heap a14 "com/example/lintel/lintel/Figure" "unscaled" "J" (.long p3) := (Q92_2.keep K155 (ninS ne32_a14 nin0))
      have F171 : Fld Z T155.heap a14 "com/example/lintel/lintel/Figure" "scale" "I" (.int p2) := (Q92_3.keep K155 (ninS ne32_a14 nin0))
      have F172 : Fld Z T155.heap a14 "com/example/lintel/lintel/Figure" "large" "Ljava/math/BigDecimal;" .null := (Q92_4.keep K155 (ninS ne32_a14 nin0))
      have cn173 : ∀ t, Steps p.tables e below (T155.setTop (mkF m 77 #[.val (.long p1), .second, .val (.int p2), .val (.long p3), .second, .val (.long p4), .second, .val (.int p5), .val (.int p6), .val (.ref a1), .val (.ref a14), .val (.ref a32), .unset] [])) t → Steps p.tables e below (s₁.setTop (entryFrame m #[(.long p1), (.int p2), (.long p3), (.long p4), (.int p5), (.int p6)] maxLocals)) t := fun t k => cn154 t (st155.trans k)
      have cn174 : ∀ t, Steps p.tables e below (T155.setTop (mkF m 78 #[.val (.long p1), .second, .val (.int p2), .val (.long p3), .second, .val (.long p4), .second, .val (.int p5), .val (.int p6), .val (.ref a1), .val (.ref a14), .val (.ref a32), .unset] [(.long p1)])) t → Steps p.tables e below (s₁.setTop (entryFrame m #[(.long p1), (.int p2), (.long p3), (.long p4), (.int p5), (.int p6)] maxLocals)) t := by
        intro t k
        refine cn173 t ?_
        refine o_lloadN X155.here hx (hb hby at_77) rfl ?_
        exact k
      obtain ⟨_, _, ⟨T175, L175, c175, n175⟩, -, X175, ⟨Lc175, hQ175, l175, y175, z175⟩, st175⟩ := Jvm.LawKit.callS X155 hx (y := (⟨"com/example/lintel/lintel/FigureSetPinLaw", "sign", "(J)I"⟩ : MethodName)) hown (mvT hZ (hw _ (List.mem_of_getElem? (i := 28) rfl))) (mvT hZ (hw _ (List.mem_of_getElem? (i := 29) rfl))) (mvT hZ (hw _ (List.mem_of_getElem? (i := 30) rfl))) (mvT hZ (hw _ (List.mem_of_getElem? (i := 31) rfl))) (by decide) (backOf (W := 0) (rmN l Z a0 hw [] p1 T155.heap n0 Z155) hZ (hw _ (List.mem_of_getElem? (i := 31) rfl)) (hw _ (List.mem_of_getElem? (i := 30) rfl)) (by decide) (by decide)) (g := (mkF m 78 #[.val (.long p1), .second, .val (.int p2), .val (.long p3), .second, .val (.long p4), .second, .val (.int p5), .val (.int p6), .val (.ref a1), .val (.ref a14), .val (.ref a32), .unset] [(.long p1)])) rfl (by rw [hml]; rfl) (argsL := [(.long p1)]) (rest := []) (lenOf pd_oJcI rfl) rfl (by show 2 * 0 + _ ≤ _; exact Nat.le_of_eq rfl) (hb hby at_78) (fun _ _ => ⟨rfl, e155, (by decide : 3 + 0 ≤ _), (by decide : 12 + 0 ≤ _)⟩)
      dsimp only [Pt.U, Pt.locs, Pt.cells, Pt.slots] at X175 l175 y175 z175 st175 hQ175
      subst l175 y175 z175
      obtain ⟨rfl, N175a, eh175⟩ := hQ175
      have N175 := Fr.app N155 N175a
      have e175 : T175.heap = T155.heap := eh175
      have cn176 : ∀ t, Steps p.tables e below (T175.setTop (mkF m 81 #[.val (.long p1), .second, .val (.int p2), .val (.long p3), .second, .val (.long p4), .second, .val (.int p5), .val (.int p6), .val (.ref a1), .val (.ref a14), .val (.ref a32), .unset] [(.int (own_sign p1))])) t → Steps p.tables e below (s₁.setTop (entryFrame m #[(.long p1), (.int p2), (.long p3), (.long p4), (.int p5), (.int p6)] maxLocals)) t := fun t k => cn174 t (st175 _ k)
      have cn177 : ∀ t, Steps p.tables e below (T175.setTop (mkF m 104 #[.val (.long p1), .second, .val (.int p2), .val (.long p3), .second, .val (.long p4), .second, .val (.int p5), .val (.int p6), .val (.ref a1), .val (.ref a14), .val (.ref a32), .val (.int (-(own_sign p1)))] [(.ref a1)])) t → Steps p.tables e below (s₁.setTop (entryFrame m #[(.long p1), (.int p2), (.long p3), (.long p4), (.int p5), (.int p6)] maxLocals)) t := by
        intro t k
        refine cn176 t ?_
        refine o_ineg X175.here hx (hb hby at_81) ?_
        refine o_istore X175.here hx (hb hby at_82) (l' := #[.val (.long p1), .second, .val (.int p2), .val (.long p3), .second, .val (.long p4), .second, .val (.int p5), .val (.int p6), .val (.ref a1), .val (.ref a14), .val (.ref a32), .val (.int (-(own_sign p1)))]) rfl ?_
        show Steps p.tables e below (T175.setTop (mkF m 84 #[.val (.long p1), .second, .val (.int p2), .val (.long p3), .second, .val (.long p4), .second, .val (.int p5), .val (.int p6), .val (.ref a1), .val (.ref a14), .val (.ref a32), .val (.int (-(own_sign p1)))] [])) _
        refine o_goto X175.here hx (pc' := 102) (hb hby at_84) (by decide) (by decide) ?_
        refine o_aload X175.here hx (hb hby at_102) rfl rfl ?_
        exact k
      obtain ⟨cq178, kq178, q178a, q178b, q178c⟩ := isOf hZ e175 E163
      obtain ⟨_, _, ⟨T178, L178, c178, n178⟩, -, X178, ⟨Lc178, hQ178, l178, y178, z178⟩, st178⟩ := X175.virtualBack hx (y := (⟨"com/example/lintel/lintel/Figure", "isGiven", "()Z"⟩ : MethodName)) (z := (⟨"com/example/lintel/lintel/Figure", "isGiven", "()Z"⟩ : MethodName)) hown (mvT hZ (hw _ (List.mem_of_getElem? (i := 32) rfl))) (mvT hZ (hw _ (List.mem_of_getElem? (i := 33) rfl))) (notFace_of_selects (args := #[]) (mvT hZ (hw _ (List.mem_of_getElem? (i := 35) rfl)))) (mvT hZ (hw _ (List.mem_of_getElem? (i := 35) rfl))) (mvT hZ (hw _ (List.mem_of_getElem? (i := 34) rfl))) (by decide) (backOf (W := 0) (rmV l Z a0 hw [] a1 T155.heap n0 Z155 F164) hZ (hw _ (List.mem_of_getElem? (i := 36) rfl)) (hw _ (List.mem_of_getElem? (i := 2) rfl)) (by decide) (by decide)) q178a q178c (g := (mkF m 104 #[.val (.long p1), .second, .val (.int p2), .val (.long p3), .second, .val (.long p4), .second, .val (.int p5), .val (.int p6), .val (.ref a1), .val (.ref a14), .val (.ref a32), .val (.int (-(own_sign p1)))] [(.ref a1)])) rfl (by rw [hml]; rfl) (Steps.refl _) (argsL := []) (rest := []) (lenOf pd_ocZ rfl) rfl (by show 2 * 0 + _ ≤ _; exact Nat.le_of_eq rfl) (hb hby at_104) (fun _ _ => ⟨rfl, e175, (by decide : 3 + 0 ≤ _), (by decide : 12 + 0 ≤ _)⟩)
      dsimp only [Pt.U, Pt.locs, Pt.cells, Pt.slots] at X178 l178 y178 z178 st178 hQ178
      subst l178 y178 z178
      obtain ⟨rfl, N178a, eh178⟩ := hQ178
      have N178 := Fr.app N175 N178a
      have e178 : T178.heap = T155.heap := eh178
      have cn179 : ∀ t, Steps p.tables e below (T178.setTop (mkF m 107 #[.val (.long p1), .second, .val (.int p2), .val (.long p3), .second, .val (.long p4), .second, .val (.int p5), .val (.int p6), .val (.ref a1), .val (.ref a14), .val (.ref a32), .val (.int (-(own_sign p1)))] [(.int (1 : Int32))])) t → Steps p.tables e below (s₁.setTop (entryFrame m #[(.long p1), (.int p2), (.long p3), (.long p4), (.int p5), (.int p6)] maxLocals)) t := fun t k => cn177 t (st178.trans k)
      have cn180 : ∀ t, Steps p.tables e below (T178.setTop (mkF m 112 #[.val (.long p1), .second, .val (.int p2), .val (.long p3), .second, .val (.long p4), .second, .val (.int p5), .val (.int p6), .val (.ref a1), .val (.ref a14), .val (.ref a32), .val (.int (-(own_sign p1)))] [(.ref a1)])) t → Steps p.tables e below (s₁.setTop (entryFrame m #[(.long p1), (.int p2), (.long p3), (.long p4), (.int p5), (.int p6)] maxLocals)) t := by
        intro t k
        refine cn179 t ?_
        refine o_ifNo X178.here hx (hb hby at_107) (by decide) ?_
        refine o_aload X178.here hx (hb hby at_110) rfl rfl ?_
        exact k
      obtain ⟨cq181, kq181, q181a, q181b, q181c⟩ := isOf hZ e178 E163
      obtain ⟨_, _, ⟨T181, L181, c181, n181⟩, -, X181, ⟨Lc181, hQ181, l181, y181, z181⟩, st181⟩ := X178.virtualBack hx (y := (⟨"com/example/lintel/lintel/Figure", "signum", "()I"⟩ : MethodName)) (z := (⟨"com/example/lintel/lintel/Figure", "signum", "()I"⟩ : MethodName)) hown (mvT hZ (hw _ (List.mem_of_getElem? (i := 37) rfl))) (mvT hZ (hw _ (List.mem_of_getElem? (i := 38) rfl))) (notFace_of_selects (args := #[]) (mvT hZ (hw _ (List.mem_of_getElem? (i := 40) rfl)))) (mvT hZ (hw _ (List.mem_of_getElem? (i := 40) rfl))) (mvT hZ (hw _ (List.mem_of_getElem? (i := 39) rfl))) (by decide) (backOf (W := 0) (rmW l Z a0 hw [] a1 p1 T155.heap n0 Z155 F167 F165) hZ (hw _ (List.mem_of_getElem? (i := 41) rfl)) (hw _ (List.mem_of_getElem? (i := 2) rfl)) (by decide) (by decide)) q181a q181c (g := (mkF m 112 #[.val (.long p1), .second, .val (.int p2), .val (.long p3), .second, .val (.long p4), .second, .val (.int p5), .val (.int p6), .val (.ref a1), .val (.ref a14), .val (.ref a32), .val (.int (-(own_sign p1)))] [(.ref a1)])) rfl (by rw [hml]; rfl) (Steps.refl _) (argsL := []) (rest := []) (lenOf pd_ocI rfl) rfl (by show 2 * 0 + _ ≤ _; exact Nat.le_of_eq rfl) (hb hby at_112) (fun _ _ => ⟨rfl, e178, (by decide : 3 + 0 ≤ _), (by decide : 12 + 0 ≤ _)⟩)
      dsimp only [Pt.U, Pt.locs, Pt.cells, Pt.slots] at X181 l181 y181 z181 st181 hQ181
      subst l181 y181 z181
      obtain ⟨rfl, N181a, eh181⟩ := hQ181
      have N181 := Fr.app N178 N181a
      have e181 : T181.heap = T155.heap := eh181
      have cn182 : ∀ t, Steps p.tables e below (T181.setTop (mkF m 115 #[.val (.long p1), .second, .val (.int p2), .val (.long p3), .second, .val (.long p4), .second, .val (.int p5), .val (.int p6), .val (.ref a1), .val (.ref a14), .val (.ref a32), .val (.int (-(own_sign p1)))] [(.int (own_sign p1))])) t → Steps p.tables e below (s₁.setTop (entryFrame m #[(.long p1), (.int p2), (.long p3), (.long p4), (.int p5), (.int p6)] maxLocals)) t := fun t k => cn180 t (st181.trans k)
      have cn183 : ∀ t, Steps p.tables e below (T181.setTop (mkF m 116 #[.val (.long p1), .second, .val (.int p2), .val (.long p3), .second, .val (.long p4), .second, .val (.int p5), .val (.int p6), .val (.ref a1), .val (.ref a14), .val (.ref a32), .val (.int (-(own_sign p1)))] [(.long p1), (.int (own_sign p1))])) t → Steps p.tables e below (s₁.setTop (entryFrame m #[(.long p1), (.int p2), (.long p3), (.long p4), (.int p5), (.int p6)] maxLocals)) t := by
        intro t k
        refine cn182 t ?_
        refine o_lloadN X181.here hx (hb hby at_115) rfl ?_
        exact k
      obtain ⟨_, _, ⟨T184, L184, c184, n184⟩, -, X184, ⟨Lc184, hQ184, l184, y184, z184⟩, st184⟩ := Jvm.LawKit.callS X181 hx (y := (⟨"com/example/lintel/lintel/FigureSetPinLaw", "sign", "(J)I"⟩ : MethodName)) hown (mvT hZ (hw _ (List.mem_of_getElem? (i := 28) rfl))) (mvT hZ (hw _ (List.mem_of_getElem? (i := 29) rfl))) (mvT hZ (hw _ (List.mem_of_getElem? (i := 30) rfl))) (mvT hZ (hw _ (List.mem_of_getElem? (i := 31) rfl))) (by decide) (backOf (W := 1) (rmN l Z a0 hw [] p1 T155.heap n0 Z155) hZ (hw _ (List.mem_of_getElem? (i := 31) rfl)) (hw _ (List.mem_of_getElem? (i := 30) rfl)) (by decide) (by decide)) (g := (mkF m 116 #[.val (.long p1), .second, .val (.int p2), .val (.long p3), .second, .val (.long p4), .second, .val (.int p5), .val (.int p6), .val (.ref a1), .val (.ref a14), .val (.ref a32), .val (.int (-(own_sign p1)))] [(.long p1), (.int (own_sign p1))])) rfl (by rw [hml]; rfl) (argsL := [(.long p1)]) (rest := [(.int (own_sign p1))]) (lenOf pd_oJcI rfl) rfl (by show 2 * 0 + _ ≤ _; exact Nat.le_of_eq rfl) (hb hby at_116) (fun _ _ => ⟨rfl, e181, (by decide : 3 + 0 ≤ _), (by decide : 12 + 0 ≤ _)⟩)
      dsimp only [Pt.U, Pt.locs, Pt.cells, Pt.slots] at X184 l184 y184 z184 st184 hQ184
      subst l184 y184 z184
      obtain ⟨rfl, N184a, eh184⟩ := hQ184
      have N184 := Fr.app N181 N184a
      have e184 : T184.heap = T155.heap := eh184
      have cn185 : ∀ t, Steps p.tables e below (T184.setTop (mkF m 119 #[.val (.long p1), .second, .val (.int p2), .val (.long p3), .second, .val (.long p4), .second, .val (.int p5), .val (.int p6), .val (.ref a1), .val (.ref a14), .val (.ref a32), .val (.int (-(own_sign p1)))] [(.int (own_sign p1)), (.int (own_sign p1))])) t → Steps p.tables e below (s₁.setTop (entryFrame m #[(.long p1), (.int p2), (.long p3), (.long p4), (.int p5), (.int p6)] maxLocals)) t := fun t k => cn183 t (st184 _ k)
      have cn186 : ∀ t, Steps p.tables e below (T184.setTop (mkF m 126 #[.val (.long p1), .second, .val (.int p2), .val (.long p3), .second, .val (.long p4), .second, .val (.int p5), .val (.int p6), .val (.ref a1), .val (.ref a14), .val (.ref a32), .val (.int (-(own_sign p1)))] [(.ref a14), (.ref a1)])) t → Steps p.tables e below (s₁.setTop (entryFrame m #[(.long p1), (.int p2), (.long p3), (.long p4), (.int p5), (.int p6)] maxLocals)) t := by
        intro t k
        refine cn185 t ?_
        refine o_icmpNo X184.here hx (hb hby at_119) (XT.ii_ne_f rfl) ?_
        refine o_aload X184.here hx (hb hby at_122) rfl rfl ?_
        refine o_aload X184.here hx (hb hby at_124) rfl rfl ?_
        exact k
      obtain ⟨cq187, kq187, q187a, q187b, q187c⟩ := isOf hZ e184 E163
      obtain ⟨_, _, ⟨T187, L187, c187, n187⟩, -, X187, ⟨Lc187, hQ187, l187, y187, z187⟩, st187⟩ := X184.virtualBack hx (y := (⟨"com/example/lintel/lintel/Figure", "compareTo", "(Lcom/example/lintel/lintel/Figure;)I"⟩ : MethodName)) (z := (⟨"com/example/lintel/lintel/Figure", "compareTo", "(Lcom/example/lintel/lintel/Figure;)I"⟩ : MethodName)) hown (mvT hZ (hw _ (List.mem_of_getElem? (i := 46) rfl))) (mvT hZ (hw _ (List.mem_of_getElem? (i := 47) rfl))) (notFace_of_selects (args := #[]) (mvT hZ (hw _ (List.mem_of_getElem? (i := 49) rfl)))) (mvT hZ (hw _ (List.mem_of_getElem? (i := 49) rfl))) (mvT hZ (hw _ (List.mem_of_getElem? (i := 48) rfl))) (by decide) (backOf (W := 0) (rmX l Z a0 hw [] a1 a14 p1 p2 p3 p2 pa pk T155.heap n0 Z155 F167 F165 F166 F172 F170 F171 S157 A158 (⟨fun h => absurd h (own_irr _), fun _ h => absurd rfl h⟩)) hZ (hw _ (List.mem_of_getElem? (i := 50) rfl)) (hw _ (List.mem_of_getElem? (i := 2) rfl)) (by decide) (by decide)) q187a q187c (g := (mkF m 126 #[.val (.long p1), .second, .val (.int p2), .val (.long p3), .second, .val (.long p4), .second, .val (.int p5), .val (.int p6), .val (.ref a1), .val (.ref a14), .val (.ref a32), .val (.int (-(own_sign p1)))] [(.ref a14), (.ref a1)])) rfl (by rw [hml]; rfl) (Steps.refl _) (argsL := [(.ref a14)]) (rest := []) (lenOf pd_oLcom_example_lintel_lintel_FigurescI rfl) rfl (by show 2 * 0 + _ ≤ _; exact Nat.le_of_eq rfl) (hb hby at_126) (fun _ _ => ⟨rfl, e184, (by decide : 3 + 0 ≤ _), (by decide : 12 + 0 ≤ _)⟩)
      dsimp only [Pt.U, Pt.locs, Pt.cells, Pt.slots] at X187 l187 y187 z187 st187 hQ187
      subst l187 y187 z187
      obtain ⟨rfl, N187a, eh187⟩ := hQ187
      have N187 := Fr.app N184 N187a
      have e187 : T187.heap = T155.heap := eh187
      have cn188 : ∀ t, Steps p.tables e below (T187.setTop (mkF m 129 #[.val (.long p1), .second, .val (.int p2), .val (.long p3), .second, .val (.long p4), .second, .val (.int p5), .val (.int p6), .val (.ref a1), .val (.ref a14), .val (.ref a32), .val (.int (-(own_sign p1)))] [(.int (own_compare p1 p2.toInt64 p3 p2.toInt64))])) t → Steps p.tables e below (s₁.setTop (entryFrame m #[(.long p1), (.int p2), (.long p3), (.long p4), (.int p5), (.int p6)] maxLocals)) t := fun t k => cn186 t (st187.trans k)
      have cn189 : ∀ t, Steps p.tables e below (T187.setTop (mkF m 131 #[.val (.long p1), .second, .val (.int p2), .val (.long p3), .second, .val (.long p4), .second, .val (.int p5), .val (.int p6), .val (.ref a1), .val (.ref a14), .val (.ref a32), .val (.int (-(own_sign p1)))] [(.long p3), (.long p1), (.int (own_compare p1 p2.toInt64 p3 p2.toInt64))])) t → Steps p.tables e below (s₁.setTop (entryFrame m #[(.long p1), (.int p2), (.long p3), (.long p4), (.int p5), (.int p6)] maxLocals)) t := by
        intro t k
        refine cn188 t ?_
        refine o_lloadN X187.here hx (hb hby at_129) rfl ?_
        refine o_lloadN X187.here hx (hb hby at_130) rfl ?_
        exact k
      obtain ⟨_, _, ⟨T190, L190, c190, n190⟩, -, X190, ⟨Lc190, hQ190, l190, y190, z190⟩, st190⟩ := Jvm.LawKit.callS X187 hx (y := (⟨"com/example/lintel/lintel/FigureSetPinLaw", "cmp", "(JJ)I"⟩ : MethodName)) hown (mvT hZ (hw _ (List.mem_of_getElem? (i := 57) rfl))) (mvT hZ (hw _ (List.mem_of_getElem? (i := 58) rfl))) (mvT hZ (hw _ (List.mem_of_getElem? (i := 30) rfl))) (mvT hZ (hw _ (List.mem_of_getElem? (i := 59) rfl))) (by decide) (backOf (W := 1) (rmM l Z a0 hw [] p1 p3 T155.heap n0 Z155) hZ (hw _ (List.mem_of_getElem? (i := 59) rfl)) (hw _ (List.mem_of_getElem? (i := 30) rfl)) (by decide) (by decide)) (g := (mkF m 131 #[.val (.long p1), .second, .val (.int p2), .val (.long p3), .second, .val (.long p4), .second, .val (.int p5), .val (.int p6), .val (.ref a1), .val (.ref a14), .val (.ref a32), .val (.int (-(own_sign p1)))] [(.long p3), (.long p1), (.int (own_compare p1 p2.toInt64 p3 p2.toInt64))])) rfl (by rw [hml]; rfl) (argsL := [(.long p1), (.long p3)]) (rest := [(.int (own_compare p1 p2.toInt64 p3 p2.toInt64))]) (lenOf pd_oJJcI rfl) rfl (by show 2 * 0 + _ ≤ _; exact Nat.le_of_eq rfl) (hb hby at_131) (fun _ _ => ⟨rfl, e187, (by decide : 3 + 0 ≤ _), (by decide : 12 + 0 ≤ _)⟩)
      dsimp only [Pt.U, Pt.locs, Pt.cells, Pt.slots] at X190 l190 y190 z190 st190 hQ190
      subst l190 y190 z190
      obtain ⟨rfl, N190a, eh190⟩ := hQ190
      have N190 := Fr.app N187 N190a
      have e190 : T190.heap = T155.heap := eh190
      have cn191 : ∀ t, Steps p.tables e below (T190.setTop (mkF m 134 #[.val (.long p1), .second, .val (.int p2), .val (.long p3), .second, .val (.long p4), .second, .val (.int p5), .val (.int p6), .val (.ref a1), .val (.ref a14), .val (.ref a32), .val (.int (-(own_sign p1)))] [(.int (own_cmp p1 p3)), (.int (own_compare p1 p2.toInt64 p3 p2.toInt64))])) t → Steps p.tables e below (s₁.setTop (entryFrame m #[(.long p1), (.int p2), (.long p3), (.long p4), (.int p5), (.int p6)] maxLocals)) t := fun t k => cn189 t (st190 _ k)
      have cn192 : ∀ t, Steps p.tables e below (T190.setTop (mkF m 141 #[.val (.long p1), .second, .val (.int p2), .val (.long p3), .second, .val (.long p4), .second, .val (.int p5), .val (.int p6), .val (.ref a1), .val (.ref a14), .val (.ref a32), .val (.int (-(own_sign p1)))] [(.ref a32), (.ref a1)])) t → Steps p.tables e below (s₁.setTop (entryFrame m #[(.long p1), (.int p2), (.long p3), (.long p4), (.int p5), (.int p6)] maxLocals)) t := by
        intro t k
        refine cn191 t ?_
        refine o_icmpNo X190.here hx (hb hby at_134) (XT.ii_ne_f (own_cmp_same _ _ _)) ?_
        refine o_aload X190.here hx (hb hby at_137) rfl rfl ?_
        refine o_aload X190.here hx (hb hby at_139) rfl rfl ?_
        exact k
      obtain ⟨cq193, kq193, q193a, q193b, q193c⟩ := isOf hZ e190 E163
      obtain ⟨_, _, ⟨T193, L193, c193, n193⟩, -, X193, ⟨Lc193, hQ193, l193, y193, z193⟩, st193⟩ := X190.virtualBack hx (y := (⟨"com/example/lintel/lintel/Figure", "compareTo", "(Lcom/example/lintel/lintel/Figure;)I"⟩ : MethodName)) (z := (⟨"com/example/lintel/lintel/Figure", "compareTo", "(Lcom/example/lintel/lintel/Figure;)I"⟩ : MethodName)) hown (mvT hZ (hw _ (List.mem_of_getElem? (i := 46) rfl))) (mvT hZ (hw _ (List.mem_of_getElem? (i := 47) rfl))) (notFace_of_selects (args := #[]) (mvT hZ (hw _ (List.mem_of_getElem? (i := 49) rfl)))) (mvT hZ (hw _ (List.mem_of_getElem? (i := 49) rfl))) (mvT hZ (hw _ (List.mem_of_getElem? (i := 48) rfl))) (by decide) (backOf (W := 0) (rmX l Z a0 hw [] a1 a32 p1 p2 p1 (p2 - (1 : Int32)) pa pk T155.heap n0 Z155 F167 F165 F166 Q155_4 Q155_2 Q155_3 S157 A158 (⟨fun h => absurd h (own_asymm (own_down p2 h65_111).1), fun _ _ => (own_down p2 h65_111).2⟩)) hZ (hw _ (List.mem_of_getElem? (i := 50) rfl)) (hw _ (List.mem_of_getElem? (i := 2) rfl)) (by decide) (by decide)) q193a q193c (g := (mkF m 141 #[.val (.long p1), .second, .val (.int p2), .val (.long p3), .second, .val (.long p4), .second, .val (.int p5), .val (.int p6), .val (.ref a1), .val (.ref a14), .val (.ref a32), .val (.int (-(own_sign p1)))] [(.ref a32), (.ref a1)])) rfl (by rw [hml]; rfl) (Steps.refl _) (argsL := [(.ref a32)]) (rest := []) (lenOf pd_oLcom_example_lintel_lintel_FigurescI rfl) rfl (by show 2 * 0 + _ ≤ _; exact Nat.le_of_eq rfl) (hb hby at_141) (fun _ _ => ⟨rfl, e190, (by decide : 3 + 0 ≤ _), (by decide : 12 + 0 ≤ _)⟩)
      dsimp only [Pt.U, Pt.locs, Pt.cells, Pt.slots] at X193 l193 y193 z193 st193 hQ193
      subst l193 y193 z193
      obtain ⟨rfl, N193a, eh193⟩ := hQ193
      have N193 := Fr.app N190 N193a
      have e193 : T193.heap = T155.heap := eh193
      have cn194 : ∀ t, Steps p.tables e below (T193.setTop (mkF m 144 #[.val (.long p1), .second, .val (.int p2), .val (.long p3), .second, .val (.long p4), .second, .val (.int p5), .val (.int p6), .val (.ref a1), .val (.ref a14), .val (.ref a32), .val (.int (-(own_sign p1)))] [(.int (own_compare p1 p2.toInt64 p1 (p2 - (1 : Int32)).toInt64))])) t → Steps p.tables e below (s₁.setTop (entryFrame m #[(.long p1), (.int p2), (.long p3), (.long p4), (.int p5), (.int p6)] maxLocals)) t := fun t k => cn192 t (st193.trans k)
      have cn195 : ∀ t, Steps p.tables e below (T193.setTop (mkF m 154 #[.val (.long p1), .second, .val (.int p2), .val (.long p3), .second, .val (.long p4), .second, .val (.int p5), .val (.int p6), .val (.ref a1), .val (.ref a14), .val (.ref a32), .val (.int (-(own_sign p1)))] [(.int (1 : Int32))])) t → Steps p.tables e below (s₁.setTop (entryFrame m #[(.long p1), (.int p2), (.long p3), (.long p4), (.int p5), (.int p6)] maxLocals)) t := by
        intro t k
        refine cn194 t ?_
        refine o_iload X193.here hx (hb hby at_144) rfl ?_
        show Steps p.tables e below (T193.setTop (mkF m 146 #[.val (.long p1), .second, .val (.int p2), .val (.long p3), .second, .val (.long p4), .second, .val (.int p5), .val (.int p6), .val (.ref a1), .val (.ref a14), .val (.ref a32), .val (.int (-(own_sign p1)))] [(.int (-(own_sign p1))), (.int (own_compare p1 p2.toInt64 p1 (p2 - (1 : Int32)).toInt64))])) _
        refine o_icmpNo X193.here hx (hb hby at_146) (XT.ii_ne_f (own_cmp_down _ _ h65_111)) ?_
        refine o_iconstV X193.here hx (1 : Int32) (hb hby at_149) rfl ?_
        show Steps p.tables e below (T193.setTop (mkF m 150 #[.val (.long p1), .second, .val (.int p2), .val (.long p3), .second, .val (.long p4), .second, .val (.int p5), .val (.int p6), .val (.ref a1), .val (.ref a14), .val (.ref a32), .val (.int (-(own_sign p1)))] [(.int (1 : Int32))])) _
        refine o_goto X193.here hx (pc' := 154) (hb hby at_150) (by decide) (by decide) ?_
        exact k
      obtain ⟨fs, hr, hrun, hended, hW, hsame⟩ := X193.leave (v := some (.int (1 : Int32))) (fun h => by rw [Bd.returns] at h; cases h)
      refine ⟨_, _, cn195 _ ?_, hrun, hended, _, _, rfl, ?_, ⟨_, rfl⟩, hW, hsame.mono (by decide) (by decide)⟩
      · exact retN X193 hx (t := .boolean) Bd.returns (by simp) (hb hby at_154) hr
      · show Q0 Z p1 p2 p3 p4 p5 p6 pa pk h0 n0 _ T193.heap _
        rw [e193]
        exact ⟨rfl, N193⟩
  · -- pc 40 not taken
    have cn196 : ∀ t, Steps p.tables e below (T55.setTop (mkF m 45 #[.val (.long p1), .second, .val (.int p2), .val (.long p3), .second, .val (.long p4), .second, .val (.int p5), .val (.int p6), .val (.ref a1), .val (.ref a14), .val (.ref a32), .unset] [(.ref a1)])) t → Steps p.tables e below (s₁.setTop (entryFrame m #[(.long p1), (.int p2), (.long p3), (.long p4), (.int p5), (.int p6)] maxLocals)) t := by
      intro t k
      refine cn71 t ?_
      refine o_ifNo X55.here hx (hb hby at_40) (XT.i0_eq_f h40_72) ?_
      refine o_aload X55.here hx (hb hby at_43) rfl rfl ?_
      exact k
    obtain ⟨cq197, kq197, q197a, q197b, q197c⟩ := isOf hZ e55 Q55_0
    obtain ⟨_, _, ⟨T197, L197, c197, n197⟩, -, X197, ⟨Lc197, hQ197, l197, y197, z197⟩, st197⟩ := X55.virtualBack hx (y := (⟨"com/example/lintel/lintel/Figure", "clear", "()V"⟩ : MethodName)) (z := (⟨"com/example/lintel/lintel/Figure", "clear", "()V"⟩ : MethodName)) hown (mvT hZ (hw _ (List.mem_of_getElem? (i := 22) rfl))) (mvT hZ (hw _ (List.mem_of_getElem? (i := 23) rfl))) (notFace_of_selects (args := #[]) (mvT hZ (hw _ (List.mem_of_getElem? (i := 25) rfl)))) (mvT hZ (hw _ (List.mem_of_getElem? (i := 25) rfl))) (mvT hZ (hw _ (List.mem_of_getElem? (i := 24) rfl))) (by decide) (backOf (W := 0) (rmL l Z a0 hw [] a1 (1 : Int32) p4 p5 T55.heap n0 Z55 Q55_0 G1 Q55_1 Q55_2 Q55_3 Q55_4) hZ (hw _ (List.mem_of_getElem? (i := 26) rfl)) (hw _ (List.mem_of_getElem? (i := 2) rfl)) (by decide) (by decide)) q197a q197c (g := (mkF m 45 #[.val (.long p1), .second, .val (.int p2), .val (.long p3), .second, .val (.long p4), .second, .val (.int p5), .val (.int p6), .val (.ref a1), .val (.ref a14), .val (.ref a32), .unset] [(.ref a1)])) rfl (by rw [hml]; rfl) (Steps.refl _) (argsL := []) (rest := []) (lenOf pd_ocV rfl) rfl (by show 2 * 0 + _ ≤ _; exact Nat.le_of_eq rfl) (hb hby at_45) (fun _ _ => ⟨rfl, e55, (by decide : 3 + 0 ≤ _), (by decide : 12 + 0 ≤ _)⟩)
    dsimp only [Pt.U, Pt.locs, Pt.cells, Pt.slots] at X197 l197 y197 z197 st197 hQ197
    subst l197 y197 z197
    obtain ⟨rfl, N197a, K197, Q197_0, Q197_1, Q197_2, Q197_3, Q197_4⟩ := hQ197
    have N197 := Fr.app N55 N197a
    have e197 : T197.heap = T197.heap := rfl
    have Z197 : n0 ≤ T197.heap.size := (Nat.le_trans Z55 K197.1)
    have O198 : Old Z n0 T197.heap := (O56.keep K197 (allS G1 all0))
    have S199 : Sta Z T197.heap "com/example/lintel/lintel/Figure" "POWERS_OF_TEN" "[J" (.ref pa) := (Sta.ext O198.2 H3)
    have A200 : Arv Z T197.heap pa pk .long (19 : Int32) [(.long (1 : Int64)), (.long (10 : Int64)), (.long (100 : Int64)), (.long (1000 : Int64)), (.long (10000 : Int64)), (.long (100000 : Int64)), (.long (1000000 : Int64)), (.long (10000000 : Int64)), (.long (100000000 : Int64)), (.long (1000000000 : Int64)), (.long (10000000000 : Int64)), (.long (100000000000 : Int64)), (.long (1000000000000 : Int64)), (.long (10000000000000 : Int64)), (.long (100000000000000 : Int64)), (.long (1000000000000000 : Int64)), (.long (10000000000000000 : Int64)), (.long (100000000000000000 : Int64)), (.long (1000000000000000000 : Int64))] (.long (0 : Int64)) := (A58.keep K197 (ninS ne1_pa nin0))
    have E201 : Exa Z T197.heap a1 "com/example/lintel/lintel/Figure" := (E59.keep K197)
    have E202 : Exa Z T197.heap a14 "com/example/lintel/lintel/Figure" := (E60.keep K197)
    have F203 : Fld Z T197.heap a14 "com/example/lintel/lintel/Figure" "given" "Z" (.int (0 : Int32)) := (F61.keep K197 (ninS (Ne.symm ne14_a1) nin0))
    have F204 : Fld Z T197.heap a14 "com/example/lintel/lintel/Figure" "unscaled" "J" (.long (0 : Int64)) := (F62.keep K197 (ninS (Ne.symm ne14_a1) nin0))
    have F205 : Fld Z T197.heap a14 "com/example/lintel/lintel/Figure" "scale" "I" (.int (0 : Int32)) := (F63.keep K197 (ninS (Ne.symm ne14_a1) nin0))
    have F206 : Fld Z T197.heap a14 "com/example/lintel/lintel/Figure" "large" "Ljava/math/BigDecimal;" .null := (F64.keep K197 (ninS (Ne.symm ne14_a1) nin0))
    have E207 : Exa Z T197.heap a32 "com/example/lintel/lintel/Figure" := (E65.keep K197)
    have F208 : Fld Z T197.heap a32 "com/example/lintel/lintel/Figure" "given" "Z" (.int (0 : Int32)) := (F66.keep K197 (ninS (Ne.symm ne32_a1) nin0))
    have F209 : Fld Z T197.heap a32 "com/example/lintel/lintel/Figure" "unscaled" "J" (.long (0 : Int64)) := (F67.keep K197 (ninS (Ne.symm ne32_a1) nin0))
    have F210 : Fld Z T197.heap a32 "com/example/lintel/lintel/Figure" "scale" "I" (.int (0 : Int32)) := (F68.keep K197 (ninS (Ne.symm ne32_a1) nin0))
    have F211 : Fld Z T197.heap a32 "com/example/lintel/lintel/Figure" "large" "Ljava/math/BigDecimal;" .null := (F69.keep K197 (ninS (Ne.symm ne32_a1) nin0))
    have E212 : Exa Z T197.heap a1 "com/example/lintel/lintel/Figure" := (Q55_0.keep K197)
    have cn213 : ∀ t, Steps p.tables e below (T197.setTop (mkF m 48 #[.val (.long p1), .second, .val (.int p2), .val (.long p3), .second, .val (.long p4), .second, .val (.int p5), .val (.int p6), .val (.ref a1), .val (.ref a14), .val (.ref a32), .unset] [])) t → Steps p.tables e below (s₁.setTop (entryFrame m #[(.long p1), (.int p2), (.long p3), (.long p4), (.int p5), (.int p6)] maxLocals)) t := fun t k => cn196 t (st197.trans k)
    have cn214 : ∀ t, Steps p.tables e below (T197.setTop (mkF m 52 #[.val (.long p1), .second, .val (.int p2), .val (.long p3), .second, .val (.long p4), .second, .val (.int p5), .val (.int p6), .val (.ref a1), .val (.ref a14), .val (.ref a32), .unset] [(.int p2), (.long p1), (.ref a1)])) t → Steps p.tables e below (s₁.setTop (entryFrame m #[(.long p1), (.int p2), (.long p3), (.long p4), (.int p5), (.int p6)] maxLocals)) t := by
      intro t k
      refine cn213 t ?_
      refine o_aload X197.here hx (hb hby at_48) rfl rfl ?_
      refine o_lloadN X197.here hx (hb hby at_50) rfl ?_
      refine o_iloadN X197.here hx (hb hby at_51) rfl ?_
      exact k
    obtain ⟨cq215, kq215, q215a, q215b, q215c⟩ := isOf hZ e197 Q197_0
    obtain ⟨_, _, ⟨T215, L215, c215, n215⟩, -, X215, ⟨Lc215, hQ215, l215, y215, z215⟩, st215⟩ := X197.virtualBack hx (y := (⟨"com/example/lintel/lintel/Figure", "set", "(JI)V"⟩ : MethodName)) (z := (⟨"com/example/lintel/lintel/Figure", "set", "(JI)V"⟩ : MethodName)) hown (mvT hZ (hw _ (List.mem_of_getElem? (i := 9) rfl))) (mvT hZ (hw _ (List.mem_of_getElem? (i := 10) rfl))) (notFace_of_selects (args := #[]) (mvT hZ (hw _ (List.mem_of_getElem? (i := 12) rfl)))) (mvT hZ (hw _ (List.mem_of_getElem? (i := 12) rfl))) (mvT hZ (hw _ (List.mem_of_getElem? (i := 11) rfl))) (by decide) (backOf (W := 0) (rmS l Z a0 hw [] a1 p1 p2 (0 : Int32) p4 p5 T197.heap n0 Z197 Q197_0 G1 Q197_1 Q197_2 Q197_3 Q197_4) hZ (hw _ (List.mem_of_getElem? (i := 13) rfl)) (hw _ (List.mem_of_getElem? (i := 2) rfl)) (by decide) (by decide)) q215a q215c (g := (mkF m 52 #[.val (.long p1), .second, .val (.int p2), .val (.long p3), .second, .val (.long p4), .second, .val (.int p5), .val (.int p6), .val (.ref a1), .val (.ref a14), .val (.ref a32), .unset] [(.int p2), (.long p1), (.ref a1)])) rfl (by rw [hml]; rfl) (Steps.refl _) (argsL := [(.long p1), (.int p2)]) (rest := []) (lenOf pd_oJIcV rfl) rfl (by show 2 * 0 + _ ≤ _; exact Nat.le_of_eq rfl) (hb hby at_52) (fun _ _ => ⟨rfl, e197, (by decide : 3 + 0 ≤ _), (by decide : 12 + 0 ≤ _)⟩)
    dsimp only [Pt.U, Pt.locs, Pt.cells, Pt.slots] at X215 l215 y215 z215 st215 hQ215
    subst l215 y215 z215
    obtain ⟨rfl, N215a, K215, Q215_0, Q215_1, Q215_2, Q215_3, Q215_4⟩ := hQ215
    have N215 := Fr.app N197 N215a
    have e215 : T215.heap = T215.heap := rfl
    have Z215 : n0 ≤ T215.heap.size := (Nat.le_trans Z197 K215.1)
    have O216 : Old Z n0 T215.heap := (O198.keep K215 (allS G1 all0))
    have S217 : Sta Z T215.heap "com/example/lintel/lintel/Figure" "POWERS_OF_TEN" "[J" (.ref pa) := (Sta.ext O216.2 H3)
    have A218 : Arv Z T215.heap pa pk .long (19 : Int32) [(.long (1 : Int64)), (.long (10 : Int64)), (.long (100 : Int64)), (.long (1000 : Int64)), (.long (10000 : Int64)), (.long (100000 : Int64)), (.long (1000000 : Int64)), (.long (10000000 : Int64)), (.long (100000000 : Int64)), (.long (1000000000 : Int64)), (.long (10000000000 : Int64)), (.long (100000000000 : Int64)), (.long (1000000000000 : Int64)), (.long (10000000000000 : Int64)), (.long (100000000000000 : Int64)), (.long (1000000000000000 : Int64)), (.long (10000000000000000 : Int64)), (.long (100000000000000000 : Int64)), (.long (1000000000000000000 : Int64))] (.long (0 : Int64)) := (A200.keep K215 (ninS ne1_pa nin0))
    have E219 : Exa Z T215.heap a1 "com/example/lintel/lintel/Figure" := (E201.keep K215)
    have E220 : Exa Z T215.heap a14 "com/example/lintel/lintel/Figure" := (E202.keep K215)
    have F221 : Fld Z T215.heap a14 "com/example/lintel/lintel/Figure" "given" "Z" (.int (0 : Int32)) := (F203.keep K215 (ninS (Ne.symm ne14_a1) nin0))
    have F222 : Fld Z T215.heap a14 "com/example/lintel/lintel/Figure" "unscaled" "J" (.long (0 : Int64)) := (F204.keep K215 (ninS (Ne.symm ne14_a1) nin0))
    have F223 : Fld Z T215.heap a14 "com/example/lintel/lintel/Figure" "scale" "I" (.int (0 : Int32)) := (F205.keep K215 (ninS (Ne.symm ne14_a1) nin0))
    have F224 : Fld Z T215.heap a14 "com/example/lintel/lintel/Figure" "large" "Ljava/math/BigDecimal;" .null := (F206.keep K215 (ninS (Ne.symm ne14_a1) nin0))
    have E225 : Exa Z T215.heap a32 "com/example/lintel/lintel/Figure" := (E207.keep K215)
    have F226 : Fld Z T215.heap a32 "com/example/lintel/lintel/Figure" "given" "Z" (.int (0 : Int32)) := (F208.keep K215 (ninS (Ne.symm ne32_a1) nin0))
    have F227 : Fld Z T215.heap a32 "com/example/lintel/lintel/Figure" "unscaled" "J" (.long (0 : Int64)) := (F209.keep K215 (ninS (Ne.symm ne32_a1) nin0))
    have F228 : Fld Z T215.heap a32 "com/example/lintel/lintel/Figure" "scale" "I" (.int (0 : Int32)) := (F210.keep K215 (ninS (Ne.symm ne32_a1) nin0))
    have F229 : Fld Z T215.heap a32 "com/example/lintel/lintel/Figure" "large" "Ljava/math/BigDecimal;" .null := (F211.keep K215 (ninS (Ne.symm ne32_a1) nin0))
    have E230 : Exa Z T215.heap a1 "com/example/lintel/lintel/Figure" := (E212.keep K215)
    have E231 : Exa Z T215.heap a1 "com/example/lintel/lintel/Figure" := (Q197_0.keep K215)
    have cn232 : ∀ t, Steps p.tables e below (T215.setTop (mkF m 55 #[.val (.long p1), .second, .val (.int p2), .val (.long p3), .second, .val (.long p4), .second, .val (.int p5), .val (.int p6), .val (.ref a1), .val (.ref a14), .val (.ref a32), .unset] [])) t → Steps p.tables e below (s₁.setTop (entryFrame m #[(.long p1), (.int p2), (.long p3), (.long p4), (.int p5), (.int p6)] maxLocals)) t := fun t k => cn214 t (st215.trans k)
    have cn233 : ∀ t, Steps p.tables e below (T215.setTop (mkF m 59 #[.val (.long p1), .second, .val (.int p2), .val (.long p3), .second, .val (.long p4), .second, .val (.int p5), .val (.int p6), .val (.ref a1), .val (.ref a14), .val (.ref a32), .unset] [(.int p2), (.long p3), (.ref a14)])) t → Steps p.tables e below (s₁.setTop (entryFrame m #[(.long p1), (.int p2), (.long p3), (.long p4), (.int p5), (.int p6)] maxLocals)) t := by
      intro t k
      refine cn232 t ?_
      refine o_aload X215.here hx (hb hby at_55) rfl rfl ?_
      refine o_lloadN X215.here hx (hb hby at_57) rfl ?_
      refine o_iloadN X215.here hx (hb hby at_58) rfl ?_
      exact k
    obtain ⟨cq234, kq234, q234a, q234b, q234c⟩ := isOf hZ e215 E220
    obtain ⟨_, _, ⟨T234, L234, c234, n234⟩, -, X234, ⟨Lc234, hQ234, l234, y234, z234⟩, st234⟩ := X215.virtualBack hx (y := (⟨"com/example/lintel/lintel/Figure", "set", "(JI)V"⟩ : MethodName)) (z := (⟨"com/example/lintel/lintel/Figure", "set", "(JI)V"⟩ : MethodName)) hown (mvT hZ (hw _ (List.mem_of_getElem? (i := 9) rfl))) (mvT hZ (hw _ (List.mem_of_getElem? (i := 10) rfl))) (notFace_of_selects (args := #[]) (mvT hZ (hw _ (List.mem_of_getElem? (i := 12) rfl)))) (mvT hZ (hw _ (List.mem_of_getElem? (i := 12) rfl))) (mvT hZ (hw _ (List.mem_of_getElem? (i := 11) rfl))) (by decide) (backOf (W := 0) (rmS l Z a0 hw [] a14 p3 p2 (0 : Int32) (0 : Int64) (0 : Int32) T215.heap n0 Z215 E220 G14 F221 F222 F223 F224) hZ (hw _ (List.mem_of_getElem? (i := 13) rfl)) (hw _ (List.mem_of_getElem? (i := 2) rfl)) (by decide) (by decide)) q234a q234c (g := (mkF m 59 #[.val (.long p1), .second, .val (.int p2), .val (.long p3), .second, .val (.long p4), .second, .val (.int p5), .val (.int p6), .val (.ref a1), .val (.ref a14), .val (.ref a32), .unset] [(.int p2), (.long p3), (.ref a14)])) rfl (by rw [hml]; rfl) (Steps.refl _) (argsL := [(.long p3), (.int p2)]) (rest := []) (lenOf pd_oJIcV rfl) rfl (by show 2 * 0 + _ ≤ _; exact Nat.le_of_eq rfl) (hb hby at_59) (fun _ _ => ⟨rfl, e215, (by decide : 3 + 0 ≤ _), (by decide : 12 + 0 ≤ _)⟩)
    dsimp only [Pt.U, Pt.locs, Pt.cells, Pt.slots] at X234 l234 y234 z234 st234 hQ234
    subst l234 y234 z234
    obtain ⟨rfl, N234a, K234, Q234_0, Q234_1, Q234_2, Q234_3, Q234_4⟩ := hQ234
    have N234 := Fr.app N215 N234a
    have e234 : T234.heap = T234.heap := rfl
    have Z234 : n0 ≤ T234.heap.size := (Nat.le_trans Z215 K234.1)
    have O235 : Old Z n0 T234.heap := (O216.keep K234 (allS G14 all0))
    have S236 : Sta Z T234.heap "com/example/lintel/lintel/Figure" "POWERS_OF_TEN" "[J" (.ref pa) := (Sta.ext O235.2 H3)
    have A237 : Arv Z T234.heap pa pk .long (19 : Int32) [(.long (1 : Int64)), (.long (10 : Int64)), (.long (100 : Int64)), (.long (1000 : Int64)), (.long (10000 : Int64)), (.long (100000 : Int64)), (.long (1000000 : Int64)), (.long (10000000 : Int64)), (.long (100000000 : Int64)), (.long (1000000000 : Int64)), (.long (10000000000 : Int64)), (.long (100000000000 : Int64)), (.long (1000000000000 : Int64)), (.long (10000000000000 : Int64)), (.long (100000000000000 : Int64)), (.long (1000000000000000 : Int64)), (.long (10000000000000000 : Int64)), (.long (100000000000000000 : Int64)), (.long (1000000000000000000 : Int64))] (.long (0 : Int64)) := (A218.keep K234 (ninS ne14_pa nin0))
    have E238 : Exa Z T234.heap a1 "com/example/lintel/lintel/Figure" := (E219.keep K234)
    have E239 : Exa Z T234.heap a14 "com/example/lintel/lintel/Figure" := (E220.keep K234)
    have E240 : Exa Z T234.heap a32 "com/example/lintel/lintel/Figure" := (E225.keep K234)
    have F241 : Fld Z T234.heap a32 "com/example/lintel/lintel/Figure" "given" "Z" (.int (0 : Int32)) := (F226.keep K234 (ninS (Ne.symm ne32_a14) nin0))
    have F242 : Fld Z T234.heap a32 "com/example/lintel/lintel/Figure" "unscaled" "J" (.long (0 : Int64)) := (F227.keep K234 (ninS (Ne.symm ne32_a14) nin0))
    have F243 : Fld Z T234.heap a32 "com/example/lintel/lintel/Figure" "scale" "I" (.int (0 : Int32)) := (F228.keep K234 (ninS (Ne.symm ne32_a14) nin0))
    have F244 : Fld Z T234.heap a32 "com/example/lintel/lintel/Figure" "large" "Ljava/math/BigDecimal;" .null := (F229.keep K234 (ninS (Ne.symm ne32_a14) nin0))
    have E245 : Exa Z T234.heap a1 "com/example/lintel/lintel/Figure" := (E230.keep K234)
    have E246 : Exa Z T234.heap a1 "com/example/lintel/lintel/Figure" := (E231.keep K234)
    have E247 : Exa Z T234.heap a1 "com/example/lintel/lintel/Figure" := (Q215_0.keep K234)
    have F248 : Fld Z T234.heap a1 "com/example/lintel/lintel/Figure" "given" "Z" (.int (1 : Int32)) := (Q215_1.keep K234 (ninS ne14_a1 nin0))
    have F249 : Fld Z T234.heap a1 "com/example/lintel/lintel/Figure" "unscaled" "J" (.long p1) := (Q215_2.keep K234 (ninS ne14_a1 nin0))
    have F250 : Fld Z T234.heap a1 "com/example/lintel/lintel/Figure" "scale" "I" (.int p2) := (Q215_3.keep K234 (ninS ne14_a1 nin0))
    have F251 : Fld Z T234.heap a1 "com/example/lintel/lintel/Figure" "large" "Ljava/math/BigDecimal;" .null := (Q215_4.keep K234 (ninS ne14_a1 nin0))
    have cn252 : ∀ t, Steps p.tables e below (T234.setTop (mkF m 62 #[.val (.long p1), .second, .val (.int p2), .val (.long p3), .second, .val (.long p4), .second, .val (.int p5), .val (.int p6), .val (.ref a1), .val (.ref a14), .val (.ref a32), .unset] [])) t → Steps p.tables e below (s₁.setTop (entryFrame m #[(.long p1), (.int p2), (.long p3), (.long p4), (.int p5), (.int p6)] maxLocals)) t := fun t k => cn233 t (st234.trans k)
    have cn253 : ∀ t, Steps p.tables e below (T234.setTop (mkF m 65 #[.val (.long p1), .second, .val (.int p2), .val (.long p3), .second, .val (.long p4), .second, .val (.int p5), .val (.int p6), .val (.ref a1), .val (.ref a14), .val (.ref a32), .unset] [(.int (-2147483648 : Int32)), (.int p2)])) t → Steps p.tables e below (s₁.setTop (entryFrame m #[(.long p1), (.int p2), (.long p3), (.long p4), (.int p5), (.int p6)] maxLocals)) t := by
      intro t k
      refine cn252 t ?_
      refine o_iloadN X234.here hx (hb hby at_62) rfl ?_
      refine X234.ldcI hx hown (mvT hZ (hw _ (List.mem_of_getElem? (i := 27) rfl))) rfl (hb hby at_63) ?_
      show Steps p.tables e below (T234.setTop (mkF m 65 #[.val (.long p1), .second, .val (.int p2), .val (.long p3), .second, .val (.long p4), .second, .val (.int p5), .val (.int p6), .val (.ref a1), .val (.ref a14), .val (.ref a32), .unset] [(.int (-2147483648 : Int32)), (.int p2)])) _
      exact k
    by_cases h65_254 : p2 = (-2147483648 : Int32)
    · -- pc 65 taken
      have cn255 : ∀ t, Steps p.tables e below (T234.setTop (mkF m 93 #[.val (.long p1), .second, .val (.int p2), .val (.long p3), .second, .val (.long p4), .second, .val (.int p5), .val (.int p6), .val (.ref a1), .val (.ref a14), .val (.ref a32), .unset] [(.int (p2 + (1 : Int32))), (.long p1), (.ref a32)])) t → Steps p.tables e below (s₁.setTop (entryFrame m #[(.long p1), (.int p2), (.long p3), (.long p4), (.int p5), (.int p6)] maxLocals)) t := by
        intro t k
        refine cn253 t ?_
        refine o_icmpYes X234.here hx (pc' := 87) (hb hby at_65) (XT.ii_eq_t h65_254) (by decide) (by decide) ?_
        refine o_aload X234.here hx (hb hby at_87) rfl rfl ?_
        refine o_lloadN X234.here hx (hb hby at_89) rfl ?_
        refine o_iloadN X234.here hx (hb hby at_90) rfl ?_
        refine o_iconstV X234.here hx (1 : Int32) (hb hby at_91) rfl ?_
        refine o_iadd X234.here hx (hb hby at_92) ?_
        exact k
      obtain ⟨cq256, kq256, q256a, q256b, q256c⟩ := isOf hZ e234 E240
      obtain ⟨_, _, ⟨T256, L256, c256, n256⟩, -, X256, ⟨Lc256, hQ256, l256, y256, z256⟩, st256⟩ := X234.virtualBack hx (y := (⟨"com/example/lintel/lintel/Figure", "set", "(JI)V"⟩ : MethodName)) (z := (⟨"com/example/lintel/lintel/Figure", "set", "(JI)V"⟩ : MethodName)) hown (mvT hZ (hw _ (List.mem_of_getElem? (i := 9) rfl))) (mvT hZ (hw _ (List.mem_of_getElem? (i := 10) rfl))) (notFace_of_selects (args := #[]) (mvT hZ (hw _ (List.mem_of_getElem? (i := 12) rfl)))) (mvT hZ (hw _ (List.mem_of_getElem? (i := 12) rfl))) (mvT hZ (hw _ (List.mem_of_getElem? (i := 11) rfl))) (by decide) (backOf (W := 0) (rmS l Z a0 hw [] a32 p1 (p2 + (1 : Int32)) (0 : Int32) (0 : Int64) (0 : Int32) T234.heap n0 Z234 E240 G32 F241 F242 F243 F244) hZ (hw _ (List.mem_of_getElem? (i := 13) rfl)) (hw _ (List.mem_of_getElem? (i := 2) rfl)) (by decide) (by decide)) q256a q256c (g := (mkF m 93 #[.val (.long p1), .second, .val (.int p2), .val (.long p3), .second, .val (.long p4), .second, .val (.int p5), .val (.int p6), .val (.ref a1), .val (.ref a14), .val (.ref a32), .unset] [(.int (p2 + (1 : Int32))), (.long p1), (.ref a32)])) rfl (by rw [hml]; rfl) (Steps.refl _) (argsL := [(.long p1), (.int (p2 + (1 : Int32)))]) (rest := []) (lenOf pd_oJIcV rfl) rfl (by show 2 * 0 + _ ≤ _; exact Nat.le_of_eq rfl) (hb hby at_93) (fun _ _ => ⟨rfl, e234, (by decide : 3 + 0 ≤ _), (by decide : 12 + 0 ≤ _)⟩)
      dsimp only [Pt.U, Pt.locs, Pt.cells, Pt.slots] at X256 l256 y256 z256 st256 hQ256
      subst l256 y256 z256
      obtain ⟨rfl, N256a, K256, Q256_0, Q256_1, Q256_2, Q256_3, Q256_4⟩ := hQ256
      have N256 := Fr.app N234 N256a
      have e256 : T256.heap = T256.heap := rfl
      have Z256 : n0 ≤ T256.heap.size := (Nat.le_trans Z234 K256.1)
      have O257 : Old Z n0 T256.heap := (O235.keep K256 (allS G32 all0))
      have S258 : Sta Z T256.heap "com/example/lintel/lintel/Figure" "POWERS_OF_TEN" "[J" (.ref pa) := (Sta.ext O257.2 H3)
      have A259 : Arv Z T256.heap pa pk .long (19 : Int32) [(.long (1 : Int64)), (.long (10 : Int64)), (.long (100 : Int64)), (.long (1000 : Int64)), (.long (10000 : Int64)), (.long (100000 : Int64)), (.long (1000000 : Int64)), (.long (10000000 : Int64)), (.long (100000000 : Int64)), (.long (1000000000 : Int64)), (.long (10000000000 : Int64)), (.long (100000000000 : Int64)), (.long (1000000000000 : Int64)), (.long (10000000000000 : Int64)), (.long (100000000000000 : Int64)), (.long (1000000000000000 : Int64)), (.long (10000000000000000 : Int64)), (.long (100000000000000000 : Int64)), (.long (1000000000000000000 : Int64))] (.long (0 : Int64)) := (A237.keep K256 (ninS ne32_pa nin0))
      have E260 : Exa Z T256.heap a1 "com/example/lintel/lintel/Figure" := (E238.keep K256)
      have E261 : Exa Z T256.heap a14 "com/example/lintel/lintel/Figure" := (E239.keep K256)
      have E262 : Exa Z T256.heap a32 "com/example/lintel/lintel/Figure" := (E240.keep K256)
      have E263 : Exa Z T256.heap a1 "com/example/lintel/lintel/Figure" := (E245.keep K256)
      have E264 : Exa Z T256.heap a1 "com/example/lintel/lintel/Figure" := (E246.keep K256)
      have E265 : Exa Z T256.heap a1 "com/example/lintel/lintel/Figure" := (E247.keep K256)
      have F266 : Fld Z T256.heap a1 "com/example/lintel/lintel/Figure" "given" "Z" (.int (1 : Int32)) := (F248.keep K256 (ninS ne32_a1 nin0))
      have F267 : Fld Z T256.heap a1 "com/example/lintel/lintel/Figure" "unscaled" "J" (.long p1) := (F249.keep K256 (ninS ne32_a1 nin0))
      have F268 : Fld Z T256.heap a1 "com/example/lintel/lintel/Figure" "scale" "I" (.int p2) := (F250.keep K256 (ninS ne32_a1 nin0))
      have F269 : Fld Z T256.heap a1 "com/example/lintel/lintel/Figure" "large" "Ljava/math/BigDecimal;" .null := (F251.keep K256 (ninS ne32_a1 nin0))
      have E270 : Exa Z T256.heap a14 "com/example/lintel/lintel/Figure" := (Q234_0.keep K256)
      have F271 : Fld Z T256.heap a14 "com/example/lintel/lintel/Figure" "given" "Z" (.int (1 : Int32)) := (Q234_1.keep K256 (ninS ne32_a14 nin0))
      have F272 : Fld Z T256.heap a14 "com/example/lintel/lintel/Figure" "unscaled" "J" (.long p3) := (Q234_2.keep K256 (ninS ne32_a14 nin0))
      have F273 : Fld Z T256.heap a14 "com/example/lintel/lintel/Figure" "scale" "I" (.int p2) := (Q234_3.keep K256 (ninS ne32_a14 nin0))
      have F274 : Fld Z T256.heap a14 "com/example/lintel/lintel/Figure" "large" "Ljava/math/BigDecimal;" .null := (Q234_4.keep K256 (ninS ne32_a14 nin0))
      have cn275 : ∀ t, Steps p.tables e below (T256.setTop (mkF m 96 #[.val (.long p1), .second, .val (.int p2), .val (.long p3), .second, .val (.long p4), .second, .val (.int p5), .val (.int p6), .val (.ref a1), .val (.ref a14), .val (.ref a32), .unset] [])) t → Steps p.tables e below (s₁.setTop (entryFrame m #[(.long p1), (.int p2), (.long p3), (.long p4), (.int p5), (.int p6)] maxLocals)) t := fun t k => cn255 t (st256.trans k)
      have cn276 : ∀ t, Steps p.tables e below (T256.setTop (mkF m 97 #[.val (.long p1), .second, .val (.int p2), .val (.long p3), .second, .val (.long p4), .second, .val (.int p5), .val (.int p6), .val (.ref a1), .val (.ref a14), .val (.ref a32), .unset] [(.long p1)])) t → Steps p.tables e below (s₁.setTop (entryFrame m #[(.long p1), (.int p2), (.long p3), (.long p4), (.int p5), (.int p6)] maxLocals)) t := by
        intro t k
        refine cn275 t ?_
        refine o_lloadN X256.here hx (hb hby at_96) rfl ?_
        exact k
      obtain ⟨_, _, ⟨T277, L277, c277, n277⟩, -, X277, ⟨Lc277, hQ277, l277, y277, z277⟩, st277⟩ := Jvm.LawKit.callS X256 hx (y := (⟨"com/example/lintel/lintel/FigureSetPinLaw", "sign", "(J)I"⟩ : MethodName)) hown (mvT hZ (hw _ (List.mem_of_getElem? (i := 28) rfl))) (mvT hZ (hw _ (List.mem_of_getElem? (i := 29) rfl))) (mvT hZ (hw _ (List.mem_of_getElem? (i := 30) rfl))) (mvT hZ (hw _ (List.mem_of_getElem? (i := 31) rfl))) (by decide) (backOf (W := 0) (rmN l Z a0 hw [] p1 T256.heap n0 Z256) hZ (hw _ (List.mem_of_getElem? (i := 31) rfl)) (hw _ (List.mem_of_getElem? (i := 30) rfl)) (by decide) (by decide)) (g := (mkF m 97 #[.val (.long p1), .second, .val (.int p2), .val (.long p3), .second, .val (.long p4), .second, .val (.int p5), .val (.int p6), .val (.ref a1), .val (.ref a14), .val (.ref a32), .unset] [(.long p1)])) rfl (by rw [hml]; rfl) (argsL := [(.long p1)]) (rest := []) (lenOf pd_oJcI rfl) rfl (by show 2 * 0 + _ ≤ _; exact Nat.le_of_eq rfl) (hb hby at_97) (fun _ _ => ⟨rfl, e256, (by decide : 3 + 0 ≤ _), (by decide : 12 + 0 ≤ _)⟩)
      dsimp only [Pt.U, Pt.locs, Pt.cells, Pt.slots] at X277 l277 y277 z277 st277 hQ277
      subst l277 y277 z277
      obtain ⟨rfl, N277a, eh277⟩ := hQ277
      have N277 := Fr.app N256 N277a
      have e277 : T277.heap = T256.heap := eh277
      have cn278 : ∀ t, Steps p.tables e below (T277.setTop (mkF m 100 #[.val (.long p1), .second, .val (.int p2), .val (.long p3), .second, .val (.long p4), .second, .val (.int p5), .val (.int p6), .val (.ref a1), .val (.ref a14), .val (.ref a32), .unset] [(.int (own_sign p1))])) t → Steps p.tables e below (s₁.setTop (entryFrame m #[(.long p1), (.int p2), (.long p3), (.long p4), (.int p5), (.int p6)] maxLocals)) t := fun t k => cn276 t (st277 _ k)
      have cn279 : ∀ t, Steps p.tables e below (T277.setTop (mkF m 104 #[.val (.long p1), .second, .val (.int p2), .val (.long p3), .second, .val (.long p4), .second, .val (.int p5), .val (.int p6), .val (.ref a1), .val (.ref a14), .val (.ref a32), .val (.int (own_sign p1))] [(.ref a1)])) t → Steps p.tables e below (s₁.setTop (entryFrame m #[(.long p1), (.int p2), (.long p3), (.long p4), (.int p5), (.int p6)] maxLocals)) t := by
        intro t k
        refine cn278 t ?_
        refine o_istore X277.here hx (hb hby at_100) (l' := #[.val (.long p1), .second, .val (.int p2), .val (.long p3), .second, .val (.long p4), .second, .val (.int p5), .val (.int p6), .val (.ref a1), .val (.ref a14), .val (.ref a32), .val (.int (own_sign p1))]) rfl ?_
        refine o_aload X277.here hx (hb hby at_102) rfl rfl ?_
        exact k
      obtain ⟨cq280, kq280, q280a, q280b, q280c⟩ := isOf hZ e277 E265
      obtain ⟨_, _, ⟨T280, L280, c280, n280⟩, -, X280, ⟨Lc280, hQ280, l280, y280, z280⟩, st280⟩ := X277.virtualBack hx (y := (⟨"com/example/lintel/lintel/Figure", "isGiven", "()Z"⟩ : MethodName)) (z := (⟨"com/example/lintel/lintel/Figure", "isGiven", "()Z"⟩ : MethodName)) hown (mvT hZ (hw _ (List.mem_of_getElem? (i := 32) rfl))) (mvT hZ (hw _ (List.mem_of_getElem? (i := 33) rfl))) (notFace_of_selects (args := #[]) (mvT hZ (hw _ (List.mem_of_getElem? (i := 35) rfl)))) (mvT hZ (hw _ (List.mem_of_getElem? (i := 35) rfl))) (mvT hZ (hw _ (List.mem_of_getElem? (i := 34) rfl))) (by decide) (backOf (W := 0) (rmV l Z a0 hw [] a1 T256.heap n0 Z256 F266) hZ (hw _ (List.mem_of_getElem? (i := 36) rfl)) (hw _ (List.mem_of_getElem? (i := 2) rfl)) (by decide) (by decide)) q280a q280c (g := (mkF m 104 #[.val (.long p1), .second, .val (.int p2), .val (.long p3), .second, .val (.long p4), .second, .val (.int p5), .val (.int p6), .val (.ref a1), .val (.ref a14), .val (.ref a32), .val (.int (own_sign p1))] [(.ref a1)])) rfl (by rw [hml]; rfl) (Steps.refl _) (argsL := []) (rest := []) (lenOf pd_ocZ rfl) rfl (by show 2 * 0 + _ ≤ _; exact Nat.le_of_eq rfl) (hb hby at_104) (fun _ _ => ⟨rfl, e277, (by decide : 3 + 0 ≤ _), (by decide : 12 + 0 ≤ _)⟩)
      dsimp only [Pt.U, Pt.locs, Pt.cells, Pt.slots] at X280 l280 y280 z280 st280 hQ280
      subst l280 y280 z280
      obtain ⟨rfl, N280a, eh280⟩ := hQ280
      have N280 := Fr.app N277 N280a
      have e280 : T280.heap = T256.heap := eh280
      have cn281 : ∀ t, Steps p.tables e below (T280.setTop (mkF m 107 #[.val (.long p1), .second, .val (.int p2), .val (.long p3), .second, .val (.long p4), .second, .val (.int p5), .val (.int p6), .val (.ref a1), .val (.ref a14), .val (.ref a32), .val (.int (own_sign p1))] [(.int (1 : Int32))])) t → Steps p.tables e below (s₁.setTop (entryFrame m #[(.long p1), (.int p2), (.long p3), (.long p4), (.int p5), (.int p6)] maxLocals)) t := fun t k => cn279 t (st280.trans k)
      have cn282 : ∀ t, Steps p.tables e below (T280.setTop (mkF m 112 #[.val (.long p1), .second, .val (.int p2), .val (.long p3), .second, .val (.long p4), .second, .val (.int p5), .val (.int p6), .val (.ref a1), .val (.ref a14), .val (.ref a32), .val (.int (own_sign p1))] [(.ref a1)])) t → Steps p.tables e below (s₁.setTop (entryFrame m #[(.long p1), (.int p2), (.long p3), (.long p4), (.int p5), (.int p6)] maxLocals)) t := by
        intro t k
        refine cn281 t ?_
        refine o_ifNo X280.here hx (hb hby at_107) (by decide) ?_
        refine o_aload X280.here hx (hb hby at_110) rfl rfl ?_
        exact k
      obtain ⟨cq283, kq283, q283a, q283b, q283c⟩ := isOf hZ e280 E265
      obtain ⟨_, _, ⟨T283, L283, c283, n283⟩, -, X283, ⟨Lc283, hQ283, l283, y283, z283⟩, st283⟩ := X280.virtualBack hx (y := (⟨"com/example/lintel/lintel/Figure", "signum", "()I"⟩ : MethodName)) (z := (⟨"com/example/lintel/lintel/Figure", "signum", "()I"⟩ : MethodName)) hown (mvT hZ (hw _ (List.mem_of_getElem? (i := 37) rfl))) (mvT hZ (hw _ (List.mem_of_getElem? (i := 38) rfl))) (notFace_of_selects (args := #[]) (mvT hZ (hw _ (List.mem_of_getElem? (i := 40) rfl)))) (mvT hZ (hw _ (List.mem_of_getElem? (i := 40) rfl))) (mvT hZ (hw _ (List.mem_of_getElem? (i := 39) rfl))) (by decide) (backOf (W := 0) (rmW l Z a0 hw [] a1 p1 T256.heap n0 Z256 F269 F267) hZ (hw _ (List.mem_of_getElem? (i := 41) rfl)) (hw _ (List.mem_of_getElem? (i := 2) rfl)) (by decide) (by decide)) q283a q283c (g := (mkF m 112 #[.val (.long p1), .second, .val (.int p2), .val (.long p3), .second, .val (.long p4), .second, .val (.int p5), .val (.int p6), .val (.ref a1), .val (.ref a14), .val (.ref a32), .val (.int (own_sign p1))] [(.ref a1)])) rfl (by rw [hml]; rfl) (Steps.refl _) (argsL := []) (rest := []) (lenOf pd_ocI rfl) rfl (by show 2 * 0 + _ ≤ _; exact Nat.le_of_eq rfl) (hb hby at_112) (fun _ _ => ⟨rfl, e280, (by decide : 3 + 0 ≤ _), (by decide : 12 + 0 ≤ _)⟩)
      dsimp only [Pt.U, Pt.locs, Pt.cells, Pt.slots] at X283 l283 y283 z283 st283 hQ283
      subst l283 y283 z283
      obtain ⟨rfl, N283a, eh283⟩ := hQ283
      have N283 := Fr.app N280 N283a
      have e283 : T283.heap = T256.heap := eh283
      have cn284 : ∀ t, Steps p.tables e below (T283.setTop (mkF m 115 #[.val (.long p1), .second, .val (.int p2), .val (.long p3), .second, .val (.long p4), .second, .val (.int p5), .val (.int p6), .val (.ref a1), .val (.ref a14), .val (.ref a32), .val (.int (own_sign p1))] [(.int (own_sign p1))])) t → Steps p.tables e below (s₁.setTop (entryFrame m #[(.long p1), (.int p2), (.long p3), (.long p4), (.int p5), (.int p6)] maxLocals)) t := fun t k => cn282 t (st283.trans k)
      have cn285 : ∀ t, Steps p.tables e below (T283.setTop (mkF m 116 #[.val (.long p1), .second, .val (.int p2), .val (.long p3), .second, .val (.long p4), .second, .val (.int p5), .val (.int p6), .val (.ref a1), .val (.ref a14), .val (.ref a32), .val (.int (own_sign p1))] [(.long p1), (.int (own_sign p1))])) t → Steps p.tables e below (s₁.setTop (entryFrame m #[(.long p1), (.int p2), (.long p3), (.long p4), (.int p5), (.int p6)] maxLocals)) t := by
        intro t k
        refine cn284 t ?_
        refine o_lloadN X283.here hx (hb hby at_115) rfl ?_
        exact k
      obtain ⟨_, _, ⟨T286, L286, c286, n286⟩, -, X286, ⟨Lc286, hQ286, l286, y286, z286⟩, st286⟩ := Jvm.LawKit.callS X283 hx (y := (⟨"com/example/lintel/lintel/FigureSetPinLaw", "sign", "(J)I"⟩ : MethodName)) hown (mvT hZ (hw _ (List.mem_of_getElem? (i := 28) rfl))) (mvT hZ (hw _ (List.mem_of_getElem? (i := 29) rfl))) (mvT hZ (hw _ (List.mem_of_getElem? (i := 30) rfl))) (mvT hZ (hw _ (List.mem_of_getElem? (i := 31) rfl))) (by decide) (backOf (W := 1) (rmN l Z a0 hw [] p1 T256.heap n0 Z256) hZ (hw _ (List.mem_of_getElem? (i := 31) rfl)) (hw _ (List.mem_of_getElem? (i := 30) rfl)) (by decide) (by decide)) (g := (mkF m 116 #[.val (.long p1), .second, .val (.int p2), .val (.long p3), .second, .val (.long p4), .second, .val (.int p5), .val (.int p6), .val (.ref a1), .val (.ref a14), .val (.ref a32), .val (.int (own_sign p1))] [(.long p1), (.int (own_sign p1))])) rfl (by rw [hml]; rfl) (argsL := [(.long p1)]) (rest := [(.int (own_sign p1))]) (lenOf pd_oJcI rfl) rfl (by show 2 * 0 + _ ≤ _; exact Nat.le_of_eq rfl) (hb hby at_116) (fun _ _ => ⟨rfl, e283, (by decide : 3 + 0 ≤ _), (by decide : 12 + 0 ≤ _)⟩)
      dsimp only [Pt.U, Pt.locs, Pt.cells, Pt.slots] at X286 l286 y286 z286 st286 hQ286
      subst l286 y286 z286
      obtain ⟨rfl, N286a, eh286⟩ := hQ286
      have N286 := Fr.app N283 N286a
      have e286 : T286.heap = T256.heap := eh286
      have cn287 : ∀ t, Steps p.tables e below (T286.setTop (mkF m 119 #[.val (.long p1), .second, .val (.int p2), .val (.long p3), .second, .val (.long p4), .second, .val (.int p5), .val (.int p6), .val (.ref a1), .val (.ref a14), .val (.ref a32), .val (.int (own_sign p1))] [(.int (own_sign p1)), (.int (own_sign p1))])) t → Steps p.tables e below (s₁.setTop (entryFrame m #[(.long p1), (.int p2), (.long p3), (.long p4), (.int p5), (.int p6)] maxLocals)) t := fun t k => cn285 t (st286 _ k)
      have cn288 : ∀ t, Steps p.tables e below (T286.setTop (mkF m 126 #[.val (.long p1), .second, .val (.int p2), .val (.long p3), .second, .val (.long p4), .second, .val (.int p5), .val (.int p6), .val (.ref a1), .val (.ref a14), .val (.ref a32), .val (.int (own_sign p1))] [(.ref a14), (.ref a1)])) t → Steps p.tables e below (s₁.setTop (entryFrame m #[(.long p1), (.int p2), (.long p3), (.long p4), (.int p5), (.int p6)] maxLocals)) t := by
        intro t k
        refine cn287 t ?_
        refine o_icmpNo X286.here hx (hb hby at_119) (XT.ii_ne_f rfl) ?_
        refine o_aload X286.here hx (hb hby at_122) rfl rfl ?_
        refine o_aload X286.here hx (hb hby at_124) rfl rfl ?_
        exact k
      obtain ⟨cq289, kq289, q289a, q289b, q289c⟩ := isOf hZ e286 E265
      obtain ⟨_, _, ⟨T289, L289, c289, n289⟩, -, X289, ⟨Lc289, hQ289, l289, y289, z289⟩, st289⟩ := X286.virtualBack hx (y := (⟨"com/example/lintel/lintel/Figure", "compareTo", "(Lcom/example/lintel/lintel/Figure;)I"⟩ : MethodName)) (z := (⟨"com/example/lintel/lintel/Figure", "compareTo", "(Lcom/example/lintel/lintel/Figure;)I"⟩ : MethodName)) hown (mvT hZ (hw _ (List.mem_of_getElem? (i := 46) rfl))) (mvT hZ (hw _ (List.mem_of_getElem? (i := 47) rfl))) (notFace_of_selects (args := #[]) (mvT hZ (hw _ (List.mem_of_getElem? (i := 49) rfl)))) (mvT hZ (hw _ (List.mem_of_getElem? (i := 49) rfl))) (mvT hZ (hw _ (List.mem_of_getElem? (i := 48) rfl))) (by decide) (backOf (W := 0) (rmX l Z a0 hw [] a1 a14 p1 p2 p3 p2 pa pk T256.heap n0 Z256 F269 F267 F268 F274 F272 F273 S258 A259 (⟨fun h => absurd h (own_irr _), fun _ h => absurd rfl h⟩)) hZ (hw _ (List.mem_of_getElem? (i := 50) rfl)) (hw _ (List.mem_of_getElem? (i := 2) rfl)) (by decide) (by decide)) q289a q289c (g := (mkF m 126 #[.val (.long p1), .second, .val (.int p2), .val (.long p3), .second, .val (.long p4), .second, .val (.int p5), .val (.int p6), .val (.ref a1), .val (.ref a14), .val (.ref a32), .val (.int (own_sign p1))] [(.ref a14), (.ref a1)])) rfl (by rw [hml]; rfl) (Steps.refl _) (argsL := [(.ref a14)]) (rest := []) (lenOf pd_oLcom_example_lintel_lintel_FigurescI rfl) rfl (by show 2 * 0 + _ ≤ _; exact Nat.le_of_eq rfl) (hb hby at_126) (fun _ _ => ⟨rfl, e286, (by decide : 3 + 0 ≤ _), (by decide : 12 + 0 ≤ _)⟩)
      dsimp only [Pt.U, Pt.locs, Pt.cells, Pt.slots] at X289 l289 y289 z289 st289 hQ289
      subst l289 y289 z289
      obtain ⟨rfl, N289a, eh289⟩ := hQ289
      have N289 := Fr.app N286 N289a
      have e289 : T289.heap = T256.heap := eh289
      have cn290 : ∀ t, Steps p.tables e below (T289.setTop (mkF m 129 #[.val (.long p1), .second, .val (.int p2), .val (.long p3), .second, .val (.long p4), .second, .val (.int p5), .val (.int p6), .val (.ref a1), .val (.ref a14), .val (.ref a32), .val (.int (own_sign p1))] [(.int (own_compare p1 p2.toInt64 p3 p2.toInt64))])) t → Steps p.tables e below (s₁.setTop (entryFrame m #[(.long p1), (.int p2), (.long p3), (.long p4), (.int p5), (.int p6)] maxLocals)) t := fun t k => cn288 t (st289.trans k)
      have cn291 : ∀ t, Steps p.tables e below (T289.setTop (mkF m 131 #[.val (.long p1), .second, .val (.int p2), .val (.long p3), .second, .val (.long p4), .second, .val (.int p5), .val (.int p6), .val (.ref a1), .val (.ref a14), .val (.ref a32), .val (.int (own_sign p1))] [(.long p3), (.long p1), (.int (own_compare p1 p2.toInt64 p3 p2.toInt64))])) t → Steps p.tables e below (s₁.setTop (entryFrame m #[(.long p1), (.int p2), (.long p3), (.long p4), (.int p5), (.int p6)] maxLocals)) t := by
        intro t k
        refine cn290 t ?_
        refine o_lloadN X289.here hx (hb hby at_129) rfl ?_
        refine o_lloadN X289.here hx (hb hby at_130) rfl ?_
        exact k
      obtain ⟨_, _, ⟨T292, L292, c292, n292⟩, -, X292, ⟨Lc292, hQ292, l292, y292, z292⟩, st292⟩ := Jvm.LawKit.callS X289 hx (y := (⟨"com/example/lintel/lintel/FigureSetPinLaw", "cmp", "(JJ)I"⟩ : MethodName)) hown (mvT hZ (hw _ (List.mem_of_getElem? (i := 57) rfl))) (mvT hZ (hw _ (List.mem_of_getElem? (i := 58) rfl))) (mvT hZ (hw _ (List.mem_of_getElem? (i := 30) rfl))) (mvT hZ (hw _ (List.mem_of_getElem? (i := 59) rfl))) (by decide) (backOf (W := 1) (rmM l Z a0 hw [] p1 p3 T256.heap n0 Z256) hZ (hw _ (List.mem_of_getElem? (i := 59) rfl)) (hw _ (List.mem_of_getElem? (i := 30) rfl)) (by decide) (by decide)) (g := (mkF m 131 #[.val (.long p1), .second, .val (.int p2), .val (.long p3), .second, .val (.long p4), .second, .val (.int p5), .val (.int p6), .val (.ref a1), .val (.ref a14), .val (.ref a32), .val (.int (own_sign p1))] [(.long p3), (.long p1), (.int (own_compare p1 p2.toInt64 p3 p2.toInt64))])) rfl (by rw [hml]; rfl) (argsL := [(.long p1), (.long p3)]) (rest := [(.int (own_compare p1 p2.toInt64 p3 p2.toInt64))]) (lenOf pd_oJJcI rfl) rfl (by show 2 * 0 + _ ≤ _; exact Nat.le_of_eq rfl) (hb hby at_131) (fun _ _ => ⟨rfl, e289, (by decide : 3 + 0 ≤ _), (by decide : 12 + 0 ≤ _)⟩)
      dsimp only [Pt.U, Pt.locs, Pt.cells, Pt.slots] at X292 l292 y292 z292 st292 hQ292
      subst l292 y292 z292
      obtain ⟨rfl, N292a, eh292⟩ := hQ292
      have N292 := Fr.app N289 N292a
      have e292 : T292.heap = T256.heap := eh292
      have cn293 : ∀ t, Steps p.tables e below (T292.setTop (mkF m 134 #[.val (.long p1), .second, .val (.int p2), .val (.long p3), .second, .val (.long p4), .second, .val (.int p5), .val (.int p6), .val (.ref a1), .val (.ref a14), .val (.ref a32), .val (.int (own_sign p1))] [(.int (own_cmp p1 p3)), (.int (own_compare p1 p2.toInt64 p3 p2.toInt64))])) t → Steps p.tables e below (s₁.setTop (entryFrame m #[(.long p1), (.int p2), (.long p3), (.long p4), (.int p5), (.int p6)] maxLocals)) t := fun t k => cn291 t (st292 _ k)
      have cn294 : ∀ t, Steps p.tables e below (T292.setTop (mkF m 141 #[.val (.long p1), .second, .val (.int p2), .val (.long p3), .second, .val (.long p4), .second, .val (.int p5), .val (.int p6), .val (.ref a1), .val (.ref a14), .val (.ref a32), .val (.int (own_sign p1))] [(.ref a32), (.ref a1)])) t → Steps p.tables e below (s₁.setTop (entryFrame m #[(.long p1), (.int p2), (.long p3), (.long p4), (.int p5), (.int p6)] maxLocals)) t := by
        intro t k
        refine cn293 t ?_
        refine o_icmpNo X292.here hx (hb hby at_134) (XT.ii_ne_f (own_cmp_same _ _ _)) ?_
        refine o_aload X292.here hx (hb hby at_137) rfl rfl ?_
        refine o_aload X292.here hx (hb hby at_139) rfl rfl ?_
        exact k
      obtain ⟨cq295, kq295, q295a, q295b, q295c⟩ := isOf hZ e292 E265
      obtain ⟨_, _, ⟨T295, L295, c295, n295⟩, -, X295, ⟨Lc295, hQ295, l295, y295, z295⟩, st295⟩ := X292.virtualBack hx (y := (⟨"com/example/lintel/lintel/Figure", "compareTo", "(Lcom/example/lintel/lintel/Figure;)I"⟩ : MethodName)) (z := (⟨"com/example/lintel/lintel/Figure", "compareTo", "(Lcom/example/lintel/lintel/Figure;)I"⟩ : MethodName)) hown (mvT hZ (hw _ (List.mem_of_getElem? (i := 46) rfl))) (mvT hZ (hw _ (List.mem_of_getElem? (i := 47) rfl))) (notFace_of_selects (args := #[]) (mvT hZ (hw _ (List.mem_of_getElem? (i := 49) rfl)))) (mvT hZ (hw _ (List.mem_of_getElem? (i := 49) rfl))) (mvT hZ (hw _ (List.mem_of_getElem? (i := 48) rfl))) (by decide) (backOf (W := 0) (rmX l Z a0 hw [] a1 a32 p1 p2 p1 (p2 + (1 : Int32)) pa pk T256.heap n0 Z256 F269 F267 F268 Q256_4 Q256_2 Q256_3 S258 A259 (⟨fun _ => (own_up p2 h65_254).2, fun h => absurd (own_up p2 h65_254).1 h⟩)) hZ (hw _ (List.mem_of_getElem? (i := 50) rfl)) (hw _ (List.mem_of_getElem? (i := 2) rfl)) (by decide) (by decide)) q295a q295c (g := (mkF m 141 #[.val (.long p1), .second, .val (.int p2), .val (.long p3), .second, .val (.long p4), .second, .val (.int p5), .val (.int p6), .val (.ref a1), .val (.ref a14), .val (.ref a32), .val (.int (own_sign p1))] [(.ref a32), (.ref a1)])) rfl (by rw [hml]; rfl) (Steps.refl _) (argsL := [(.ref a32)]) (rest := []) (lenOf pd_oLcom_example_lintel_lintel_FigurescI rfl) rfl (by show 2 * 0 + _ ≤ _; exact Nat.le_of_eq rfl) (hb hby at_141) (fun _ _ => ⟨rfl, e292, (by decide : 3 + 0 ≤ _), (by decide : 12 + 0 ≤ _)⟩)
      dsimp only [Pt.U, Pt.locs, Pt.cells, Pt.slots] at X295 l295 y295 z295 st295 hQ295
      subst l295 y295 z295
      obtain ⟨rfl, N295a, eh295⟩ := hQ295
      have N295 := Fr.app N292 N295a
      have e295 : T295.heap = T256.heap := eh295
      have cn296 : ∀ t, Steps p.tables e below (T295.setTop (mkF m 144 #[.val (.long p1), .second, .val (.int p2), .val (.long p3), .second, .val (.long p4), .second, .val (.int p5), .val (.int p6), .val (.ref a1), .val (.ref a14), .val (.ref a32), .val (.int (own_sign p1))] [(.int (own_compare p1 p2.toInt64 p1 (p2 + (1 : Int32)).toInt64))])) t → Steps p.tables e below (s₁.setTop (entryFrame m #[(.long p1), (.int p2), (.long p3), (.long p4), (.int p5), (.int p6)] maxLocals)) t := fun t k => cn294 t (st295.trans k)
      have cn297 : ∀ t, Steps p.tables e below (T295.setTop (mkF m 154 #[.val (.long p1), .second, .val (.int p2), .val (.long p3), .second, .val (.long p4), .second, .val (.int p5), .val (.int p6), .val (.ref a1), .val (.ref a14), .val (.ref a32), .val (.int (own_sign p1))] [(.int (1 : Int32))])) t → Steps p.tables e below (s₁.setTop (entryFrame m #[(.long p1), (.int p2), (.long p3), (.long p4), (.int p5), (.int p6)] maxLocals)) t := by
        intro t k
        refine cn296 t ?_
        refine o_iload X295.here hx (hb hby at_144) rfl ?_
        show Steps p.tables e below (T295.setTop (mkF m 146 #[.val (.long p1), .second, .val (.int p2), .val (.long p3), .second, .val (.long p4), .second, .val (.int p5), .val (.int p6), .val (.ref a1), .val (.ref a14), .val (.ref a32), .val (.int (own_sign p1))] [(.int (own_sign p1)), (.int (own_compare p1 p2.toInt64 p1 (p2 + (1 : Int32)).toInt64))])) _
        refine o_icmpNo X295.here hx (hb hby at_146) (XT.ii_ne_f (own_cmp_up _ _ h65_254)) ?_
        refine o_iconstV X295.here hx (1 : Int32) (hb hby at_149) rfl ?_
        show Steps p.tables e below (T295.setTop (mkF m 150 #[.val (.long p1), .second, .val (.int p2), .val (.long p3), .second, .val (.long p4), .second, .val (.int p5), .val (.int p6), .val (.ref a1), .val (.ref a14), .val (.ref a32), .val (.int (own_sign p1))] [(.int (1 : Int32))])) _
        refine o_goto X295.here hx (pc' := 154) (hb hby at_150) (by decide) (by decide) ?_
        exact k
      obtain ⟨fs, hr, hrun, hended, hW, hsame⟩ := X295.leave (v := some (.int (1 : Int32))) (fun h => by rw [Bd.returns] at h; cases h)
      refine ⟨_, _, cn297 _ ?_, hrun, hended, _, _, rfl, ?_, ⟨_, rfl⟩, hW, hsame.mono (by decide) (by decide)⟩
      · exact retN X295 hx (t := .boolean) Bd.returns (by simp) (hb hby at_154) hr
      · show Q0 Z p1 p2 p3 p4 p5 p6 pa pk h0 n0 _ T295.heap _
        rw [e295]
        exact ⟨rfl, N295⟩
    · -- pc 65 not taken
      have cn298 : ∀ t, Steps p.tables e below (T234.setTop (mkF m 74 #[.val (.long p1), .second, .val (.int p2), .val (.long p3), .second, .val (.long p4), .second, .val (.int p5), .val (.int p6), .val (.ref a1), .val (.ref a14), .val (.ref a32), .unset] [(.int (p2 - (1 : Int32))), (.long p1), (.ref a32)])) t → Steps p.tables e below (s₁.setTop (entryFrame m #[(.long p1), (.int p2), (.long p3), (.long p4), (.int p5), (.int p6)] maxLocals)) t := by
        intro t k
        refine cn253 t ?_
        refine o_icmpNo X234.here hx (hb hby at_65) (XT.ii_eq_f h65_254) ?_
        refine o_aload X234.here hx (hb hby at_68) rfl rfl ?_
        refine o_lloadN X234.here hx (hb hby at_70) rfl ?_
        refine o_iloadN X234.here hx (hb hby at_71) rfl ?_
        refine o_iconstV X234.here hx (1 : Int32) (hb hby at_72) rfl ?_
        refine o_isub X234.here hx (hb hby at_73) ?_
        exact k
      obtain ⟨cq299, kq299, q299a, q299b, q299c⟩ := isOf hZ e234 E240
      obtain ⟨_, _, ⟨T299, L299, c299, n299⟩, -, X299, ⟨Lc299, hQ299, l299, y299, z299⟩, st299⟩ := X234.virtualBack hx (y := (⟨"com/example/lintel/lintel/Figure", "set", "(JI)V"⟩ : MethodName)) (z := (⟨"com/example/lintel/lintel/Figure", "set", "(JI)V"⟩ : MethodName)) hown (mvT hZ (hw _ (List.mem_of_getElem? (i := 9) rfl))) (mvT hZ (hw _ (List.mem_of_getElem? (i := 10) rfl))) (notFace_of_selects (args := #[]) (mvT hZ (hw _ (List.mem_of_getElem? (i := 12) rfl)))) (mvT hZ (hw _ (List.mem_of_getElem? (i := 12) rfl))) (mvT hZ (hw _ (List.mem_of_getElem? (i := 11) rfl))) (by decide) (backOf (W := 0) (rmS l Z a0 hw [] a32 p1 (p2 - (1 : Int32)) (0 : Int32) (0 : Int64) (0 : Int32) T234.heap n0 Z234 E240 G32 F241 F242 F243 F244) hZ (hw _ (List.mem_of_getElem? (i := 13) rfl)) (hw _ (List.mem_of_getElem? (i := 2) rfl)) (by decide) (by decide)) q299a q299c (g := (mkF m 74 #[.val (.long p1), .second, .val (.int p2), .val (.long p3), .second, .val (.long p4), .second, .val (.int p5), .val (.int p6), .val (.ref a1), .val (.ref a14), .val (.ref a32), .unset] [(.int (p2 - (1 : Int32))), (.long p1), (.ref a32)])) rfl (by rw [hml]; rfl) (Steps.refl _) (argsL := [(.long p1), (.int (p2 - (1 : Int32)))]) (rest := []) (lenOf pd_oJIcV rfl) rfl (by show 2 * 0 + _ ≤ _; exact Nat.le_of_eq rfl) (hb hby at_74) (fun _ _ => ⟨rfl, e234, (by decide : 3 + 0 ≤ _), (by decide : 12 + 0 ≤ _)⟩)
      dsimp only [Pt.U, Pt.locs, Pt.cells, Pt.slots] at X299 l299 y299 z299 st299 hQ299
      subst l299 y299 z299
      obtain ⟨rfl, N299a, K299, Q299_0, Q299_1, Q299_2, Q299_3, Q299_4⟩ := hQ299
      have N299 := Fr.app N234 N299a
      have e299 : T299.heap = T299.heap := rfl
      have Z299 : n0 ≤ T299.heap.size := (Nat.le_trans Z234 K299.1)
      have O300 : Old Z n0 T299.heap := (O235.keep K299 (allS G32 all0))
      have S301 : Sta Z T299.heap "com/example/lintel/lintel/Figure" "POWERS_OF_TEN" "[J" (.ref pa) := (Sta.ext O300.2 H3)
      have A302 : Arv Z T299.heap pa pk .long (19 : Int32) [(.long (1 : Int64)), (.long (10 : Int64)), (.long (100 : Int64)), (.long (1000 : Int64)), (.long (10000 : Int64)), (.long (100000 : Int64)), (.long (1000000 : Int64)), (.long (10000000 : Int64)), (.long (100000000 : Int64)), (.long (1000000000 : Int64)), (.long (10000000000 : Int64)), (.long (100000000000 : Int64)), (.long (1000000000000 : Int64)), (.long (10000000000000 : Int64)), (.long (100000000000000 : Int64)), (.long (1000000000000000 : Int64)), (.long (10000000000000000 : Int64)), (.long (100000000000000000 : Int64)), (.long (1000000000000000000 : Int64))] (.long (0 : Int64)) := (A237.keep K299 (ninS ne32_pa nin0))
      have E303 : Exa Z T299.heap a1 "com/example/lintel/lintel/Figure" := (E238.keep K299)
      have E304 : Exa Z T299.heap a14 "com/example/lintel/lintel/Figure" := (E239.keep K299)
      have E305 : Exa Z T299.heap a32 "com/example/lintel/lintel/Figure" := (E240.keep K299)
      have E306 : Exa Z T299.heap a1 "com/example/lintel/lintel/Figure" := (E245.keep K299)
      have E307 : Exa Z T299.heap a1 "com/example/lintel/lintel/Figure" := (E246.keep K299)
      have E308 : Exa Z T299.heap a1 "com/example/lintel/lintel/Figure" := (E247.keep K299)
      have F309 : Fld Z T299.heap a1 "com/example/lintel/lintel/Figure" "given" "Z" (.int (1 : Int32)) := (F248.keep K299 (ninS ne32_a1 nin0))
      have F310 : Fld Z T299.heap a1 "com/example/lintel/lintel/Figure" "unscaled" "J" (.long p1) := (F249.keep K299 (ninS ne32_a1 nin0))
      have F311 : Fld Z T299.heap a1 "com/example/lintel/lintel/Figure" "scale" "I" (.int p2) := (F250.keep K299 (ninS ne32_a1 nin0))
      have F312 : Fld Z T299.heap a1 "com/example/lintel/lintel/Figure" "large" "Ljava/math/BigDecimal;" .null := (F251.keep K299 (ninS ne32_a1 nin0))
      have E313 : Exa Z T299.heap a14 "com/example/lintel/lintel/Figure" := (Q234_0.keep K299)
      have F314 : Fld Z T299.heap a14 "com/example/lintel/lintel/Figure" "given" "Z" (.int (1 : Int32)) := (Q234_1.keep K299 (ninS ne32_a14 nin0))
      have F315 : Fld Z T299.heap a14 "com/example/lintel/lintel/Figure" "unscaled" "J" (.long p3) := (Q234_2.keep K299 (ninS ne32_a14 nin0))
      have F316 : Fld Z T299.heap a14 "com/example/lintel/lintel/Figure" "scale" "I" (.int p2) := (Q234_3.keep K299 (ninS ne32_a14 nin0))
      have F317 : Fld Z T299.heap a14 "com/example/lintel/lintel/Figure" "large" "Ljava/math/BigDecimal;" .null := (Q234_4.keep K299 (ninS ne32_a14 nin0))
      have cn318 : ∀ t, Steps p.tables e below (T299.setTop (mkF m 77 #[.val (.long p1), .second, .val (.int p2), .val (.long p3), .second, .val (.long p4), .second, .val (.int p5), .val (.int p6), .val (.ref a1), .val (.ref a14), .val (.ref a32), .unset] [])) t → Steps p.tables e below (s₁.setTop (entryFrame m #[(.long p1), (.int p2), (.long p3), (.long p4), (.int p5), (.int p6)] maxLocals)) t := fun t k => cn298 t (st299.trans k)
      have cn319 : ∀ t, Steps p.tables e below (T299.setTop (mkF m 78 #[.val (.long p1), .second, .val (.int p2), .val (.long p3), .second, .val (.long p4), .second, .val (.int p5), .val (.int p6), .val (.ref a1), .val (.ref a14), .val (.ref a32), .unset] [(.long p1)])) t → Steps p.tables e below (s₁.setTop (entryFrame m #[(.long p1), (.int p2), (.long p3), (.long p4), (.int p5), (.int p6)] maxLocals)) t := by
        intro t k
        refine cn318 t ?_
        refine o_lloadN X299.here hx (hb hby at_77) rfl ?_
        exact k
      obtain ⟨_, _, ⟨T320, L320, c320, n320⟩, -, X320, ⟨Lc320, hQ320, l320, y320, z320⟩, st320⟩ := Jvm.LawKit.callS X299 hx (y := (⟨"com/example/lintel/lintel/FigureSetPinLaw", "sign", "(J)I"⟩ : MethodName)) hown (mvT hZ (hw _ (List.mem_of_getElem? (i := 28) rfl))) (mvT hZ (hw _ (List.mem_of_getElem? (i := 29) rfl))) (mvT hZ (hw _ (List.mem_of_getElem? (i := 30) rfl))) (mvT hZ (hw _ (List.mem_of_getElem? (i := 31) rfl))) (by decide) (backOf (W := 0) (rmN l Z a0 hw [] p1 T299.heap n0 Z299) hZ (hw _ (List.mem_of_getElem? (i := 31) rfl)) (hw _ (List.mem_of_getElem? (i := 30) rfl)) (by decide) (by decide)) (g := (mkF m 78 #[.val (.long p1), .second, .val (.int p2), .val (.long p3), .second, .val (.long p4), .second, .val (.int p5), .val (.int p6), .val (.ref a1), .val (.ref a14), .val (.ref a32), .unset] [(.long p1)])) rfl (by rw [hml]; rfl) (argsL := [(.long p1)]) (rest := []) (lenOf pd_oJcI rfl) rfl (by show 2 * 0 + _ ≤ _; exact Nat.le_of_eq rfl) (hb hby at_78) (fun _ _ => ⟨rfl, e299, (by decide : 3 + 0 ≤ _), (by decide : 12 + 0 ≤ _)⟩)
      dsimp only [Pt.U, Pt.locs, Pt.cells, Pt.slots] at X320 l320 y320 z320 st320 hQ320
      subst l320 y320 z320
      obtain ⟨rfl, N320a, eh320⟩ := hQ320
      have N320 := Fr.app N299 N320a
      have e320 : T320.heap = T299.heap := eh320
      have cn321 : ∀ t, Steps p.tables e below (T320.setTop (mkF m 81 #[.val (.long p1), .second, .val (.int p2), .val (.long p3), .second, .val (.long p4), .second, .val (.int p5), .val (.int p6), .val (.ref a1), .val (.ref a14), .val (.ref a32), .unset] [(.int (own_sign p1))])) t → Steps p.tables e below (s₁.setTop (entryFrame m #[(.long p1), (.int p2), (.long p3), (.long p4), (.int p5), (.int p6)] maxLocals)) t := fun t k => cn319 t (st320 _ k)
      have cn322 : ∀ t, Steps p.tables e below (T320.setTop (mkF m 104 #[.val (.long p1), .second, .val (.int p2), .val (.long p3), .second, .val (.long p4), .second, .val (.int p5), .val (.int p6), .val (.ref a1), .val (.ref a14), .val (.ref a32), .val (.int (-(own_sign p1)))] [(.ref a1)])) t → Steps p.tables e below (s₁.setTop (entryFrame m #[(.long p1), (.int p2), (.long p3), (.long p4), (.int p5), (.int p6)] maxLocals)) t := by
        intro t k
        refine cn321 t ?_
        refine o_ineg X320.here hx (hb hby at_81) ?_
        refine o_istore X320.here hx (hb hby at_82) (l' := #[.val (.long p1), .second, .val (.int p2), .val (.long p3), .second, .val (.long p4), .second, .val (.int p5), .val (.int p6), .val (.ref a1), .val (.ref a14), .val (.ref a32), .val (.int (-(own_sign p1)))]) rfl ?_
        show Steps p.tables e below (T320.setTop (mkF m 84 #[.val (.long p1), .second, .val (.int p2), .val (.long p3), .second, .val (.long p4), .second, .val (.int p5), .val (.int p6), .val (.ref a1), .val (.ref a14), .val (.ref a32), .val (.int (-(own_sign p1)))] [])) _
        refine o_goto X320.here hx (pc' := 102) (hb hby at_84) (by decide) (by decide) ?_
        refine o_aload X320.here hx (hb hby at_102) rfl rfl ?_
        exact k
      obtain ⟨cq323, kq323, q323a, q323b, q323c⟩ := isOf hZ e320 E308
      obtain ⟨_, _, ⟨T323, L323, c323, n323⟩, -, X323, ⟨Lc323, hQ323, l323, y323, z323⟩, st323⟩ := X320.virtualBack hx (y := (⟨"com/example/lintel/lintel/Figure", "isGiven", "()Z"⟩ : MethodName)) (z := (⟨"com/example/lintel/lintel/Figure", "isGiven", "()Z"⟩ : MethodName)) hown (mvT hZ (hw _ (List.mem_of_getElem? (i := 32) rfl))) (mvT hZ (hw _ (List.mem_of_getElem? (i := 33) rfl))) (notFace_of_selects (args := #[]) (mvT hZ (hw _ (List.mem_of_getElem? (i := 35) rfl)))) (mvT hZ (hw _ (List.mem_of_getElem? (i := 35) rfl))) (mvT hZ (hw _ (List.mem_of_getElem? (i := 34) rfl))) (by decide) (backOf (W := 0) (rmV l Z a0 hw [] a1 T299.heap n0 Z299 F309) hZ (hw _ (List.mem_of_getElem? (i := 36) rfl)) (hw _ (List.mem_of_getElem? (i := 2) rfl)) (by decide) (by decide)) q323a q323c (g := (mkF m 104 #[.val (.long p1), .second, .val (.int p2), .val (.long p3), .second, .val (.long p4), .second, .val (.int p5), .val (.int p6), .val (.ref a1), .val (.ref a14), .val (.ref a32), .val (.int (-(own_sign p1)))] [(.ref a1)])) rfl (by rw [hml]; rfl) (Steps.refl _) (argsL := []) (rest := []) (lenOf pd_ocZ rfl) rfl (by show 2 * 0 + _ ≤ _; exact Nat.le_of_eq rfl) (hb hby at_104) (fun _ _ => ⟨rfl, e320, (by decide : 3 + 0 ≤ _), (by decide : 12 + 0 ≤ _)⟩)
      dsimp only [Pt.U, Pt.locs, Pt.cells, Pt.slots] at X323 l323 y323 z323 st323 hQ323
      subst l323 y323 z323
      obtain ⟨rfl, N323a, eh323⟩ := hQ323
      have N323 := Fr.app N320 N323a
      have e323 : T323.heap = T299.heap := eh323
      have cn324 : ∀ t, Steps p.tables e below (T323.setTop (mkF m 107 #[.val (.long p1), .second, .val (.int p2), .val (.long p3), .second, .val (.long p4), .second, .val (.int p5), .val (.int p6), .val (.ref a1), .val (.ref a14), .val (.ref a32), .val (.int (-(own_sign p1)))] [(.int (1 : Int32))])) t → Steps p.tables e below (s₁.setTop (entryFrame m #[(.long p1), (.int p2), (.long p3), (.long p4), (.int p5), (.int p6)] maxLocals)) t := fun t k => cn322 t (st323.trans k)
      have cn325 : ∀ t, Steps p.tables e below (T323.setTop (mkF m 112 #[.val (.long p1), .second, .val (.int p2), .val (.long p3), .second, .val (.long p4), .second, .val (.int p5), .val (.int p6), .val (.ref a1), .val (.ref a14), .val (.ref a32), .val (.int (-(own_sign p1)))] [(.ref a1)])) t → Steps p.tables e below (s₁.setTop (entryFrame m #[(.long p1), (.int p2), (.long p3), (.long p4), (.int p5), (.int p6)] maxLocals)) t := by
        intro t k
        refine cn324 t ?_
        refine o_ifNo X323.here hx (hb hby at_107) (by decide) ?_
        refine o_aload X323.here hx (hb hby at_110) rfl rfl ?_
        exact k
      obtain ⟨cq326, kq326, q326a, q326b, q326c⟩ := isOf hZ e323 E308
      obtain ⟨_, _, ⟨T326, L326, c326, n326⟩, -, X326, ⟨Lc326, hQ326, l326, y326, z326⟩, st326⟩ := X323.virtualBack hx (y := (⟨"com/example/lintel/lintel/Figure", "signum", "()I"⟩ : MethodName)) (z := (⟨"com/example/lintel/lintel/Figure", "signum", "()I"⟩ : MethodName)) hown (mvT hZ (hw _ (List.mem_of_getElem? (i := 37) rfl))) (mvT hZ (hw _ (List.mem_of_getElem? (i := 38) rfl))) (notFace_of_selects (args := #[]) (mvT hZ (hw _ (List.mem_of_getElem? (i := 40) rfl)))) (mvT hZ (hw _ (List.mem_of_getElem? (i := 40) rfl))) (mvT hZ (hw _ (List.mem_of_getElem? (i := 39) rfl))) (by decide) (backOf (W := 0) (rmW l Z a0 hw [] a1 p1 T299.heap n0 Z299 F312 F310) hZ (hw _ (List.mem_of_getElem? (i := 41) rfl)) (hw _ (List.mem_of_getElem? (i := 2) rfl)) (by decide) (by decide)) q326a q326c (g := (mkF m 112 #[.val (.long p1), .second, .val (.int p2), .val (.long p3), .second, .val (.long p4), .second, .val (.int p5), .val (.int p6), .val (.ref a1), .val (.ref a14), .val (.ref a32), .val (.int (-(own_sign p1)))] [(.ref a1)])) rfl (by rw [hml]; rfl) (Steps.refl _) (argsL := []) (rest := []) (lenOf pd_ocI rfl) rfl (by show 2 * 0 + _ ≤ _; exact Nat.le_of_eq rfl) (hb hby at_112) (fun _ _ => ⟨rfl, e323, (by decide : 3 + 0 ≤ _), (by decide : 12 + 0 ≤ _)⟩)
      dsimp only [Pt.U, Pt.locs, Pt.cells, Pt.slots] at X326 l326 y326 z326 st326 hQ326
      subst l326 y326 z326
      obtain ⟨rfl, N326a, eh326⟩ := hQ326
      have N326 := Fr.app N323 N326a
      have e326 : T326.heap = T299.heap := eh326
      have cn327 : ∀ t, Steps p.tables e below (T326.setTop (mkF m 115 #[.val (.long p1), .second, .val (.int p2), .val (.long p3), .second, .val (.long p4), .second, .val (.int p5), .val (.int p6), .val (.ref a1), .val (.ref a14), .val (.ref a32), .val (.int (-(own_sign p1)))] [(.int (own_sign p1))])) t → Steps p.tables e below (s₁.setTop (entryFrame m #[(.long p1), (.int p2), (.long p3), (.long p4), (.int p5), (.int p6)] maxLocals)) t := fun t k => cn325 t (st326.trans k)
      have cn328 : ∀ t, Steps p.tables e below (T326.setTop (mkF m 116 #[.val (.long p1), .second, .val (.int p2), .val (.long p3), .second, .val (.long p4), .second, .val (.int p5), .val (.int p6), .val (.ref a1), .val (.ref a14), .val (.ref a32), .val (.int (-(own_sign p1)))] [(.long p1), (.int (own_sign p1))])) t → Steps p.tables e below (s₁.setTop (entryFrame m #[(.long p1), (.int p2), (.long p3), (.long p4), (.int p5), (.int p6)] maxLocals)) t := by
        intro t k
        refine cn327 t ?_
        refine o_lloadN X326.here hx (hb hby at_115) rfl ?_
        exact k
      obtain ⟨_, _, ⟨T329, L329, c329, n329⟩, -, X329, ⟨Lc329, hQ329, l329, y329, z329⟩, st329⟩ := Jvm.LawKit.callS X326 hx (y := (⟨"com/example/lintel/lintel/FigureSetPinLaw", "sign", "(J)I"⟩ : MethodName)) hown (mvT hZ (hw _ (List.mem_of_getElem? (i := 28) rfl))) (mvT hZ (hw _ (List.mem_of_getElem? (i := 29) rfl))) (mvT hZ (hw _ (List.mem_of_getElem? (i := 30) rfl))) (mvT hZ (hw _ (List.mem_of_getElem? (i := 31) rfl))) (by decide) (backOf (W := 1) (rmN l Z a0 hw [] p1 T299.heap n0 Z299) hZ (hw _ (List.mem_of_getElem? (i := 31) rfl)) (hw _ (List.mem_of_getElem? (i := 30) rfl)) (by decide) (by decide)) (g := (mkF m 116 #[.val (.long p1), .second, .val (.int p2), .val (.long p3), .second, .val (.long p4), .second, .val (.int p5), .val (.int p6), .val (.ref a1), .val (.ref a14), .val (.ref a32), .val (.int (-(own_sign p1)))] [(.long p1), (.int (own_sign p1))])) rfl (by rw [hml]; rfl) (argsL := [(.long p1)]) (rest := [(.int (own_sign p1))]) (lenOf pd_oJcI rfl) rfl (by show 2 * 0 + _ ≤ _; exact Nat.le_of_eq rfl) (hb hby at_116) (fun _ _ => ⟨rfl, e326, (by decide : 3 + 0 ≤ _), (by decide : 12 + 0 ≤ _)⟩)
      dsimp only [Pt.U, Pt.locs, Pt.cells, Pt.slots] at X329 l329 y329 z329 st329 hQ329
      subst l329 y329 z329
      obtain ⟨rfl, N329a, eh329⟩ := hQ329
      have N329 := Fr.app N326 N329a
      have e329 : T329.heap = T299.heap := eh329
      have cn330 : ∀ t, Steps p.tables e below (T329.setTop (mkF m 119 #[.val (.long p1), .second, .val (.int p2), .val (.long p3), .second, .val (.long p4), .second, .val (.int p5), .val (.int p6), .val (.ref a1), .val (.ref a14), .val (.ref a32), .val (.int (-(own_sign p1)))] [(.int (own_sign p1)), (.int (own_sign p1))])) t → Steps p.tables e below (s₁.setTop (entryFrame m #[(.long p1), (.int p2), (.long p3), (.long p4), (.int p5), (.int p6)] maxLocals)) t := fun t k => cn328 t (st329 _ k)
      have cn331 : ∀ t, Steps p.tables e below (T329.setTop (mkF m 126 #[.val (.long p1), .second, .val (.int p2), .val (.long p3), .second, .val (.long p4), .second, .val (.int p5), .val (.int p6), .val (.ref a1), .val (.ref a14), .val (.ref a32), .val (.int (-(own_sign p1)))] [(.ref a14), (.ref a1)])) t → Steps p.tables e below (s₁.setTop (entryFrame m #[(.long p1), (.int p2), (.long p3), (.long p4), (.int p5), (.int p6)] maxLocals)) t := by
        intro t k
        refine cn330 t ?_
        refine o_icmpNo X329.here hx (hb hby at_119) (XT.ii_ne_f rfl) ?_
        refine o_aload X329.here hx (hb hby at_122) rfl rfl ?_
        refine o_aload X329.here hx (hb hby at_124) rfl rfl ?_
        exact k
      obtain ⟨cq332, kq332, q332a, q332b, q332c⟩ := isOf hZ e329 E308
      obtain ⟨_, _, ⟨T332, L332, c332, n332⟩, -, X332, ⟨Lc332, hQ332, l332, y332, z332⟩, st332⟩ := X329.virtualBack hx (y := (⟨"com/example/lintel/lintel/Figure", "compareTo", "(Lcom/example/lintel/lintel/Figure;)I"⟩ : MethodName)) (z := (⟨"com/example/lintel/lintel/Figure", "compareTo", "(Lcom/example/lintel/lintel/Figure;)I"⟩ : MethodName)) hown (mvT hZ (hw _ (List.mem_of_getElem? (i := 46) rfl))) (mvT hZ (hw _ (List.mem_of_getElem? (i := 47) rfl))) (notFace_of_selects (args := #[]) (mvT hZ (hw _ (List.mem_of_getElem? (i := 49) rfl)))) (mvT hZ (hw _ (List.mem_of_getElem? (i := 49) rfl))) (mvT hZ (hw _ (List.mem_of_getElem? (i := 48) rfl))) (by decide) (backOf (W := 0) (rmX l Z a0 hw [] a1 a14 p1 p2 p3 p2 pa pk T299.heap n0 Z299 F312 F310 F311 F317 F315 F316 S301 A302 (⟨fun h => absurd h (own_irr _), fun _ h => absurd rfl h⟩)) hZ (hw _ (List.mem_of_getElem? (i := 50) rfl)) (hw _ (List.mem_of_getElem? (i := 2) rfl)) (by decide) (by decide)) q332a q332c (g := (mkF m 126 #[.val (.long p1), .second, .val (.int p2), .val (.long p3), .second, .val (.long p4), .second, .val (.int p5), .val (.int p6), .val (.ref a1), .val (.ref a14), .val (.ref a32), .val (.int (-(own_sign p1)))] [(.ref a14), (.ref a1)])) rfl (by rw [hml]; rfl) (Steps.refl _) (argsL := [(.ref a14)]) (rest := []) (lenOf pd_oLcom_example_lintel_lintel_FigurescI rfl) rfl (by show 2 * 0 + _ ≤ _; exact Nat.le_of_eq rfl) (hb hby at_126) (fun _ _ => ⟨rfl, e329, (by decide : 3 + 0 ≤ _), (by decide : 12 + 0 ≤ _)⟩)
      dsimp only [Pt.U, Pt.locs, Pt.cells, Pt.slots] at X332 l332 y332 z332 st332 hQ332
      subst l332 y332 z332
      obtain ⟨rfl, N332a, eh332⟩ := hQ332
      have N332 := Fr.app N329 N332a
      have e332 : T332.heap = T299.heap := eh332
      have cn333 : ∀ t, Steps p.tables e below (T332.setTop (mkF m 129 #[.val (.long p1), .second, .val (.int p2), .val (.long p3), .second, .val (.long p4), .second, .val (.int p5), .val (.int p6), .val (.ref a1), .val (.ref a14), .val (.ref a32), .val (.int (-(own_sign p1)))] [(.int (own_compare p1 p2.toInt64 p3 p2.toInt64))])) t → Steps p.tables e below (s₁.setTop (entryFrame m #[(.long p1), (.int p2), (.long p3), (.long p4), (.int p5), (.int p6)] maxLocals)) t := fun t k => cn331 t (st332.trans k)
      have cn334 : ∀ t, Steps p.tables e below (T332.setTop (mkF m 131 #[.val (.long p1), .second, .val (.int p2), .val (.long p3), .second, .val (.long p4), .second, .val (.int p5), .val (.int p6), .val (.ref a1), .val (.ref a14), .val (.ref a32), .val (.int (-(own_sign p1)))] [(.long p3), (.long p1), (.int (own_compare p1 p2.toInt64 p3 p2.toInt64))])) t → Steps p.tables e below (s₁.setTop (entryFrame m #[(.long p1), (.int p2), (.long p3), (.long p4), (.int p5), (.int p6)] maxLocals)) t := by
        intro t k
        refine cn333 t ?_
        refine o_lloadN X332.here hx (hb hby at_129) rfl ?_
        refine o_lloadN X332.here hx (hb hby at_130) rfl ?_
        exact k
      obtain ⟨_, _, ⟨T335, L335, c335, n335⟩, -, X335, ⟨Lc335, hQ335, l335, y335, z335⟩, st335⟩ := Jvm.LawKit.callS X332 hx (y := (⟨"com/example/lintel/lintel/FigureSetPinLaw", "cmp", "(JJ)I"⟩ : MethodName)) hown (mvT hZ (hw _ (List.mem_of_getElem? (i := 57) rfl))) (mvT hZ (hw _ (List.mem_of_getElem? (i := 58) rfl))) (mvT hZ (hw _ (List.mem_of_getElem? (i := 30) rfl))) (mvT hZ (hw _ (List.mem_of_getElem? (i := 59) rfl))) (by decide) (backOf (W := 1) (rmM l Z a0 hw [] p1 p3 T299.heap n0 Z299) hZ (hw _ (List.mem_of_getElem? (i := 59) rfl)) (hw _ (List.mem_of_getElem? (i := 30) rfl)) (by decide) (by decide)) (g := (mkF m 131 #[.val (.long p1), .second, .val (.int p2), .val (.long p3), .second, .val (.long p4), .second, .val (.int p5), .val (.int p6), .val (.ref a1), .val (.ref a14), .val (.ref a32), .val (.int (-(own_sign p1)))] [(.long p3), (.long p1), (.int (own_compare p1 p2.toInt64 p3 p2.toInt64))])) rfl (by rw [hml]; rfl) (argsL := [(.long p1), (.long p3)]) (rest := [(.int (own_compare p1 p2.toInt64 p3 p2.toInt64))]) (lenOf pd_oJJcI rfl) rfl (by show 2 * 0 + _ ≤ _; exact Nat.le_of_eq rfl) (hb hby at_131) (fun _ _ => ⟨rfl, e332, (by decide : 3 + 0 ≤ _), (by decide : 12 + 0 ≤ _)⟩)
      dsimp only [Pt.U, Pt.locs, Pt.cells, Pt.slots] at X335 l335 y335 z335 st335 hQ335
      subst l335 y335 z335
      obtain ⟨rfl, N335a, eh335⟩ := hQ335
      have N335 := Fr.app N332 N335a
      have e335 : T335.heap = T299.heap := eh335
      have cn336 : ∀ t, Steps p.tables e below (T335.setTop (mkF m 134 #[.val (.long p1), .second, .val (.int p2), .val (.long p3), .second, .val (.long p4), .second, .val (.int p5), .val (.int p6), .val (.ref a1), .val (.ref a14), .val (.ref a32), .val (.int (-(own_sign p1)))] [(.int (own_cmp p1 p3)), (.int (own_compare p1 p2.toInt64 p3 p2.toInt64))])) t → Steps p.tables e below (s₁.setTop (entryFrame m #[(.long p1), (.int p2), (.long p3), (.long p4), (.int p5), (.int p6)] maxLocals)) t := fun t k => cn334 t (st335 _ k)
      have cn337 : ∀ t, Steps p.tables e below (T335.setTop (mkF m 141 #[.val (.long p1), .second, .val (.int p2), .val (.long p3), .second, .val (.long p4), .second, .val (.int p5), .val (.int p6), .val (.ref a1), .val (.ref a14), .val (.ref a32), .val (.int (-(own_sign p1)))] [(.ref a32), (.ref a1)])) t → Steps p.tables e below (s₁.setTop (entryFrame m #[(.long p1), (.int p2), (.long p3), (.long p4), (.int p5), (.int p6)] maxLocals)) t := by
        intro t k
        refine cn336 t ?_
        refine o_icmpNo X335.here hx (hb hby at_134) (XT.ii_ne_f (own_cmp_same _ _ _)) ?_
        refine o_aload X335.here hx (hb hby at_137) rfl rfl ?_
        refine o_aload X335.here hx (hb hby at_139) rfl rfl ?_
        exact k
      obtain ⟨cq338, kq338, q338a, q338b, q338c⟩ := isOf hZ e335 E308
      obtain ⟨_, _, ⟨T338, L338, c338, n338⟩, -, X338, ⟨Lc338, hQ338, l338, y338, z338⟩, st338⟩ := X335.virtualBack hx (y := (⟨"com/example/lintel/lintel/Figure", "compareTo", "(Lcom/example/lintel/lintel/Figure;)I"⟩ : MethodName)) (z := (⟨"com/example/lintel/lintel/Figure", "compareTo", "(Lcom/example/lintel/lintel/Figure;)I"⟩ : MethodName)) hown (mvT hZ (hw _ (List.mem_of_getElem? (i := 46) rfl))) (mvT hZ (hw _ (List.mem_of_getElem? (i := 47) rfl))) (notFace_of_selects (args := #[]) (mvT hZ (hw _ (List.mem_of_getElem? (i := 49) rfl)))) (mvT hZ (hw _ (List.mem_of_getElem? (i := 49) rfl))) (mvT hZ (hw _ (List.mem_of_getElem? (i := 48) rfl))) (by decide) (backOf (W := 0) (rmX l Z a0 hw [] a1 a32 p1 p2 p1 (p2 - (1 : Int32)) pa pk T299.heap n0 Z299 F312 F310 F311 Q299_4 Q299_2 Q299_3 S301 A302 (⟨fun h => absurd h (own_asymm (own_down p2 h65_254).1), fun _ _ => (own_down p2 h65_254).2⟩)) hZ (hw _ (List.mem_of_getElem? (i := 50) rfl)) (hw _ (List.mem_of_getElem? (i := 2) rfl)) (by decide) (by decide)) q338a q338c (g := (mkF m 141 #[.val (.long p1), .second, .val (.int p2), .val (.long p3), .second, .val (.long p4), .second, .val (.int p5), .val (.int p6), .val (.ref a1), .val (.ref a14), .val (.ref a32), .val (.int (-(own_sign p1)))] [(.ref a32), (.ref a1)])) rfl (by rw [hml]; rfl) (Steps.refl _) (argsL := [(.ref a32)]) (rest := []) (lenOf pd_oLcom_example_lintel_lintel_FigurescI rfl) rfl (by show 2 * 0 + _ ≤ _; exact Nat.le_of_eq rfl) (hb hby at_141) (fun _ _ => ⟨rfl, e335, (by decide : 3 + 0 ≤ _), (by decide : 12 + 0 ≤ _)⟩)
      dsimp only [Pt.U, Pt.locs, Pt.cells, Pt.slots] at X338 l338 y338 z338 st338 hQ338
      subst l338 y338 z338
      obtain ⟨rfl, N338a, eh338⟩ := hQ338
      have N338 := Fr.app N335 N338a
      have e338 : T338.heap = T299.heap := eh338
      have cn339 : ∀ t, Steps p.tables e below (T338.setTop (mkF m 144 #[.val (.long p1), .second, .val (.int p2), .val (.long p3), .second, .val (.long p4), .second, .val (.int p5), .val (.int p6), .val (.ref a1), .val (.ref a14), .val (.ref a32), .val (.int (-(own_sign p1)))] [(.int (own_compare p1 p2.toInt64 p1 (p2 - (1 : Int32)).toInt64))])) t → Steps p.tables e below (s₁.setTop (entryFrame m #[(.long p1), (.int p2), (.long p3), (.long p4), (.int p5), (.int p6)] maxLocals)) t := fun t k => cn337 t (st338.trans k)
      have cn340 : ∀ t, Steps p.tables e below (T338.setTop (mkF m 154 #[.val (.long p1), .second, .val (.int p2), .val (.long p3), .second, .val (.long p4), .second, .val (.int p5), .val (.int p6), .val (.ref a1), .val (.ref a14), .val (.ref a32), .val (.int (-(own_sign p1)))] [(.int (1 : Int32))])) t → Steps p.tables e below (s₁.setTop (entryFrame m #[(.long p1), (.int p2), (.long p3), (.long p4), (.int p5), (.int p6)] maxLocals)) t := by
        intro t k
        refine cn339 t ?_
        refine o_iload X338.here hx (hb hby at_144) rfl ?_
        show Steps p.tables e below (T338.setTop (mkF m 146 #[.val (.long p1), .second, .val (.int p2), .val (.long p3), .second, .val (.long p4), .second, .val (.int p5), .val (.int p6), .val (.ref a1), .val (.ref a14), .val (.ref a32), .val (.int (-(own_sign p1)))] [(.int (-(own_sign p1))), (.int (own_compare p1 p2.toInt64 p1 (p2 - (1 : Int32)).toInt64))])) _
        refine o_icmpNo X338.here hx (hb hby at_146) (XT.ii_ne_f (own_cmp_down _ _ h65_254)) ?_
        refine o_iconstV X338.here hx (1 : Int32) (hb hby at_149) rfl ?_
        show Steps p.tables e below (T338.setTop (mkF m 150 #[.val (.long p1), .second, .val (.int p2), .val (.long p3), .second, .val (.long p4), .second, .val (.int p5), .val (.int p6), .val (.ref a1), .val (.ref a14), .val (.ref a32), .val (.int (-(own_sign p1)))] [(.int (1 : Int32))])) _
        refine o_goto X338.here hx (pc' := 154) (hb hby at_150) (by decide) (by decide) ?_
        exact k
      obtain ⟨fs, hr, hrun, hended, hW, hsame⟩ := X338.leave (v := some (.int (1 : Int32))) (fun h => by rw [Bd.returns] at h; cases h)
      refine ⟨_, _, cn340 _ ?_, hrun, hended, _, _, rfl, ?_, ⟨_, rfl⟩, hW, hsame.mono (by decide) (by decide)⟩
      · exact retN X338 hx (t := .boolean) Bd.returns (by simp) (hb hby at_154) hr
      · show Q0 Z p1 p2 p3 p4 p5 p6 pa pk h0 n0 _ T338.heap _
        rw [e338]
        exact ⟨rfl, N338⟩


theorem own_elemL {args : Array Value} {s : State} {t : Jvm.Term} {x : Addr} {cl : Cell} {k : Int32} {v : Int64} (ht : t.eval args s none [] s = some (.ref x)) (hc : s.heap[x]? = some cl)
    (h : (Jvm.Cond.eq (Jvm.Term.elem t (Jvm.Term.int k)) (Jvm.Term.long v)).value args s none s [] = some true) : cl.slots[k.toNatClampNeg]? = some (.long v) := by
  obtain ⟨X, Y, e1, e2, -, k2⟩ := cmp_v (Or.inl h)
  have q : Y = .long v := by simpa [Term.eval] using e2.symm
  subst q
  obtain ⟨z, rfl⟩ := k2
  have q := gotT (eq_L e1 e2) h
  subst q
  exact (elem_in e1 ht rfl hc).2
theorem own_len {args : Array Value} {s : State} {t : Jvm.Term} {x : Addr} {cl : Cell} {k : Int32} (ht : t.eval args s none [] s = some (.ref x)) (ha : s.arrayAt? x = some cl)
    (h : (Jvm.Cond.eq (Jvm.Term.length t) (Jvm.Term.int k)).value args s none s [] = some true) : cl.slots.size < 2 ^ 31 ∧ cl.slots.size.toInt32 = k := by
  obtain ⟨X, Y, e1, e2, -, -⟩ := cmp_v (Or.inl h)
  by_cases q : cl.slots.size < 2 ^ 31
  · exact ⟨q, gotT (Cond.eq_ints (len_f ht ha q) (Term.int_eval k)) h⟩
  · exfalso
    simp [Term.eval, ht, ha, q] at e1
theorem own_start {args : Array Value} {s : State} (hw : ∀ d ∈ tables_1, d.before args s = true) (hf : Fit s) (hn : narrow_1.value args s none s [] = some true) :
    ∃ pa pk, Sta s s.heap "com/example/lintel/lintel/Figure" "POWERS_OF_TEN" "[J" (.ref pa) ∧ Arv s s.heap pa pk .long (19 : Int32) [(.long (1 : Int64)), (.long (10 : Int64)), (.long (100 : Int64)), (.long (1000 : Int64)), (.long (10000 : Int64)), (.long (100000 : Int64)), (.long (1000000 : Int64)), (.long (10000000 : Int64)), (.long (100000000 : Int64)), (.long (1000000000 : Int64)), (.long (10000000000 : Int64)), (.long (100000000000 : Int64)), (.long (1000000000000 : Int64)), (.long (10000000000000 : Int64)), (.long (100000000000000 : Int64)), (.long (1000000000000000 : Int64)), (.long (10000000000000000 : Int64)), (.long (100000000000000000 : Int64)), (.long (1000000000000000000 : Int64))] (.long (0 : Int64)) ∧ pa < s.heap.size := by
  obtain ⟨n1, r1⟩ := and_e hn
  obtain ⟨n2, r2⟩ := and_e r1
  obtain ⟨m0, r3⟩ := and_e r2
  obtain ⟨m1, r4⟩ := and_e r3
  obtain ⟨m2, r5⟩ := and_e r4
  obtain ⟨m3, r6⟩ := and_e r5
  obtain ⟨m4, r7⟩ := and_e r6
  obtain ⟨m5, r8⟩ := and_e r7
  obtain ⟨m6, r9⟩ := and_e r8
  obtain ⟨m7, r10⟩ := and_e r9
  obtain ⟨m8, r11⟩ := and_e r10
  obtain ⟨m9, r12⟩ := and_e r11
  obtain ⟨m10, r13⟩ := and_e r12
  obtain ⟨m11, r14⟩ := and_e r13
  obtain ⟨m12, r15⟩ := and_e r14
  obtain ⟨m13, r16⟩ := and_e r15
  obtain ⟨m14, r17⟩ := and_e r16
  obtain ⟨m15, r18⟩ := and_e r17
  obtain ⟨m16, r19⟩ := and_e r18
  obtain ⟨m17, r20⟩ := and_e r19
  have m18 := r20
  obtain ⟨pa, ev⟩ := arr_v n1
  obtain ⟨cl, A⟩ := Arr.start ev n1
  have hz := own_len ev (A.fin (Vm.Alike.refl _)) n2
  exact ⟨pa, cl.cls, Sta.start ev (Or.inr ⟨hw _ (List.mem_of_getElem? (i := 2) rfl), hw _ (List.mem_of_getElem? (i := 64) rfl)⟩), Arv.start hf A hz.1 hz.2 (by decide) rfl ⟨own_elemL ev A.1 m0, own_elemL ev A.1 m1, own_elemL ev A.1 m2, own_elemL ev A.1 m3, own_elemL ev A.1 m4, own_elemL ev A.1 m5, own_elemL ev A.1 m6, own_elemL ev A.1 m7, own_elemL ev A.1 m8, own_elemL ev A.1 m9, own_elemL ev A.1 m10, own_elemL ev A.1 m11, own_elemL ev A.1 m12, own_elemL ev A.1 m13, own_elemL ev A.1 m14, own_elemL ev A.1 m15, own_elemL ev A.1 m16, own_elemL ev A.1 m17, own_elemL ev A.1 m18, trivial⟩, A.lt⟩

set_option maxRecDepth 65536 in
set_option maxHeartbeats 40000000 in
theorem comes_1 {Post : Tables → Env → Array Value → State → Outcome → State → Prop} (hpost : ∀ tb e args s v u, (limb_1_1.after args s (.returned v) u = true ∧ limb_1_2.after args s (.returned v) u = true ∧ True) → FrameEnd s (.returned v) u (Jvm.fieldLocs frame_1_writes args s ++ Jvm.arrayLocs frame_1_arrays args s ++ Jvm.staticLocs frame_1_statics s) 16 128 → Post tb e args s (.returned v) u) :
    ArmFor flags0 classFile x code maxLocals ret World_1 tables_1 room_1 Calls_1 rest_1 Pre_1 Post := by
  intro l hfl _ _ p e ha hc hk s m args below hf hA hF happ hP
  obtain ⟨hcalls, hrest, hpre⟩ := hP
  obtain ⟨-, -, -, hnamed, -, -, -, hat⟩ := (Spec.applies_iff hf).mp happ
  obtain ⟨hg, hn⟩ := and_e (Cond.before_iff.mp (show (Jvm.Cond.and given_1 narrow_1).before args s = true from hpre))
  obtain ⟨hcount, hr0⟩ := and_e hg
  obtain ⟨g0, hr1⟩ := and_e hr0
  obtain ⟨g1, hr2⟩ := and_e hr1
  obtain ⟨g2, hr3⟩ := and_e hr2
  obtain ⟨g3, hr4⟩ := and_e hr3
  obtain ⟨g4, hr5⟩ := and_e hr4
  have g5 := hr5
  obtain ⟨w0, w1, w2, w3, w4, w5, rfl⟩ : ∃ w0 w1 w2 w3 w4 w5 : Value, args = #[w0, w1, w2, w3, w4, w5] := by
    have hs : args.size = 6 := by simpa [Cond.value, given_1] using hcount
    obtain ⟨L⟩ := args
    match L, hs with
    | [w0, w1, w2, w3, w4, w5], _ => exact ⟨w0, w1, w2, w3, w4, w5, rfl⟩
  have hw := fun d (hd : d ∈ tables_1) => atoms_spec (ws := Jvm.Cond.code x code maxLocals ret :: tables_1) hat d (List.mem_cons_of_mem _ hd)
  have hfit : Fit s := fun {y c} hc i hi => by
    obtain ⟨ha, rfl⟩ := Array.getElem?_eq_some_iff.mp hc
    have q := List.all_eq_true.mp ((Array.all_eq_true_iff_forall_mem.mp hF) _ (Array.getElem_mem ha)) i (List.mem_range.mpr hi)
    simpa [Array.getElem?_eq_getElem hi] using q
  obtain ⟨i0, e0⟩ := isL_v g0
  obtain rfl : w0 = (.long i0) := Option.some.inj e0
  obtain ⟨i1, e1⟩ := is_v g1
  obtain rfl : w1 = (.int i1) := Option.some.inj e1
  obtain ⟨i2, e2⟩ := isL_v g2
  obtain rfl : w2 = (.long i2) := Option.some.inj e2
  obtain ⟨i3, e3⟩ := isL_v g3
  obtain rfl : w3 = (.long i3) := Option.some.inj e3
  obtain ⟨i4, e4⟩ := is_v g4
  obtain rfl : w4 = (.int i4) := Option.some.inj e4
  obtain ⟨i5, e5⟩ := is_v g5
  obtain rfl : w5 = (.int i5) := Option.some.inj e5
  obtain ⟨pa, pk, hsta, harv, hlt⟩ := own_start hw hfit hn
  obtain ⟨n, o, h1, h2, h3, _, L, rfl, ⟨rfl, N⟩, hq⟩ := rm0 l s _ hw tables_1 i0 i1 i2 i3 i4 i5 pa pk s.heap s.heap.size (Nat.le_refl _) hsta harv (Old.start s) hsta hlt p e ha hc hk s m _ below hf ((Spec.applies_iff_loose hf).mp happ).1 ⟨rfl, State.Warmed39.refl s, rfl⟩ trivial
  refine ⟨n, _, h1, h2, h3, hpost _ _ _ _ _ _ ⟨Cond.after_iff.mpr rfl, Cond.after_iff.mpr (eq_i res_at (Term.int_eval (1)) rfl), trivial⟩ ⟨hq.1, hq.2.1, (hq.2.2.sift fun y hy => Or.inr (N y hy)).mono (by decide) (by decide)⟩⟩
theorem main_1_1 : Claimed_1_1 := comes_1 fun _ _ _ _ _ _ h hF => ⟨h.1, hF⟩
theorem main_1_2 : Claimed_1_2 := comes_1 fun _ _ _ _ _ _ h hF => ⟨h.2.1, hF⟩
end Jvm.Pilot.@@N@@
namespace Jvm.Pilot.@@N@@
open Jvm Jvm.ClassFile Sem Op Lib Jvm.Free Jvm.Stand Jvm.Pilot.@@N@@.Jvm.D
/-! MADE BY PROGRAM (witnessworld.py) out of the Statement's table words and the real class files: 17 classes; the members and pool entries that the words name. The judged class is class 1, her method 3. -/
namespace start1
open Jvm.ClassFile
def u (s : String) : CpInfo := .utf8 (stringToUtf16 s)
/-- a pool by its gaps: so many unusable entries, then the entry; so many at the end -/
def gap : Nat → List CpInfo → List CpInfo
  | 0, r => r
  | n + 1, r => .unusable :: gap n r
def poolList (es : List (Nat × CpInfo)) (last : Nat) : List CpInfo := es.foldr (fun e r => gap e.1 (e.2 :: r)) (gap last [])
def pool (es : List (Nat × CpInfo)) (last : Nat) : Array CpInfo := ⟨poolList es last⟩
def fileOf (pool : Array CpInfo) (this : Nat) (attrs : Array Attribute := #[]) (ms : Array MethodInfo := #[]) (fl : Nat := 33) (sup : Nat := 0) (ifs : Array Nat := #[]) (fds : Array FieldInfo := #[]) : ClassFile where
  minorVersion := 0
  majorVersion := 65
  constantPool := pool
  accessFlags := fl
  thisClass := this
  superClass := sup
  interfaces := ifs
  fields := fds
  methods := ms
  attributes := attrs
def plain (name : String) (sup : Option ClassId) : Class where
  name := name
  kind := .ordinary
  loader := none
  accessFlags := 33
  super := sup
  interfaces := #[]
  cf := none
  fields := #[]
  methods := #[]
  instanceTypes := #[]
  staticTypes := #[]
  resolved := #[]
  callSites := []
  init := .initialized
  statics := none
  mirror := none

def pool0 : Array CpInfo := pool [(5, u "<init>"), (0, u "()V"), (1, .class_ 10), (1, u "java/lang/Object")] 113

def k0c0 : Code := { maxStack := 0, maxLocals := 1, code := object_method_1_code, exceptionTable := #[], attributes := #[] }
def k0m0 : Method := { name := "<init>", desc := "()V", sig := { parameters := [], returnType := none }, accessFlags := 1, code := some k0c0 }
/-- java/lang/Object -/
def k0 : Class := { plain "java/lang/Object" none with
  accessFlags := 33
  interfaces := #[]
  cf := some (fileOf pool0 8 #[] #[{ accessFlags := 1, nameIndex := 5, descriptorIndex := 6, attributes := #[] }] 33 0 #[] #[])
  fields := #[]
  methods := #[k0m0]
  instanceTypes := #[]
  staticTypes := #[]
  resolved := Array.replicate 124 none
  statics := none }

def pool1 : Array CpInfo := pool [(2, .class_ 4), (0, .nameAndType 5 6), (0, u "java/lang/Object"), (0, u "<init>"), (0, u "()V"), (0, .class_ 8), (0, u "com/example/lintel/lintel/Figure"), (0, .methodref 7 3), (0, .methodref 7 11), (0, .nameAndType 12 13), (0, u "set"), (0, u "(JI)V"), (0, .methodref 7 15), (0, .nameAndType 16 6), (0, u "clear"), (2, .integer 2147483648), (0, .methodref 21 22), (0, .class_ 23), (0, .nameAndType 24 25), (0, u "com/example/lintel/lintel/FigureSetPinLaw"), (0, u "sign"), (0, u "(J)I"), (0, .methodref 7 27), (0, .nameAndType 28 29), (0, u "isGiven"), (0, u "()Z"), (0, .methodref 7 31), (0, .nameAndType 32 33), (0, u "signum"), (0, u "()I"), (0, .methodref 7 35), (0, .nameAndType 36 37), (0, u "compareTo"), (0, u "(Lcom/example/lintel/lintel/Figure;)I"), (0, .methodref 21 39), (0, .nameAndType 40 41), (0, u "cmp"), (0, u "(JJ)I"), (3, u "law"), (0, u "(JIJJII)Z")] 2

def k1m0 : Method := { name := "<init>", desc := "()V", sig := { parameters := [], returnType := none }, accessFlags := 1, code := none }
def k1c1 : Code := { maxStack := 4, maxLocals := 2, code := method_2_code, exceptionTable := #[], attributes := #[] }
def k1m1 : Method := { name := "sign", desc := "(J)I", sig := { parameters := [.long], returnType := some .int }, accessFlags := 10, code := some k1c1 }
def k1c2 : Code := { maxStack := 4, maxLocals := 4, code := method_3_code, exceptionTable := #[], attributes := #[] }
def k1m2 : Method := { name := "cmp", desc := "(JJ)I", sig := { parameters := [.long, .long], returnType := some .int }, accessFlags := 10, code := some k1c2 }
def k1c3 : Code := { maxStack := 5, maxLocals := 13, code := code, exceptionTable := #[], attributes := #[] }
def k1m3 : Method := { name := "law", desc := "(JIJJII)Z", sig := { parameters := [.long, .int, .long, .long, .int, .int], returnType := some .boolean }, accessFlags := 9, code := some k1c3 }
/-- com/example/lintel/lintel/FigureSetPinLaw -/
def k1 : Class := { plain "com/example/lintel/lintel/FigureSetPinLaw" (some 0) with
  accessFlags := 49
  interfaces := #[]
  cf := some (fileOf pool1 21 #[] #[{ accessFlags := 1, nameIndex := 5, descriptorIndex := 6, attributes := #[] }, { accessFlags := 10, nameIndex := 24, descriptorIndex := 25, attributes := #[] }, { accessFlags := 10, nameIndex := 40, descriptorIndex := 41, attributes := #[] }, { accessFlags := 9, nameIndex := 45, descriptorIndex := 46, attributes := #[] }] 49 2 #[] #[])
  fields := #[]
  methods := #[k1m0, k1m1, k1m2, k1m3]
  instanceTypes := #[]
  staticTypes := #[]
  resolved := Array.replicate 49 none
  statics := none }

def pool2 : Array CpInfo := pool [(1, .methodref 2 3), (0, .class_ 4), (0, .nameAndType 5 6), (0, u "java/lang/Object"), (0, u "<init>"), (0, u "()V"), (0, .class_ 8), (0, u "com/example/lintel/lintel/Figure"), (3, u "set"), (1, .fieldref 7 15), (0, .nameAndType 16 17), (0, u "given"), (0, u "Z"), (0, .fieldref 7 19), (0, .nameAndType 20 21), (0, u "large"), (0, u "Ljava/math/BigDecimal;"), (0, .fieldref 7 23), (0, .nameAndType 24 25), (0, u "unscaled"), (0, u "J"), (0, .fieldref 7 27), (0, .nameAndType 28 29), (0, u "scale"), (0, u "I"), (5, u "()I"), (14, u "(JI)V"), (5, .class_ 58), (1, u "java/lang/Math"), (4, u "signum"), (0, .methodref 65 66), (0, .class_ 67), (0, .nameAndType 63 68), (0, u "java/lang/Long"), (0, u "(J)I"), (10, u "compareTo"), (1, .methodref 7 82), (0, .nameAndType 83 84), (0, u "compare"), (0, u "(JJJJ)I"), (0, .methodref 56 86), (0, .nameAndType 87 88), (0, u "multiplyHigh"), (0, u "(JJ)J"), (4, u "HUNDRED"), (4, .methodref 65 99), (0, .nameAndType 83 100), (0, u "(JJ)I"), (0, .methodref 7 102), (0, .nameAndType 103 104), (0, u "compareRaised"), (0, u "(JJJ)I"), (0, .fieldref 7 106), (0, .nameAndType 107 108), (0, u "POWERS_OF_TEN"), (0, u "[J"), (7, u "LONG_DIGITS"), (7, u "clear"), (2, u "isGiven"), (0, u "()Z"), (0, u "(Lcom/example/lintel/lintel/Figure;)I")] 5

def k2c0 : Code := { maxStack := 1, maxLocals := 1, code := prog_24_method_1_code, exceptionTable := #[], attributes := #[] }
def k2m0 : Method := { name := "<init>", desc := "()V", sig := { parameters := [], returnType := none }, accessFlags := 0, code := some k2c0 }
def k2c1 : Code := { maxStack := 2, maxLocals := 1, code := prog_24_method_3_code, exceptionTable := #[], attributes := #[] }
def k2m1 : Method := { name := "clear", desc := "()V", sig := { parameters := [], returnType := none }, accessFlags := 0, code := some k2c1 }
def k2c2 : Code := { maxStack := 3, maxLocals := 4, code := prog_24_method_4_code, exceptionTable := #[], attributes := #[] }
def k2m2 : Method := { name := "set", desc := "(JI)V", sig := { parameters := [.long, .int], returnType := none }, accessFlags := 0, code := some k2c2 }
def k2c3 : Code := { maxStack := 1, maxLocals := 1, code := prog_24_method_7_code, exceptionTable := #[], attributes := #[] }
def k2m3 : Method := { name := "isGiven", desc := "()Z", sig := { parameters := [], returnType := some .boolean }, accessFlags := 0, code := some k2c3 }
def k2c4 : Code := { maxStack := 2, maxLocals := 1, code := prog_24_method_8_code, exceptionTable := #[], attributes := #[] }
def k2m4 : Method := { name := "signum", desc := "()I", sig := { parameters := [], returnType := some .int }, accessFlags := 0, code := some k2c4 }
def k2c5 : Code := { maxStack := 8, maxLocals := 2, code := prog_24_method_10_code, exceptionTable := #[], attributes := #[] }
def k2m5 : Method := { name := "compareTo", desc := "(Lcom/example/lintel/lintel/Figure;)I", sig := { parameters := [(.object "com/example/lintel/lintel/Figure")], returnType := some .int }, accessFlags := 0, code := some k2c5 }
def k2c6 : Code := { maxStack := 6, maxLocals := 8, code := prog_24_method_12_code, exceptionTable := #[], attributes := #[] }
def k2m6 : Method := { name := "compare", desc := "(JJJJ)I", sig := { parameters := [.long, .long, .long, .long], returnType := some .int }, accessFlags := 10, code := some k2c6 }
def k2c7 : Code := { maxStack := 5, maxLocals := 8, code := prog_24_method_13_code, exceptionTable := #[], attributes := #[] }
def k2m7 : Method := { name := "compareRaised", desc := "(JJJ)I", sig := { parameters := [.long, .long, .long], returnType := some .int }, accessFlags := 10, code := some k2c7 }
/-- com/example/lintel/lintel/Figure -/
def k2 : Class := { plain "com/example/lintel/lintel/Figure" (some 0) with
  accessFlags := 48
  interfaces := #[]
  cf := some (fileOf pool2 7 #[] #[{ accessFlags := 0, nameIndex := 5, descriptorIndex := 6, attributes := #[] }, { accessFlags := 0, nameIndex := 124, descriptorIndex := 6, attributes := #[] }, { accessFlags := 0, nameIndex := 12, descriptorIndex := 50, attributes := #[] }, { accessFlags := 0, nameIndex := 127, descriptorIndex := 128, attributes := #[] }, { accessFlags := 0, nameIndex := 63, descriptorIndex := 35, attributes := #[] }, { accessFlags := 0, nameIndex := 79, descriptorIndex := 129, attributes := #[] }, { accessFlags := 10, nameIndex := 83, descriptorIndex := 84, attributes := #[] }, { accessFlags := 10, nameIndex := 103, descriptorIndex := 104, attributes := #[] }] 48 2 #[] #[{ accessFlags := 26, nameIndex := 107, descriptorIndex := 108, attributes := #[] }, { accessFlags := 26, nameIndex := 93, descriptorIndex := 21, attributes := #[] }, { accessFlags := 24, nameIndex := 116, descriptorIndex := 29, attributes := #[] }, { accessFlags := 2, nameIndex := 16, descriptorIndex := 17, attributes := #[] }, { accessFlags := 2, nameIndex := 24, descriptorIndex := 25, attributes := #[] }, { accessFlags := 2, nameIndex := 28, descriptorIndex := 29, attributes := #[] }, { accessFlags := 2, nameIndex := 20, descriptorIndex := 21, attributes := #[] }])
  fields := #[{ name := "POWERS_OF_TEN", type := (.array .long), accessFlags := 26, slot := 0, constantValue := 0 }, { name := "HUNDRED", type := (.object "java/math/BigDecimal"), accessFlags := 26, slot := 1, constantValue := 0 }, { name := "LONG_DIGITS", type := .int, accessFlags := 24, slot := 2, constantValue := 0 }, { name := "given", type := .boolean, accessFlags := 2, slot := 0, constantValue := 0 }, { name := "unscaled", type := .long, accessFlags := 2, slot := 1, constantValue := 0 }, { name := "scale", type := .int, accessFlags := 2, slot := 2, constantValue := 0 }, { name := "large", type := (.object "java/math/BigDecimal"), accessFlags := 2, slot := 3, constantValue := 0 }]
  methods := #[k2m0, k2m1, k2m2, k2m3, k2m4, k2m5, k2m6, k2m7]
  instanceTypes := #[.boolean, .long, .int, (.object "java/math/BigDecimal")]
  staticTypes := #[(.array .long), (.object "java/math/BigDecimal"), .int]
  resolved := Array.replicate 135 none
  statics := some 0 }

def pool3 : Array CpInfo := pool [(1, .class_ 2), (0, u "java/io/Serializable"), (0, .class_ 4), (0, u "java/lang/Object")] 2

/-- java/io/Serializable -/
def k3 : Class := { plain "java/io/Serializable" (some 0) with
  accessFlags := 1537
  interfaces := #[]
  cf := some (fileOf pool3 1 #[] #[] 1537 3 #[] #[])
  fields := #[]
  methods := #[]
  instanceTypes := #[]
  staticTypes := #[]
  resolved := Array.replicate 7 none
  statics := none }

def pool4 : Array CpInfo := pool [(2, .class_ 4), (1, u "java/lang/Object"), (0, u "<init>"), (0, u "()V"), (1, .class_ 10), (1, u "java/lang/Number"), (2, .class_ 14), (0, u "java/io/Serializable"), (0, u "serialVersionUID"), (0, u "J")] 20

def k4m0 : Method := { name := "<init>", desc := "()V", sig := { parameters := [], returnType := none }, accessFlags := 1, code := none }
/-- java/lang/Number -/
def k4 : Class := { plain "java/lang/Number" (some 0) with
  accessFlags := 1057
  interfaces := #[3]
  cf := some (fileOf pool4 8 #[] #[{ accessFlags := 1, nameIndex := 5, descriptorIndex := 6, attributes := #[] }] 1057 2 #[13] #[{ accessFlags := 26, nameIndex := 15, descriptorIndex := 16, attributes := #[] }])
  fields := #[{ name := "serialVersionUID", type := .long, accessFlags := 26, slot := 0, constantValue := 0 }]
  methods := #[k4m0]
  instanceTypes := #[]
  staticTypes := #[.long]
  resolved := Array.replicate 37 none
  statics := none }

def pool5 : Array CpInfo := pool [(1, .class_ 2), (0, u "java/lang/Comparable"), (0, .class_ 4), (0, u "java/lang/Object")] 7

/-- java/lang/Comparable -/
def k5 : Class := { plain "java/lang/Comparable" (some 0) with
  accessFlags := 1537
  interfaces := #[]
  cf := some (fileOf pool5 1 #[] #[] 1537 3 #[] #[])
  fields := #[]
  methods := #[]
  instanceTypes := #[]
  staticTypes := #[]
  resolved := Array.replicate 12 none
  statics := none }

def pool6 : Array CpInfo := pool [(1, .class_ 2), (0, u "java/lang/constant/Constable"), (0, .class_ 4), (0, u "java/lang/Object")] 6

/-- java/lang/constant/Constable -/
def k6 : Class := { plain "java/lang/constant/Constable" (some 0) with
  accessFlags := 1537
  interfaces := #[]
  cf := some (fileOf pool6 1 #[] #[] 1537 3 #[] #[])
  fields := #[]
  methods := #[]
  instanceTypes := #[]
  staticTypes := #[]
  resolved := Array.replicate 11 none
  statics := none }

def pool7 : Array CpInfo := pool [(1, .class_ 2), (0, u "java/lang/constant/ConstantDesc"), (0, .class_ 4), (0, u "java/lang/Object")] 32

/-- java/lang/constant/ConstantDesc -/
def k7 : Class := { plain "java/lang/constant/ConstantDesc" (some 0) with
  accessFlags := 1537
  interfaces := #[]
  cf := some (fileOf pool7 1 #[] #[] 1537 3 #[] #[])
  fields := #[]
  methods := #[]
  instanceTypes := #[]
  staticTypes := #[]
  resolved := Array.replicate 37 none
  statics := none }

def pool8 : Array CpInfo := pool [(1, .class_ 2), (0, u "java/lang/Long"), (98, u "(J)I"), (133, .class_ 237), (1, u "java/lang/Long$LongCache"), (33, .class_ 272), (0, u "java/lang/Number"), (2, u "value"), (0, u "J"), (27, u "compare"), (0, u "(JJ)I"), (55, u "TYPE"), (0, u "Ljava/lang/Class;"), (0, .class_ 364), (0, u "java/lang/Comparable"), (0, .class_ 366), (0, u "java/lang/constant/Constable"), (0, .class_ 368), (0, u "java/lang/constant/ConstantDesc"), (0, u "MIN_VALUE"), (1, u "MAX_VALUE"), (4, u "SIZE"), (0, u "I"), (1, u "BYTES"), (1, u "serialVersionUID"), (115, u "signum")] 26

def k8c0 : Code := { maxStack := 4, maxLocals := 4, code := jdk_35_method_42_code, exceptionTable := #[], attributes := #[] }
def k8m0 : Method := { name := "compare", desc := "(JJ)I", sig := { parameters := [.long, .long], returnType := some .int }, accessFlags := 9, code := some k8c0 }
def k8c1 : Code := { maxStack := 5, maxLocals := 2, code := jdk_35_method_57_code, exceptionTable := #[], attributes := #[] }
def k8m1 : Method := { name := "signum", desc := "(J)I", sig := { parameters := [.long], returnType := some .int }, accessFlags := 9, code := some k8c1 }
/-- java/lang/Long -/
def k8 : Class := { plain "java/lang/Long" (some 4) with
  accessFlags := 49
  interfaces := #[5, 6, 7]
  cf := some (fileOf pool8 1 #[.nestMembers #[235]] #[{ accessFlags := 9, nameIndex := 304, descriptorIndex := 305, attributes := #[] }, { accessFlags := 9, nameIndex := 497, descriptorIndex := 101, attributes := #[] }] 49 271 #[363, 365, 367] #[{ accessFlags := 25, nameIndex := 369, descriptorIndex := 276, attributes := #[] }, { accessFlags := 25, nameIndex := 371, descriptorIndex := 276, attributes := #[] }, { accessFlags := 25, nameIndex := 361, descriptorIndex := 362, attributes := #[] }, { accessFlags := 18, nameIndex := 275, descriptorIndex := 276, attributes := #[] }, { accessFlags := 25, nameIndex := 376, descriptorIndex := 377, attributes := #[] }, { accessFlags := 25, nameIndex := 379, descriptorIndex := 377, attributes := #[] }, { accessFlags := 26, nameIndex := 381, descriptorIndex := 276, attributes := #[] }])
  fields := #[{ name := "MIN_VALUE", type := .long, accessFlags := 25, slot := 0, constantValue := 0 }, { name := "MAX_VALUE", type := .long, accessFlags := 25, slot := 1, constantValue := 0 }, { name := "TYPE", type := (.object "java/lang/Class"), accessFlags := 25, slot := 2, constantValue := 0 }, { name := "value", type := .long, accessFlags := 18, slot := 0, constantValue := 0 }, { name := "SIZE", type := .int, accessFlags := 25, slot := 3, constantValue := 0 }, { name := "BYTES", type := .int, accessFlags := 25, slot := 4, constantValue := 0 }, { name := "serialVersionUID", type := .long, accessFlags := 26, slot := 5, constantValue := 0 }]
  methods := #[k8m0, k8m1]
  instanceTypes := #[.long]
  staticTypes := #[.long, .long, (.object "java/lang/Class"), .int, .int, .long]
  resolved := Array.replicate 524 none
  statics := none }

def pool9 : Array CpInfo := pool [(1, .class_ 2), (0, u "java/lang/Math"), (1, .class_ 6), (1, u "java/lang/Object"), (0, u "<init>"), (0, u "()V"), (89, .class_ 100), (1, u "java/lang/Math$RandomNumberGeneratorHolder"), (20, u "(JJ)J"), (16, .long 4294967295), (3, u "multiplyHigh"), (29, u "negativeZeroFloatBits"), (0, u "J"), (2, u "negativeZeroDoubleBits"), (68, u "$assertionsDisabled"), (0, u "Z"), (91, u "twoToTheDoubleScaleDown"), (0, u "D"), (4, u "twoToTheDoubleScaleUp"), (9, u "E"), (3, u "PI"), (2, u "TAU"), (2, u "DEGREES_TO_RADIANS"), (0, u "RADIANS_TO_DEGREES")] 94

def k9m0 : Method := { name := "<init>", desc := "()V", sig := { parameters := [], returnType := none }, accessFlags := 2, code := none }
def k9c1 : Code := { maxStack := 6, maxLocals := 20, code := jdk_29_method_45_code, exceptionTable := #[], attributes := #[] }
def k9m1 : Method := { name := "multiplyHigh", desc := "(JJ)J", sig := { parameters := [.long, .long], returnType := some .long }, accessFlags := 9, code := some k9c1 }
/-- java/lang/Math -/
def k9 : Class := { plain "java/lang/Math" (some 0) with
  accessFlags := 49
  interfaces := #[]
  cf := some (fileOf pool9 1 #[.nestMembers #[98]] #[{ accessFlags := 2, nameIndex := 7, descriptorIndex := 8, attributes := #[] }, { accessFlags := 9, nameIndex := 142, descriptorIndex := 121, attributes := #[] }] 49 4 #[] #[{ accessFlags := 25, nameIndex := 354, descriptorIndex := 339, attributes := #[] }, { accessFlags := 25, nameIndex := 358, descriptorIndex := 339, attributes := #[] }, { accessFlags := 25, nameIndex := 361, descriptorIndex := 339, attributes := #[] }, { accessFlags := 26, nameIndex := 364, descriptorIndex := 339, attributes := #[] }, { accessFlags := 26, nameIndex := 365, descriptorIndex := 339, attributes := #[] }, { accessFlags := 26, nameIndex := 172, descriptorIndex := 173, attributes := #[] }, { accessFlags := 26, nameIndex := 176, descriptorIndex := 173, attributes := #[] }, { accessFlags := 8, nameIndex := 344, descriptorIndex := 339, attributes := #[] }, { accessFlags := 8, nameIndex := 338, descriptorIndex := 339, attributes := #[] }, { accessFlags := 4120, nameIndex := 245, descriptorIndex := 246, attributes := #[] }])
  fields := #[{ name := "E", type := .double, accessFlags := 25, slot := 0, constantValue := 0 }, { name := "PI", type := .double, accessFlags := 25, slot := 1, constantValue := 0 }, { name := "TAU", type := .double, accessFlags := 25, slot := 2, constantValue := 0 }, { name := "DEGREES_TO_RADIANS", type := .double, accessFlags := 26, slot := 3, constantValue := 0 }, { name := "RADIANS_TO_DEGREES", type := .double, accessFlags := 26, slot := 4, constantValue := 0 }, { name := "negativeZeroFloatBits", type := .long, accessFlags := 26, slot := 5, constantValue := 0 }, { name := "negativeZeroDoubleBits", type := .long, accessFlags := 26, slot := 6, constantValue := 0 }, { name := "twoToTheDoubleScaleUp", type := .double, accessFlags := 8, slot := 7, constantValue := 0 }, { name := "twoToTheDoubleScaleDown", type := .double, accessFlags := 8, slot := 8, constantValue := 0 }, { name := "$assertionsDisabled", type := .boolean, accessFlags := 4120, slot := 9, constantValue := 0 }]
  methods := #[k9m0, k9m1]
  instanceTypes := #[]
  staticTypes := #[.double, .double, .double, .double, .double, .long, .long, .double, .double, .boolean]
  resolved := Array.replicate 460 none
  statics := none }

def pool10 : Array CpInfo := pool [(1, u "java/lang/Cloneable"), (0, .class_ 1), (0, u "java/lang/Object"), (0, .class_ 3)] 3

/-- java/lang/Cloneable -/
def k10 : Class := { plain "java/lang/Cloneable" (some 0) with
  accessFlags := 1537
  interfaces := #[]
  cf := some (fileOf pool10 2 #[] #[] 1537 4 #[] #[])
  fields := #[]
  methods := #[]
  instanceTypes := #[]
  staticTypes := #[]
  resolved := Array.replicate 8 none
  statics := none }

/-- the primitive byte -/
def k11 : Class := { plain "byte" none with kind := .primitive 'B', accessFlags := 0x411 }
/-- [B -/
def k12 : Class := { plain "[B" (some 0) with kind := .array 11 .byte, interfaces := #[10, 3], accessFlags := 1041 }

/-- the primitive int -/
def k13 : Class := { plain "int" none with kind := .primitive 'I', accessFlags := 0x411 }
/-- [I -/
def k14 : Class := { plain "[I" (some 0) with kind := .array 13 .int, interfaces := #[10, 3], accessFlags := 1041 }

/-- the primitive long -/
def k15 : Class := { plain "long" none with kind := .primitive 'J', accessFlags := 0x411 }
/-- [J -/
def k16 : Class := { plain "[J" (some 0) with kind := .array 15 .long, interfaces := #[10, 3], accessFlags := 1041 }

def heap : Heap := #[{ cls := 2, slots := #[.ref 1, .null, .int 0], vm := .statics 2 },
  { cls := 16, slots := #[.long 1, .long 10, .long 100, .long 1000, .long 10000, .long 100000, .long 1000000, .long 10000000, .long 100000000, .long 1000000000, .long 10000000000, .long 100000000000, .long 1000000000000, .long 10000000000000, .long 100000000000000, .long 1000000000000000, .long 10000000000000000, .long 100000000000000000, .long 1000000000000000000], vm := .none }]
def classes : Array Class := #[k0, k1, k2, k3, k4, k5, k6, k7, k8, k9, k10, k11, k12, k13, k14, k15, k16]
def interned : List (Array UInt16 × Addr) := []
def slotsUsed : Nat := 22
def theMethod : MethodId := ⟨1, 3⟩
def args0 : Array Value := #[.long 5, .int 3, .long 7, .long 9, .int 2, .int 1]
def aboutOver (below : List Frame) : State where
  vm := { classes := classes, interned := interned.toArray }
  heap := heap
  slotsUsed := slotsUsed
  threads := #[{ frames := .invoking theMethod args0 :: below }]
def below0 : List Frame := [.native { method := ⟨0, 0⟩, args := #[] }]
def about1 : State := aboutOver below0
def p0 : Program := .bare "" "" ""
def e0 : Env := launch0.env 0 0 0
theorem w_frames : about1.frames = Frame.invoking theMethod args0 :: below0 := rfl
set_option maxRecDepth 65536 in
theorem w_args : argsFit about1.vm theMethod args0 = true := by decide +kernel
set_option maxRecDepth 65536 in
theorem w_heap : heapFits about1 = true := by decide +kernel
set_option maxRecDepth 65536 in
theorem w_runnable : about1.curStatus? = some .runnable := by decide +kernel
set_option maxRecDepth 65536 in
theorem w_alone : about1.alone = true := by decide +kernel
set_option maxRecDepth 65536 in
theorem w_named : about1.methodNamed? x = some theMethod := by decide +kernel
set_option maxRecDepth 65536 in
theorem w_hears : about1.hears theMethod below0 = true := by decide +kernel
set_option maxRecDepth 65536 in
theorem w_ripe : about1.ripe theMethod args0 below0 = true := by decide +kernel
theorem w_running : about1.status = .running := rfl
set_option maxRecDepth 65536 in
theorem w_room : about1.hasRoom e0.platform room_1 = true :=
  launch0.hasRoom_least _ room_1 (by decide +kernel) (by decide +kernel) (by decide +kernel) (by decide +kernel) (by decide +kernel) (by decide +kernel)
theorem allAtoms_all (ts : List Jvm.Cond) (a : Array Jvm.Value) (st : Jvm.State) : (allAtoms ts).before a st = ts.all (fun c => c.before a st) := by
  induction ts with
  | nil => rfl
  | cons c t ih =>
    show (Jvm.Cond.and c (allAtoms t)).before a st = _
    rw [Jvm.Cond.before_and, ih, List.all_cons]
def words1 : List Jvm.Cond := Jvm.Cond.code x code maxLocals ret :: tables_1
/-- a 'code' word, met by the world's own term for the bytes: nothing is compared byte by byte -/
theorem code_word {y : MethodName} {bytes : ByteArray} {mx : Nat} {rt : Option FieldType} {a : Array Value} {s : State} {m : MethodId} {meth : Method} {c : Code} (h1 : s.methodNamed? y = some m) (h2 : s.vm.method? m = some meth) (h3 : meth.code = some c) (h4 : c.code = bytes)
    (h5 : (c.maxLocals == mx && c.exceptionTable.isEmpty && decide (c.maxStack ≤ mostOperands) && decide (meth.sig.returnType = rt) && !meth.locks && decide (parseMethodDescriptor y.desc = some meth.sig)) = true) : (Jvm.Cond.code y bytes mx rt).before a s = true := by
  simp only [Bool.and_eq_true, beq_iff_eq, Bool.not_eq_true', decide_eq_true_eq] at h5
  obtain ⟨⟨⟨⟨⟨g1, g2⟩, g3⟩, g4⟩, g5⟩, g6⟩ := h5
  simp [Cond.before, Cond.holds, Cond.value, h1, h2, h3, h4, g1, g2, g3, g4, g5, g6]
def isCode : Jvm.Cond → Bool
  | .code _ _ _ _ => true
  | _ => false
theorem all_split {L : List Jvm.Cond} {P : Jvm.Cond → Bool} (h1 : L.all (fun c => isCode c || P c) = true) (h2 : ∀ c ∈ L.filter isCode, P c = true) : L.all P = true := by
  refine List.all_eq_true.mpr fun c hc => ?_
  have h := List.all_eq_true.mp h1 c hc
  rcases Bool.eq_false_or_eq_true (isCode c) with hi | hi
  · exact h2 c (List.mem_filter.mpr ⟨hc, hi⟩)
  · simpa [hi] using h
set_option maxRecDepth 65536 in
theorem w_c0 : (Jvm.Cond.code x code maxLocals ret).before args0 about1 = true := code_word (m := ⟨1, 3⟩) (meth := k1m3) (c := k1c3) (by decide +kernel) rfl rfl rfl (by decide +kernel)
set_option maxRecDepth 65536 in
theorem w_c1 : (Jvm.Cond.code ({ cls := "com/example/lintel/lintel/Figure", name := "<init>", desc := "()V" } : Jvm.MethodName) prog_24_method_1_code (1 : Nat) (Option.none : Option Jvm.ClassFile.FieldType)).before args0 about1 = true := code_word (m := ⟨2, 0⟩) (meth := k2m0) (c := k2c0) (by decide +kernel) rfl rfl rfl (by decide +kernel)
set_option maxRecDepth 65536 in
theorem w_c2 : (Jvm.Cond.code ({ cls := "java/lang/Object", name := "<init>", desc := "()V" } : Jvm.MethodName) object_method_1_code (1 : Nat) (Option.none : Option Jvm.ClassFile.FieldType)).before args0 about1 = true := code_word (m := ⟨0, 0⟩) (meth := k0m0) (c := k0c0) (by decide +kernel) rfl rfl rfl (by decide +kernel)
set_option maxRecDepth 65536 in
theorem w_c3 : (Jvm.Cond.code ({ cls := "com/example/lintel/lintel/Figure", name := "set", desc := "(JI)V" } : Jvm.MethodName) prog_24_method_4_code (4 : Nat) (Option.none : Option Jvm.ClassFile.FieldType)).before args0 about1 = true := code_word (m := ⟨2, 2⟩) (meth := k2m2) (c := k2c2) (by decide +kernel) rfl rfl rfl (by decide +kernel)
set_option maxRecDepth 65536 in
theorem w_c4 : (Jvm.Cond.code ({ cls := "com/example/lintel/lintel/Figure", name := "clear", desc := "()V" } : Jvm.MethodName) prog_24_method_3_code (1 : Nat) (Option.none : Option Jvm.ClassFile.FieldType)).before args0 about1 = true := code_word (m := ⟨2, 1⟩) (meth := k2m1) (c := k2c1) (by decide +kernel) rfl rfl rfl (by decide +kernel)
set_option maxRecDepth 65536 in
theorem w_c5 : (Jvm.Cond.code ({ cls := "com/example/lintel/lintel/FigureSetPinLaw", name := "sign", desc := "(J)I" } : Jvm.MethodName) method_2_code (2 : Nat) (Option.some Jvm.ClassFile.FieldType.int)).before args0 about1 = true := code_word (m := ⟨1, 1⟩) (meth := k1m1) (c := k1c1) (by decide +kernel) rfl rfl rfl (by decide +kernel)
set_option maxRecDepth 65536 in
theorem w_c6 : (Jvm.Cond.code ({ cls := "com/example/lintel/lintel/Figure", name := "isGiven", desc := "()Z" } : Jvm.MethodName) prog_24_method_7_code (1 : Nat) (Option.some Jvm.ClassFile.FieldType.boolean)).before args0 about1 = true := code_word (m := ⟨2, 3⟩) (meth := k2m3) (c := k2c3) (by decide +kernel) rfl rfl rfl (by decide +kernel)
set_option maxRecDepth 65536 in
theorem w_c7 : (Jvm.Cond.code ({ cls := "com/example/lintel/lintel/Figure", name := "signum", desc := "()I" } : Jvm.MethodName) prog_24_method_8_code (1 : Nat) (Option.some Jvm.ClassFile.FieldType.int)).before args0 about1 = true := code_word (m := ⟨2, 4⟩) (meth := k2m4) (c := k2c4) (by decide +kernel) rfl rfl rfl (by decide +kernel)
set_option maxRecDepth 65536 in
theorem w_c8 : (Jvm.Cond.code ({ cls := "java/lang/Long", name := "signum", desc := "(J)I" } : Jvm.MethodName) jdk_35_method_57_code (2 : Nat) (Option.some Jvm.ClassFile.FieldType.int)).before args0 about1 = true := code_word (m := ⟨8, 1⟩) (meth := k8m1) (c := k8c1) (by decide +kernel) rfl rfl rfl (by decide +kernel)
set_option maxRecDepth 65536 in
theorem w_c9 : (Jvm.Cond.code ({ cls := "com/example/lintel/lintel/Figure", name := "compareTo", desc := "(Lcom/example/lintel/lintel/Figure;)I" } : Jvm.MethodName) prog_24_method_10_code (2 : Nat) (Option.some Jvm.ClassFile.FieldType.int)).before args0 about1 = true := code_word (m := ⟨2, 5⟩) (meth := k2m5) (c := k2c5) (by decide +kernel) rfl rfl rfl (by decide +kernel)
set_option maxRecDepth 65536 in
theorem w_c10 : (Jvm.Cond.code ({ cls := "com/example/lintel/lintel/Figure", name := "compare", desc := "(JJJJ)I" } : Jvm.MethodName) prog_24_method_12_code (8 : Nat) (Option.some Jvm.ClassFile.FieldType.int)).before args0 about1 = true := code_word (m := ⟨2, 6⟩) (meth := k2m6) (c := k2c6) (by decide +kernel) rfl rfl rfl (by decide +kernel)
set_option maxRecDepth 65536 in
theorem w_c11 : (Jvm.Cond.code ({ cls := "java/lang/Long", name := "compare", desc := "(JJ)I" } : Jvm.MethodName) jdk_35_method_42_code (4 : Nat) (Option.some Jvm.ClassFile.FieldType.int)).before args0 about1 = true := code_word (m := ⟨8, 0⟩) (meth := k8m0) (c := k8c0) (by decide +kernel) rfl rfl rfl (by decide +kernel)
set_option maxRecDepth 65536 in
theorem w_c12 : (Jvm.Cond.code ({ cls := "com/example/lintel/lintel/FigureSetPinLaw", name := "cmp", desc := "(JJ)I" } : Jvm.MethodName) method_3_code (4 : Nat) (Option.some Jvm.ClassFile.FieldType.int)).before args0 about1 = true := code_word (m := ⟨1, 2⟩) (meth := k1m2) (c := k1c2) (by decide +kernel) rfl rfl rfl (by decide +kernel)
set_option maxRecDepth 65536 in
theorem w_c13 : (Jvm.Cond.code ({ cls := "com/example/lintel/lintel/Figure", name := "compareRaised", desc := "(JJJ)I" } : Jvm.MethodName) prog_24_method_13_code (8 : Nat) (Option.some Jvm.ClassFile.FieldType.int)).before args0 about1 = true := code_word (m := ⟨2, 7⟩) (meth := k2m7) (c := k2c7) (by decide +kernel) rfl rfl rfl (by decide +kernel)
set_option maxRecDepth 65536 in
theorem w_c14 : (Jvm.Cond.code ({ cls := "java/lang/Math", name := "multiplyHigh", desc := "(JJ)J" } : Jvm.MethodName) jdk_29_method_45_code (20 : Nat) (Option.some Jvm.ClassFile.FieldType.long)).before args0 about1 = true := code_word (m := ⟨9, 1⟩) (meth := k9m1) (c := k9c1) (by decide +kernel) rfl rfl rfl (by decide +kernel)
def codes1 : List Jvm.Cond := [Jvm.Cond.code x code maxLocals ret, Jvm.Cond.code ({ cls := "com/example/lintel/lintel/Figure", name := "<init>", desc := "()V" } : Jvm.MethodName) prog_24_method_1_code (1 : Nat) (Option.none : Option Jvm.ClassFile.FieldType), Jvm.Cond.code ({ cls := "java/lang/Object", name := "<init>", desc := "()V" } : Jvm.MethodName) object_method_1_code (1 : Nat) (Option.none : Option Jvm.ClassFile.FieldType), Jvm.Cond.code ({ cls := "com/example/lintel/lintel/Figure", name := "set", desc := "(JI)V" } : Jvm.MethodName) prog_24_method_4_code (4 : Nat) (Option.none : Option Jvm.ClassFile.FieldType), Jvm.Cond.code ({ cls := "com/example/lintel/lintel/Figure", name := "clear", desc := "()V" } : Jvm.MethodName) prog_24_method_3_code (1 : Nat) (Option.none : Option Jvm.ClassFile.FieldType), Jvm.Cond.code ({ cls := "com/example/lintel/lintel/FigureSetPinLaw", name := "sign", desc := "(J)I" } : Jvm.MethodName) method_2_code (2 : Nat) (Option.some Jvm.ClassFile.FieldType.int), Jvm.Cond.code ({ cls := "com/example/lintel/lintel/Figure", name := "isGiven", desc := "()Z" } : Jvm.MethodName) prog_24_method_7_code (1 : Nat) (Option.some Jvm.ClassFile.FieldType.boolean), Jvm.Cond.code ({ cls := "com/example/lintel/lintel/Figure", name := "signum", desc := "()I" } : Jvm.MethodName) prog_24_method_8_code (1 : Nat) (Option.some Jvm.ClassFile.FieldType.int), Jvm.Cond.code ({ cls := "java/lang/Long", name := "signum", desc := "(J)I" } : Jvm.MethodName) jdk_35_method_57_code (2 : Nat) (Option.some Jvm.ClassFile.FieldType.int), Jvm.Cond.code ({ cls := "com/example/lintel/lintel/Figure", name := "compareTo", desc := "(Lcom/example/lintel/lintel/Figure;)I" } : Jvm.MethodName) prog_24_method_10_code (2 : Nat) (Option.some Jvm.ClassFile.FieldType.int), Jvm.Cond.code ({ cls := "com/example/lintel/lintel/Figure", name := "compare", desc := "(JJJJ)I" } : Jvm.MethodName) prog_24_method_12_code (8 : Nat) (Option.some Jvm.ClassFile.FieldType.int), Jvm.Cond.code ({ cls := "java/lang/Long", name := "compare", desc := "(JJ)I" } : Jvm.MethodName) jdk_35_method_42_code (4 : Nat) (Option.some Jvm.ClassFile.FieldType.int), Jvm.Cond.code ({ cls := "com/example/lintel/lintel/FigureSetPinLaw", name := "cmp", desc := "(JJ)I" } : Jvm.MethodName) method_3_code (4 : Nat) (Option.some Jvm.ClassFile.FieldType.int), Jvm.Cond.code ({ cls := "com/example/lintel/lintel/Figure", name := "compareRaised", desc := "(JJJ)I" } : Jvm.MethodName) prog_24_method_13_code (8 : Nat) (Option.some Jvm.ClassFile.FieldType.int), Jvm.Cond.code ({ cls := "java/lang/Math", name := "multiplyHigh", desc := "(JJ)J" } : Jvm.MethodName) jdk_29_method_45_code (20 : Nat) (Option.some Jvm.ClassFile.FieldType.long)]
set_option maxRecDepth 65536 in
theorem codes_eq : words1.filter isCode = codes1 := rfl
theorem w_codes : ∀ c ∈ words1.filter isCode, c.before args0 about1 = true := by
  rw [codes_eq]
  intro c hc
  simp only [codes1, List.mem_cons, List.not_mem_nil, or_false] at hc
  rcases hc with rfl | rfl | rfl | rfl | rfl | rfl | rfl | rfl | rfl | rfl | rfl | rfl | rfl | rfl | rfl
  · exact w_c0
  · exact w_c1
  · exact w_c2
  · exact w_c3
  · exact w_c4
  · exact w_c5
  · exact w_c6
  · exact w_c7
  · exact w_c8
  · exact w_c9
  · exact w_c10
  · exact w_c11
  · exact w_c12
  · exact w_c13
  · exact w_c14
set_option maxRecDepth 65536 in
theorem w_t1 : (words1.take 24).all (fun c => isCode c || c.before args0 about1) = true := by decide +kernel
set_option maxRecDepth 65536 in
theorem w_t2 : ((words1.drop 24).take 24).all (fun c => isCode c || c.before args0 about1) = true := by decide +kernel
set_option maxRecDepth 65536 in
theorem w_t3 : ((words1.drop 24).drop 24).all (fun c => isCode c || c.before args0 about1) = true := by decide +kernel
theorem w_tables : (allAtoms (Jvm.Cond.code x code maxLocals ret :: tables_1)).before args0 about1 = true := by
  rw [allAtoms_all]
  show words1.all (fun c => c.before args0 about1) = true
  refine all_split ?_ w_codes
  rw [← List.take_append_drop 24 words1, List.all_append, w_t1, ← List.take_append_drop 24 (words1.drop 24), List.all_append, w_t2, w_t3]
  rfl
set_option maxRecDepth 65536 in
theorem w_case : (Jvm.Cond.and given_1 narrow_1).before args0 about1 = true := by decide +kernel
theorem w_applies : (headSpec (Jvm.Cond.code x code maxLocals ret :: tables_1) room_1).applies x e0.platform about1 = true :=
  (Spec.applies_iff w_frames).mpr ⟨w_running, w_runnable, w_alone, w_named, w_hears, w_ripe, w_room, w_tables⟩
theorem atStart : AtStart classFile x code maxLocals ret World_1 tables_1 room_1 Calls_1 rest_1 Pre_1 launch0 p0 e0 about1 theMethod args0 below0 :=
  ⟨lists_1, trivial, launch0.admits_env _ _ _, launch0.least_env, fairChoices_fair.cas, fairChoices_fair.clock, w_frames, w_args, w_heap, w_applies, trivial, trivial, w_case⟩
end start1
theorem witness_1 : WitnessClaimed_1 := ⟨start1.p0, start1.e0, start1.about1, start1.theMethod, start1.args0, start1.below0, start1.atStart⟩
end Jvm.Pilot.@@N@@
