import JvmDerived
import JvmDerived.Pilot.@@N@@Statement
import JvmDerived.Pilot.@@N@@Code
set_option linter.unusedVariables false
set_option linter.unusedSimpArgs false
namespace Jvm.RoadKit
open Sem ClassFile Op Lib Jvm.Stand Jvm.Free Jvm.LawKit
section New
variable {p : Program} {l : Launch} {e : Env} {R : Room} {s : State} {m : MethodId} {args : Array Value} {below : List Frame} {meth : Method} {c : Code} {T : State} {locs : List Loc} {cells slots : Nat}
theorem retI (X : Stand p l e R s m args below meth c T locs cells slots) (hx : p.tables.exec = Jvm.exec) {pc : Nat} {Ls : Array Slot} {z : Int32} {rest : List Value} (hret : meth.sig.returnType = some .int) (hd : decode c.code pc = .ok (.ireturn, 1)) {fs : List Frame}
    (hl : ∀ (f : JFrame) (acts : List Action), f.method = m → f.locked = none → f.entered = [] → (doReturn e (T.setTop f) acts (some (.int z))).1 = T.setFrames fs) : Steps p.tables e below (T.setTop (mkF m pc Ls (.int z :: rest))) (T.setFrames fs) := by
  have hm' : T.vm.method? m = some meth := X.method'
  have hn : narrow .int (.int z) = .int z := rfl
  show Steps p.tables e below (T.setTop { method := m, pc := pc, locals := Ls, stack := _ :: rest, locked := none }) _
  jvm_step X.here [X.here.top, hx, hd, hm', hret, hn]
  first | (intro acts; rw [hl _ acts rfl rfl rfl]) | rw [hl _ _ rfl rfl rfl]
  exact Steps.refl _
end New
end Jvm.RoadKit
namespace Jvm.Pilot.@@N@@
open Jvm Jvm.ClassFile Sem Op Lib Jvm.Free Jvm.Stand Jvm.LawKit Jvm.RoadKit Bundle Jvm.Pilot.@@N@@.Jvm.D
theorem o_iload {tb : Tables} [Ours tb] {e : Env} {below : List Frame} {T target : State} {m : MethodId} {c : Code} {pc : Nat} {ls : Array Slot} {st : List Value} {k : Nat} {v : Int32} (h : At T m c below) (hx : tb.exec = Jvm.exec) (hd : decode c.code pc = .ok (.iload k, 2)) (hl : ls[k]? = some (.val (.int v))) (hr : Steps tb e below (T.setTop (mkF m (pc + 2) ls (.int v :: st))) target) : Steps tb e below (T.setTop (mkF m pc ls st)) target := XS.iload (g := mkF m pc ls st) h hx rfl hd hl hr
theorem o_iloadN {tb : Tables} [Ours tb] {e : Env} {below : List Frame} {T target : State} {m : MethodId} {c : Code} {pc : Nat} {ls : Array Slot} {st : List Value} {k : Fin 4} {v : Int32} (h : At T m c below) (hx : tb.exec = Jvm.exec) (hd : decode c.code pc = .ok (.iload_n k, 1)) (hl : ls[k.val]? = some (.val (.int v))) (hr : Steps tb e below (T.setTop (mkF m (pc + 1) ls (.int v :: st))) target) : Steps tb e below (T.setTop (mkF m pc ls st)) target := XS.iloadN (g := mkF m pc ls st) h hx rfl hd hl hr
theorem o_lload {tb : Tables} [Ours tb] {e : Env} {below : List Frame} {T target : State} {m : MethodId} {c : Code} {pc : Nat} {ls : Array Slot} {st : List Value} {k : Nat} {v : Int64} (h : At T m c below) (hx : tb.exec = Jvm.exec) (hd : decode c.code pc = .ok (.lload k, 2)) (hl : ls[k]? = some (.val (.long v))) (hr : Steps tb e below (T.setTop (mkF m (pc + 2) ls (.long v :: st))) target) : Steps tb e below (T.setTop (mkF m pc ls st)) target := XT.lload (g := mkF m pc ls st) h hx rfl hd hl hr
theorem o_lloadN {tb : Tables} [Ours tb] {e : Env} {below : List Frame} {T target : State} {m : MethodId} {c : Code} {pc : Nat} {ls : Array Slot} {st : List Value} {k : Fin 4} {v : Int64} (h : At T m c below) (hx : tb.exec = Jvm.exec) (hd : decode c.code pc = .ok (.lload_n k, 1)) (hl : ls[k.val]? = some (.val (.long v))) (hr : Steps tb e below (T.setTop (mkF m (pc + 1) ls (.long v :: st))) target) : Steps tb e below (T.setTop (mkF m pc ls st)) target := XT.lloadN (g := mkF m pc ls st) h hx rfl hd hl hr
theorem o_dload {tb : Tables} [Ours tb] {e : Env} {below : List Frame} {T target : State} {m : MethodId} {c : Code} {pc : Nat} {ls : Array Slot} {st : List Value} {k : Nat} {v : UInt64} (h : At T m c below) (hx : tb.exec = Jvm.exec) (hd : decode c.code pc = .ok (.dload k, 2)) (hl : ls[k]? = some (.val (.double v))) (hr : Steps tb e below (T.setTop (mkF m (pc + 2) ls (.double v :: st))) target) : Steps tb e below (T.setTop (mkF m pc ls st)) target := XS.dload (g := mkF m pc ls st) h hx rfl hd hl hr
theorem o_dloadN {tb : Tables} [Ours tb] {e : Env} {below : List Frame} {T target : State} {m : MethodId} {c : Code} {pc : Nat} {ls : Array Slot} {st : List Value} {k : Fin 4} {v : UInt64} (h : At T m c below) (hx : tb.exec = Jvm.exec) (hd : decode c.code pc = .ok (.dload_n k, 1)) (hl : ls[k.val]? = some (.val (.double v))) (hr : Steps tb e below (T.setTop (mkF m (pc + 1) ls (.double v :: st))) target) : Steps tb e below (T.setTop (mkF m pc ls st)) target := XS.dloadN (g := mkF m pc ls st) h hx rfl hd hl hr
theorem o_istore {tb : Tables} [Ours tb] {e : Env} {below : List Frame} {T target : State} {m : MethodId} {c : Code} {pc : Nat} {ls : Array Slot} {st : List Value} {k : Nat} {x : Int32} {l' : Array Slot} (h : At T m c below) (hx : tb.exec = Jvm.exec) (hd : decode c.code pc = .ok (.istore k, 2)) (hl : storeLocals ls k (.int x) = some l') (hr : Steps tb e below (T.setTop (mkF m (pc + 2) l' st)) target) : Steps tb e below (T.setTop (mkF m pc ls (.int x :: st))) target := XS.istore (g := mkF m pc ls (.int x :: st)) h hx rfl hd rfl hl hr
theorem o_lstore {tb : Tables} [Ours tb] {e : Env} {below : List Frame} {T target : State} {m : MethodId} {c : Code} {pc : Nat} {ls : Array Slot} {st : List Value} {k : Nat} {x : Int64} {l' : Array Slot} (h : At T m c below) (hx : tb.exec = Jvm.exec) (hd : decode c.code pc = .ok (.lstore k, 2)) (hl : storeLocals ls k (.long x) = some l') (hr : Steps tb e below (T.setTop (mkF m (pc + 2) l' st)) target) : Steps tb e below (T.setTop (mkF m pc ls (.long x :: st))) target := XT.lstore (g := mkF m pc ls (.long x :: st)) h hx rfl hd rfl hl hr
theorem o_dstore {tb : Tables} [Ours tb] {e : Env} {below : List Frame} {T target : State} {m : MethodId} {c : Code} {pc : Nat} {ls : Array Slot} {st : List Value} {k : Nat} {x : UInt64} {l' : Array Slot} (h : At T m c below) (hx : tb.exec = Jvm.exec) (hd : decode c.code pc = .ok (.dstore k, 2)) (hl : storeLocals ls k (.double x) = some l') (hr : Steps tb e below (T.setTop (mkF m (pc + 2) l' st)) target) : Steps tb e below (T.setTop (mkF m pc ls (.double x :: st))) target := XS.dstore (g := mkF m pc ls (.double x :: st)) h hx rfl hd rfl hl hr
theorem o_dstoreN {tb : Tables} [Ours tb] {e : Env} {below : List Frame} {T target : State} {m : MethodId} {c : Code} {pc : Nat} {ls : Array Slot} {st : List Value} {k : Fin 4} {x : UInt64} {l' : Array Slot} (h : At T m c below) (hx : tb.exec = Jvm.exec) (hd : decode c.code pc = .ok (.dstore_n k, 1)) (hl : storeLocals ls k.val (.double x) = some l') (hr : Steps tb e below (T.setTop (mkF m (pc + 1) l' st)) target) : Steps tb e below (T.setTop (mkF m pc ls (.double x :: st))) target := XS.dstoreN (g := mkF m pc ls (.double x :: st)) h hx rfl hd rfl hl hr
theorem o_aload {tb : Tables} [Ours tb] {e : Env} {below : List Frame} {T target : State} {m : MethodId} {c : Code} {pc : Nat} {ls : Array Slot} {st : List Value} {k : Nat} {v : Value} (h : At T m c below) (hx : tb.exec = Jvm.exec) (hd : decode c.code pc = .ok (.aload k, 2)) (hl : ls[k]? = some (.val v)) (hv : v.isRef = true) (hr : Steps tb e below (T.setTop (mkF m (pc + 2) ls (v :: st))) target) : Steps tb e below (T.setTop (mkF m pc ls st)) target := XS.aload (g := mkF m pc ls st) h hx rfl hd hl hv hr
theorem o_aloadN {tb : Tables} [Ours tb] {e : Env} {below : List Frame} {T target : State} {m : MethodId} {c : Code} {pc : Nat} {ls : Array Slot} {st : List Value} {k : Fin 4} {v : Value} (h : At T m c below) (hx : tb.exec = Jvm.exec) (hd : decode c.code pc = .ok (.aload_n k, 1)) (hl : ls[k.val]? = some (.val v)) (hv : v.isRef = true) (hr : Steps tb e below (T.setTop (mkF m (pc + 1) ls (v :: st))) target) : Steps tb e below (T.setTop (mkF m pc ls st)) target := XS.aloadN (g := mkF m pc ls st) h hx rfl hd hl hv hr
theorem o_astore {tb : Tables} [Ours tb] {e : Env} {below : List Frame} {T target : State} {m : MethodId} {c : Code} {pc : Nat} {ls : Array Slot} {st : List Value} {k : Nat} {x : Value} {l' : Array Slot} (h : At T m c below) (hx : tb.exec = Jvm.exec) (hd : decode c.code pc = .ok (.astore k, 2)) (hv : x.isRef = true) (hl : storeLocals ls k x = some l') (hr : Steps tb e below (T.setTop (mkF m (pc + 2) l' st)) target) : Steps tb e below (T.setTop (mkF m pc ls (x :: st))) target := XS.astore (g := mkF m pc ls (x :: st)) h hx rfl hd rfl hv hl hr
theorem o_iconstV {tb : Tables} [Ours tb] {e : Env} {below : List Frame} {T target : State} {m : MethodId} {c : Code} {pc : Nat} {ls : Array Slot} {st : List Value} {i : Int} (h : At T m c below) (hx : tb.exec = Jvm.exec) (v : Int32) (hd : decode c.code pc = .ok (.iconst i, 1)) (hv : Int32.ofInt i = v) (hr : Steps tb e below (T.setTop (mkF m (pc + 1) ls (.int v :: st))) target) : Steps tb e below (T.setTop (mkF m pc ls st)) target := XT.iconstV (g := mkF m pc ls st) h hx rfl v hd hv hr
theorem o_bipushV {tb : Tables} [Ours tb] {e : Env} {below : List Frame} {T target : State} {m : MethodId} {c : Code} {pc : Nat} {ls : Array Slot} {st : List Value} {i : Int} (h : At T m c below) (hx : tb.exec = Jvm.exec) (v : Int32) (hd : decode c.code pc = .ok (.bipush i, 2)) (hv : (Int8.ofInt i).toInt32 = v) (hr : Steps tb e below (T.setTop (mkF m (pc + 2) ls (.int v :: st))) target) : Steps tb e below (T.setTop (mkF m pc ls st)) target := XT.bipushV (g := mkF m pc ls st) h hx rfl v hd hv hr
theorem o_lconstV {tb : Tables} [Ours tb] {e : Env} {below : List Frame} {T target : State} {m : MethodId} {c : Code} {pc : Nat} {ls : Array Slot} {st : List Value} {k : Fin 2} (h : At T m c below) (hx : tb.exec = Jvm.exec) (v : Int64) (hd : decode c.code pc = .ok (.lconst k, 1)) (hv : Int64.ofNat k = v) (hr : Steps tb e below (T.setTop (mkF m (pc + 1) ls (.long v :: st))) target) : Steps tb e below (T.setTop (mkF m pc ls st)) target := XT.lconstV (g := mkF m pc ls st) h hx rfl v hd hv hr
theorem o_dconst0 {tb : Tables} [Ours tb] {e : Env} {below : List Frame} {T target : State} {m : MethodId} {c : Code} {pc : Nat} {ls : Array Slot} {st : List Value} {v : UInt64} (h : At T m c below) (hx : tb.exec = Jvm.exec) (hd : decode c.code pc = .ok (.dconst 0, 1)) (hv : FP.dconst0 = v) (hr : Steps tb e below (T.setTop (mkF m (pc + 1) ls (.double v :: st))) target) : Steps tb e below (T.setTop (mkF m pc ls st)) target := XS.dconst0 (g := mkF m pc ls st) h hx rfl hd hv hr
theorem o_iand {tb : Tables} [Ours tb] {e : Env} {below : List Frame} {T target : State} {m : MethodId} {c : Code} {pc : Nat} {ls : Array Slot} {st : List Value} {x y : Int32} (h : At T m c below) (hx : tb.exec = Jvm.exec) (hd : decode c.code pc = .ok (.iand, 1)) (hr : Steps tb e below (T.setTop (mkF m (pc + 1) ls (.int (x &&& y) :: st))) target) : Steps tb e below (T.setTop (mkF m pc ls (.int y :: .int x :: st))) target := XS.iand (g := mkF m pc ls (.int y :: .int x :: st)) h hx rfl hd rfl hr
theorem o_ladd {tb : Tables} [Ours tb] {e : Env} {below : List Frame} {T target : State} {m : MethodId} {c : Code} {pc : Nat} {ls : Array Slot} {st : List Value} {x y : Int64} (h : At T m c below) (hx : tb.exec = Jvm.exec) (hd : decode c.code pc = .ok (.ladd, 1)) (hr : Steps tb e below (T.setTop (mkF m (pc + 1) ls (.long (x + y) :: st))) target) : Steps tb e below (T.setTop (mkF m pc ls (.long y :: .long x :: st))) target := XT.ladd (g := mkF m pc ls (.long y :: .long x :: st)) h hx rfl hd rfl hr
theorem o_lsub {tb : Tables} [Ours tb] {e : Env} {below : List Frame} {T target : State} {m : MethodId} {c : Code} {pc : Nat} {ls : Array Slot} {st : List Value} {x y : Int64} (h : At T m c below) (hx : tb.exec = Jvm.exec) (hd : decode c.code pc = .ok (.lsub, 1)) (hr : Steps tb e below (T.setTop (mkF m (pc + 1) ls (.long (x - y) :: st))) target) : Steps tb e below (T.setTop (mkF m pc ls (.long y :: .long x :: st))) target := XT.lsub (g := mkF m pc ls (.long y :: .long x :: st)) h hx rfl hd rfl hr
theorem o_lcmp {tb : Tables} [Ours tb] {e : Env} {below : List Frame} {T target : State} {m : MethodId} {c : Code} {pc : Nat} {ls : Array Slot} {st : List Value} {x y : Int64} (h : At T m c below) (hx : tb.exec = Jvm.exec) (hd : decode c.code pc = .ok (.lcmp, 1)) (hr : Steps tb e below (T.setTop (mkF m (pc + 1) ls (.int (XT.cmpL x y) :: st))) target) : Steps tb e below (T.setTop (mkF m pc ls (.long y :: .long x :: st))) target := XT.lcmp (g := mkF m pc ls (.long y :: .long x :: st)) h hx rfl hd rfl hr
theorem o_ldiv {tb : Tables} [Ours tb] {e : Env} {below : List Frame} {T target : State} {m : MethodId} {c : Code} {pc : Nat} {ls : Array Slot} {st : List Value} {x y : Int64} (h : At T m c below) (hx : tb.exec = Jvm.exec) (hd : decode c.code pc = .ok (.ldiv, 1)) (hy : y ≠ 0) (hr : Steps tb e below (T.setTop (mkF m (pc + 1) ls (.long (x / y) :: st))) target) : Steps tb e below (T.setTop (mkF m pc ls (.long y :: .long x :: st))) target := XT.ldiv (g := mkF m pc ls (.long y :: .long x :: st)) h hx rfl hd rfl hy hr
theorem o_i2l {tb : Tables} [Ours tb] {e : Env} {below : List Frame} {T target : State} {m : MethodId} {c : Code} {pc : Nat} {ls : Array Slot} {st : List Value} {x : Int32} (h : At T m c below) (hx : tb.exec = Jvm.exec) (hd : decode c.code pc = .ok (.i2l, 1)) (hr : Steps tb e below (T.setTop (mkF m (pc + 1) ls (.long (x.toInt64) :: st))) target) : Steps tb e below (T.setTop (mkF m pc ls (.int x :: st))) target := XT.i2l (g := mkF m pc ls (.int x :: st)) h hx rfl hd rfl hr
theorem o_dup {tb : Tables} [Ours tb] {e : Env} {below : List Frame} {T target : State} {m : MethodId} {c : Code} {pc : Nat} {ls : Array Slot} {st : List Value} {x : Value} (h : At T m c below) (hx : tb.exec = Jvm.exec) (hd : decode c.code pc = .ok (.dup, 1)) (hc : x.category = 1) (hr : Steps tb e below (T.setTop (mkF m (pc + 1) ls (x :: x :: st))) target) : Steps tb e below (T.setTop (mkF m pc ls (x :: st))) target := XS.dup (g := mkF m pc ls (x :: st)) h hx rfl hd rfl hc hr
theorem o_l2dS {tb : Tables} [Ours tb] {e : Env} {below : List Frame} {T target : State} {m : MethodId} {c : Code} {pc : Nat} {ls : Array Slot} {st : List Value} {x : Int64} {v : UInt64} (h : At T m c below) (hx : tb.exec = Jvm.exec) (hd : decode c.code pc = .ok (.l2d, 1)) (hv : FP.l2d x = v) (hr : Steps tb e below (T.setTop (mkF m (pc + 1) ls (.double v :: st))) target) : Steps tb e below (T.setTop (mkF m pc ls (.long x :: st))) target := XS.l2dS (g := mkF m pc ls (.long x :: st)) h hx rfl hd rfl hv hr
theorem o_daddS {tb : Tables} [Ours tb] {e : Env} {below : List Frame} {T target : State} {m : MethodId} {c : Code} {pc : Nat} {ls : Array Slot} {st : List Value} {x y v : UInt64} (h : At T m c below) (hx : tb.exec = Jvm.exec) (hd : decode c.code pc = .ok (.dadd, 1)) (hn : Jvm.Free.Fl.NoNaN64 (FP.dadd x y)) (hv : FP.dadd x y = v) (hr : Steps tb e below (T.setTop (mkF m (pc + 1) ls (.double v :: st))) target) : Steps tb e below (T.setTop (mkF m pc ls (.double y :: .double x :: st))) target := XS.daddS (g := mkF m pc ls (.double y :: .double x :: st)) h hx rfl hd rfl hn hv hr
theorem o_dcmpS {tb : Tables} [Ours tb] {e : Env} {below : List Frame} {T target : State} {m : MethodId} {c : Code} {pc : Nat} {ls : Array Slot} {st : List Value} {o : CmpOp} {x y : UInt64} {v : Int32} (h : At T m c below) (hx : tb.exec = Jvm.exec) (hd : decode c.code pc = .ok (.dcmp o, 1)) (hv : cmpValue (FP.dcmp x y) o = v) (hr : Steps tb e below (T.setTop (mkF m (pc + 1) ls (.int v :: st))) target) : Steps tb e below (T.setTop (mkF m pc ls (.double y :: .double x :: st))) target := XS.dcmpS (g := mkF m pc ls (.double y :: .double x :: st)) h hx rfl hd rfl hv hr
theorem o_goto {tb : Tables} [Ours tb] {e : Env} {below : List Frame} {T target : State} {m : MethodId} {c : Code} {pc : Nat} {ls : Array Slot} {st : List Value} {o : Int} {pc' : Nat}  (h : At T m c below) (hx : tb.exec = Jvm.exec) (hd : decode c.code pc = .ok (.goto o, 3)) (ho : 0 ≤ (pc : Int) + o) (hp : ((pc : Int) + o).toNat = pc') (hr : Steps tb e below (T.setTop (mkF m pc' ls st)) target) : Steps tb e below (T.setTop (mkF m pc ls st)) target := XS.goto (g := mkF m pc ls st) h hx rfl rfl hd ho hp hr
theorem o_ifYes {tb : Tables} [Ours tb] {e : Env} {below : List Frame} {T target : State} {m : MethodId} {c : Code} {pc : Nat} {ls : Array Slot} {st : List Value} {o : Int} {pc' : Nat} {cd : ClassFile.Cond} {x : Int32} (h : At T m c below) (hx : tb.exec = Jvm.exec) (hd : decode c.code pc = .ok (.ifCond cd o, 3)) (hc : ifCond.holds cd x = true) (ho : 0 ≤ (pc : Int) + o) (hp : ((pc : Int) + o).toNat = pc') (hr : Steps tb e below (T.setTop (mkF m pc' ls st)) target) : Steps tb e below (T.setTop (mkF m pc ls (.int x :: st))) target := XS.ifYes (g := mkF m pc ls (.int x :: st)) h hx rfl rfl hd rfl hc ho hp hr
theorem o_ifNo {tb : Tables} [Ours tb] {e : Env} {below : List Frame} {T target : State} {m : MethodId} {c : Code} {pc : Nat} {ls : Array Slot} {st : List Value} {o : Int} {cd : ClassFile.Cond} {x : Int32} (h : At T m c below) (hx : tb.exec = Jvm.exec) (hd : decode c.code pc = .ok (.ifCond cd o, 3)) (hc : ifCond.holds cd x = false) (hr : Steps tb e below (T.setTop (mkF m (pc + 3) ls st)) target) : Steps tb e below (T.setTop (mkF m pc ls (.int x :: st))) target := XS.ifNo (g := mkF m pc ls (.int x :: st)) h hx rfl hd rfl hc hr
theorem o_icmpYes {tb : Tables} [Ours tb] {e : Env} {below : List Frame} {T target : State} {m : MethodId} {c : Code} {pc : Nat} {ls : Array Slot} {st : List Value} {o : Int} {pc' : Nat} {cd : ClassFile.Cond} {x y : Int32} (h : At T m c below) (hx : tb.exec = Jvm.exec) (hd : decode c.code pc = .ok (.if_icmp cd o, 3)) (hc : if_icmp.holds cd x y = true) (ho : 0 ≤ (pc : Int) + o) (hp : ((pc : Int) + o).toNat = pc') (hr : Steps tb e below (T.setTop (mkF m pc' ls st)) target) : Steps tb e below (T.setTop (mkF m pc ls (.int y :: .int x :: st))) target := XS.icmpYes (g := mkF m pc ls (.int y :: .int x :: st)) h hx rfl rfl hd rfl hc ho hp hr
theorem o_icmpNo {tb : Tables} [Ours tb] {e : Env} {below : List Frame} {T target : State} {m : MethodId} {c : Code} {pc : Nat} {ls : Array Slot} {st : List Value} {o : Int} {cd : ClassFile.Cond} {x y : Int32} (h : At T m c below) (hx : tb.exec = Jvm.exec) (hd : decode c.code pc = .ok (.if_icmp cd o, 3)) (hc : if_icmp.holds cd x y = false) (hr : Steps tb e below (T.setTop (mkF m (pc + 3) ls st)) target) : Steps tb e below (T.setTop (mkF m pc ls (.int y :: .int x :: st))) target := XS.icmpNo (g := mkF m pc ls (.int y :: .int x :: st)) h hx rfl hd rfl hc hr
open Jvm.FP Jvm.Free.Fl in
def OBd (n : Int) (a : Int64) : Prop := -n ≤ a.toInt ∧ a.toInt ≤ n
theorem own_bd_b53 {n : Int} {a : Int64} (h : OBd n a) (q : n < 9007199254740992) : B53 a := ⟨by have := h.1; omega, by have := h.2; omega⟩
theorem own_bd_add {n m : Int} {a b : Int64} (h : OBd n a) (g : OBd m b) (q : n + m < 9007199254740992) : OBd (n + m) (a + b) := by
  obtain ⟨h1, h2⟩ := h
  obtain ⟨g1, g2⟩ := g
  have e : (a + b).toInt = a.toInt + b.toInt := by rw [Int64.toInt_add]; exact Int.bmod_eq_of_le (by omega) (by omega)
  exact ⟨by rw [e]; omega, by rw [e]; omega⟩
theorem own_bd_i (x : Int32) : OBd 2147483648 x.toInt64 := by
  have h1 := x.toInt_lt; have h2 := x.le_toInt
  exact ⟨by rw [Int32.toInt_toInt64]; omega, by rw [Int32.toInt_toInt64]; omega⟩
theorem own_bd_lit0 : OBd 0 (0 : Int64) := ⟨by decide, by decide⟩
theorem own_bd_lit1 : OBd 1 (1 : Int64) := ⟨by decide, by decide⟩
theorem own_dconst0 : FP.dconst0 = FP.l2d 0 := by decide +kernel
theorem own_dconst1 : FP.dconst1 = FP.l2d 1 := by decide +kernel
theorem own_dadd0 {a : Int64} (h : B53 a) : FP.dadd (FP.l2d a) (FP.l2d 0) = FP.l2d a := by
  rw [dadd_w h (own_bd_b53 own_bd_lit0 (by decide)), Int64.add_zero]
theorem own_irr (a : Int64) : ¬ a < a := by rw [Int64.lt_iff_toInt_lt]; omega
theorem own_asymm {a b : Int64} (h : a < b) : ¬ b < a := by
  rw [Int64.lt_iff_toInt_lt] at *; omega
theorem own_c3 (x : Int32) : x &&& 3 = 0 ∨ x &&& 3 = 1 ∨ x &&& 3 = 2 ∨ x &&& 3 = 3 := by
  have h := c_mask x 3 2 (by decide) (by decide)
  have e : ∀ k : Int32, (x &&& 3).toInt = k.toInt → x &&& 3 = k := fun k q => Int32.toInt_inj.mp q
  have h0 : (x &&& 3).toInt = 0 ∨ (x &&& 3).toInt = 1 ∨ (x &&& 3).toInt = 2 ∨ (x &&& 3).toInt = 3 := by omega
  rcases h0 with q | q | q | q
  · exact Or.inl (e 0 q)
  · exact Or.inr (Or.inl (e 1 q))
  · exact Or.inr (Or.inr (Or.inl (e 2 q)))
  · exact Or.inr (Or.inr (Or.inr (e 3 q)))
theorem own_strAtoms : ∀ d ∈ Bundle.stringAtoms, d ∈ tables_1 := by decide +kernel

def own_min (a b : Int64) : Int64 := if b < a then b else a
def own_max (a b : Int64) : Int64 := if a < b then b else a
theorem own_wide {n m : Int} {a : Int64} (h : OBd n a) (q : n ≤ m) : OBd m a := ⟨by have := h.1; omega, by have := h.2; omega⟩
theorem own_bd_min (x y : Int32) : OBd 2147483648 (own_min x.toInt64 y.toInt64) := by
  unfold own_min; split
  · exact own_bd_i y
  · exact own_bd_i x
theorem own_bd_max (x y : Int32) : OBd 2147483648 (own_max x.toInt64 y.toInt64) := by
  unfold own_max; split
  · exact own_bd_i y
  · exact own_bd_i x
theorem own_min_max (a b : Int64) : ¬ own_max a b < own_min a b := by
  unfold own_min own_max
  by_cases h : a < b
  · rw [if_pos h, if_neg (own_asymm h)]; exact own_asymm h
  · rw [if_neg h]; split
    · rename_i q; exact own_asymm q
    · exact own_irr _
theorem own_bd_sub {n m : Int} {a b : Int64} (h : OBd n a) (g : OBd m b) (q : n + m < 9007199254740992) : OBd (n + m) (a - b) := by
  obtain ⟨h1, h2⟩ := h
  obtain ⟨g1, g2⟩ := g
  have e : (a - b).toInt = a.toInt - b.toInt := by rw [Int64.toInt_sub]; exact Int.bmod_eq_of_le (by omega) (by omega)
  exact ⟨by rw [e]; omega, by rw [e]; omega⟩
theorem own_bd_half {n : Int} {a : Int64} (h : OBd n a) : OBd n (a / 2) := by
  obtain ⟨h1, h2⟩ := h
  have q := c_ldiv a 2 2 (by decide) (by decide)
  refine ⟨?_, ?_⟩ <;> omega

theorem dN_0 : decode jdk_29_method_70_code 0 = .ok (.lload_n 0, 1) := by decide +kernel
theorem dN_1 : decode jdk_29_method_70_code 1 = .ok (.lload_n 2, 1) := by decide +kernel
theorem dN_2 : decode jdk_29_method_70_code 2 = .ok (.lcmp, 1) := by decide +kernel
theorem dN_3 : decode jdk_29_method_70_code 3 = .ok (.ifCond .gt 7, 3) := by decide +kernel
theorem dN_6 : decode jdk_29_method_70_code 6 = .ok (.lload_n 0, 1) := by decide +kernel
theorem dN_7 : decode jdk_29_method_70_code 7 = .ok (.goto 4, 3) := by decide +kernel
theorem dN_10 : decode jdk_29_method_70_code 10 = .ok (.lload_n 2, 1) := by decide +kernel
theorem dN_11 : decode jdk_29_method_70_code 11 = .ok (.lreturn, 1) := by decide +kernel
theorem efN (m : MethodId) (x0 : Int64) (x1 : Int64) : entryFrame m #[(.long x0), (.long x1)] 4 = (mkF m 0 #[.val (.long x0), .second, .val (.long x1), .second] []) := by first | (simp [entryFrame, mkF, argsToLocals, Value.category]; done) | rfl
def QN (Z : State) (qa : Int64) (qb : Int64) (h0 : Heap) (n0 : Nat) (v : Option Value) (h : Heap) (L : List Loc) : Prop := v = some (.long (own_min qa qb)) ∧ Fr n0 L ∧ h = h0
set_option maxRecDepth 65536 in
set_option maxHeartbeats 40000000 in
theorem rmN (l : Launch) (Z : State) (a0 : Array Value) (hw : ∀ d ∈ tables_1, d.before a0 Z = true) (ws : List Jvm.Cond) (qa : Int64) (qb : Int64) (h0 : Heap) (n0 : Nat) (Z0 : n0 ≤ h0.size) :
    MetFree l (⟨"java/lang/Math", "min", "(JJ)J"⟩ : MethodName) (head1 (Jvm.Cond.code (⟨"java/lang/Math", "min", "(JJ)J"⟩ : MethodName) jdk_29_method_70_code 4 (some .long) :: ws) ({ frames := 0, cells := 0, slots := 0, locals := 0 } : Room)) (fun a U => a = #[(.long qa), (.long qb)] ∧ Z.Warmed39 U.vm ∧ U.heap = h0) (fun _ _ _ _ _ => True) (fun _ U o U' => ∃ v L, o = .returned v ∧ QN Z qa qb h0 n0 v U'.heap L ∧ FrameEnd U o U' L ({ frames := 0, cells := 0, slots := 0, locals := 0 } : Room).cells ({ frames := 0, cells := 0, slots := 0, locals := 0 } : Room).slots) := by
  refine MetFree.of_bodySF (by decide +kernel) hisR ?_
  intro p e s m args below meth c s₁ Bd hml0 hP hK
  obtain ⟨rfl, hZ, hh⟩ := hP
  have hx := Bd.exec
  have hby := Bd.bytes
  have hml : c.maxLocals = 4 := hml0
  have hown : s.vm.findClass "java/lang/Math" = some m.cls := findClass_of_methodNamed Bd.named
  have hnm := (name_of_methodNamed Bd.named Bd.method).1
  have X0 : Stand p l e ({ frames := 0, cells := 0, slots := 0, locals := 0 } : Room) s m #[(.long qa), (.long qb)] below meth c s₁ [] 0 0 := Stand.of_body Bd
  have e0 : s₁.heap = h0 := by rw [← hh, Bd.state]; rfl
  have N0 := Fr.nil n0
  have pre0 : ∀ t, Steps p.tables e below (s₁.setTop (mkF m 0 #[.val (.long qa), .second, .val (.long qb), .second] [])) t → Steps p.tables e below (s₁.setTop (entryFrame m #[(.long qa), (.long qb)] 4)) t := fun t k => castTop (efN m qa qb) k
  have cn1 : ∀ t, Steps p.tables e below (s₁.setTop (mkF m 3 #[.val (.long qa), .second, .val (.long qb), .second] [(.int (XT.cmpL qa qb))])) t → Steps p.tables e below (s₁.setTop (entryFrame m #[(.long qa), (.long qb)] 4)) t := by
    intro t k
    refine pre0 t ?_
    refine o_lloadN X0.here hx (hb hby dN_0) rfl ?_
    refine o_lloadN X0.here hx (hb hby dN_1) rfl ?_
    refine o_lcmp X0.here hx (hb hby dN_2) ?_
    exact k
  by_cases h3_2 : qb < qa
  · -- pc 3 taken
    have cn3 : ∀ t, Steps p.tables e below (s₁.setTop (mkF m 11 #[.val (.long qa), .second, .val (.long qb), .second] [(.long qb)])) t → Steps p.tables e below (s₁.setTop (entryFrame m #[(.long qa), (.long qb)] 4)) t := by
      intro t k
      refine cn1 t ?_
      refine o_ifYes X0.here hx (pc' := 10) (hb hby dN_3) (XT.ll_gt_t h3_2) (by decide) (by decide) ?_
      refine o_lloadN X0.here hx (hb hby dN_10) rfl ?_
      exact k
    obtain ⟨fs, hr, hrun, hended, hW, hsame⟩ := X0.leave (v := some (.long qb)) (fun h => by rw [Bd.returns] at h; cases h)
    refine ⟨_, _, cn3 _ ?_, hrun, hended, _, _, rfl, ?_, ⟨_, rfl⟩, hW, hsame.mono (by decide) (by decide)⟩
    · exact retOut X0 hx Bd.returns rfl (Or.inr (Or.inl ⟨rfl, rfl, _, rfl⟩)) (hb hby dN_11) hr
    · show QN Z qa qb h0 n0 _ s₁.heap _
      rw [e0]
      exact ⟨(by simp [own_min, h3_2]), N0, rfl⟩
  · -- pc 3 not taken
    have cn4 : ∀ t, Steps p.tables e below (s₁.setTop (mkF m 11 #[.val (.long qa), .second, .val (.long qb), .second] [(.long qa)])) t → Steps p.tables e below (s₁.setTop (entryFrame m #[(.long qa), (.long qb)] 4)) t := by
      intro t k
      refine cn1 t ?_
      refine o_ifNo X0.here hx (hb hby dN_3) (XT.ll_gt_f h3_2) ?_
      refine o_lloadN X0.here hx (hb hby dN_6) rfl ?_
      show Steps p.tables e below (s₁.setTop (mkF m 7 #[.val (.long qa), .second, .val (.long qb), .second] [(.long qa)])) _
      refine o_goto X0.here hx (pc' := 11) (hb hby dN_7) (by decide) (by decide) ?_
      exact k
    obtain ⟨fs, hr, hrun, hended, hW, hsame⟩ := X0.leave (v := some (.long qa)) (fun h => by rw [Bd.returns] at h; cases h)
    refine ⟨_, _, cn4 _ ?_, hrun, hended, _, _, rfl, ?_, ⟨_, rfl⟩, hW, hsame.mono (by decide) (by decide)⟩
    · exact retOut X0 hx Bd.returns rfl (Or.inr (Or.inl ⟨rfl, rfl, _, rfl⟩)) (hb hby dN_11) hr
    · show QN Z qa qb h0 n0 _ s₁.heap _
      rw [e0]
      exact ⟨(by simp [own_min, h3_2]), N0, rfl⟩

theorem dX_0 : decode jdk_29_method_66_code 0 = .ok (.lload_n 0, 1) := by decide +kernel
theorem dX_1 : decode jdk_29_method_66_code 1 = .ok (.lload_n 2, 1) := by decide +kernel
theorem dX_2 : decode jdk_29_method_66_code 2 = .ok (.lcmp, 1) := by decide +kernel
theorem dX_3 : decode jdk_29_method_66_code 3 = .ok (.ifCond .lt 7, 3) := by decide +kernel
theorem dX_6 : decode jdk_29_method_66_code 6 = .ok (.lload_n 0, 1) := by decide +kernel
theorem dX_7 : decode jdk_29_method_66_code 7 = .ok (.goto 4, 3) := by decide +kernel
theorem dX_10 : decode jdk_29_method_66_code 10 = .ok (.lload_n 2, 1) := by decide +kernel
theorem dX_11 : decode jdk_29_method_66_code 11 = .ok (.lreturn, 1) := by decide +kernel
theorem efX (m : MethodId) (x0 : Int64) (x1 : Int64) : entryFrame m #[(.long x0), (.long x1)] 4 = (mkF m 0 #[.val (.long x0), .second, .val (.long x1), .second] []) := by first | (simp [entryFrame, mkF, argsToLocals, Value.category]; done) | rfl
def QX (Z : State) (qa : Int64) (qb : Int64) (h0 : Heap) (n0 : Nat) (v : Option Value) (h : Heap) (L : List Loc) : Prop := v = some (.long (own_max qa qb)) ∧ Fr n0 L ∧ h = h0
set_option maxRecDepth 65536 in
set_option maxHeartbeats 40000000 in
theorem rmX (l : Launch) (Z : State) (a0 : Array Value) (hw : ∀ d ∈ tables_1, d.before a0 Z = true) (ws : List Jvm.Cond) (qa : Int64) (qb : Int64) (h0 : Heap) (n0 : Nat) (Z0 : n0 ≤ h0.size) :
    MetFree l (⟨"java/lang/Math", "max", "(JJ)J"⟩ : MethodName) (head1 (Jvm.Cond.code (⟨"java/lang/Math", "max", "(JJ)J"⟩ : MethodName) jdk_29_method_66_code 4 (some .long) :: ws) ({ frames := 0, cells := 0, slots := 0, locals := 0 } : Room)) (fun a U => a = #[(.long qa), (.long qb)] ∧ Z.Warmed39 U.vm ∧ U.heap = h0) (fun _ _ _ _ _ => True) (fun _ U o U' => ∃ v L, o = .returned v ∧ QX Z qa qb h0 n0 v U'.heap L ∧ FrameEnd U o U' L ({ frames := 0, cells := 0, slots := 0, locals := 0 } : Room).cells ({ frames := 0, cells := 0, slots := 0, locals := 0 } : Room).slots) := by
  refine MetFree.of_bodySF (by decide +kernel) hisR ?_
  intro p e s m args below meth c s₁ Bd hml0 hP hK
  obtain ⟨rfl, hZ, hh⟩ := hP
  have hx := Bd.exec
  have hby := Bd.bytes
  have hml : c.maxLocals = 4 := hml0
  have hown : s.vm.findClass "java/lang/Math" = some m.cls := findClass_of_methodNamed Bd.named
  have hnm := (name_of_methodNamed Bd.named Bd.method).1
  have X0 : Stand p l e ({ frames := 0, cells := 0, slots := 0, locals := 0 } : Room) s m #[(.long qa), (.long qb)] below meth c s₁ [] 0 0 := Stand.of_body Bd
  have e0 : s₁.heap = h0 := by rw [← hh, Bd.state]; rfl
  have N0 := Fr.nil n0
  have pre0 : ∀ t, Steps p.tables e below (s₁.setTop (mkF m 0 #[.val (.long qa), .second, .val (.long qb), .second] [])) t → Steps p.tables e below (s₁.setTop (entryFrame m #[(.long qa), (.long qb)] 4)) t := fun t k => castTop (efX m qa qb) k
  have cn1 : ∀ t, Steps p.tables e below (s₁.setTop (mkF m 3 #[.val (.long qa), .second, .val (.long qb), .second] [(.int (XT.cmpL qa qb))])) t → Steps p.tables e below (s₁.setTop (entryFrame m #[(.long qa), (.long qb)] 4)) t := by
    intro t k
    refine pre0 t ?_
    refine o_lloadN X0.here hx (hb hby dX_0) rfl ?_
    refine o_lloadN X0.here hx (hb hby dX_1) rfl ?_
    refine o_lcmp X0.here hx (hb hby dX_2) ?_
    exact k
  by_cases h3_2 : qa < qb
  · -- pc 3 taken
    have cn3 : ∀ t, Steps p.tables e below (s₁.setTop (mkF m 11 #[.val (.long qa), .second, .val (.long qb), .second] [(.long qb)])) t → Steps p.tables e below (s₁.setTop (entryFrame m #[(.long qa), (.long qb)] 4)) t := by
      intro t k
      refine cn1 t ?_
      refine o_ifYes X0.here hx (pc' := 10) (hb hby dX_3) (XT.ll_lt_t h3_2) (by decide) (by decide) ?_
      refine o_lloadN X0.here hx (hb hby dX_10) rfl ?_
      exact k
    obtain ⟨fs, hr, hrun, hended, hW, hsame⟩ := X0.leave (v := some (.long qb)) (fun h => by rw [Bd.returns] at h; cases h)
    refine ⟨_, _, cn3 _ ?_, hrun, hended, _, _, rfl, ?_, ⟨_, rfl⟩, hW, hsame.mono (by decide) (by decide)⟩
    · exact retOut X0 hx Bd.returns rfl (Or.inr (Or.inl ⟨rfl, rfl, _, rfl⟩)) (hb hby dX_11) hr
    · show QX Z qa qb h0 n0 _ s₁.heap _
      rw [e0]
      exact ⟨(by simp [own_max, h3_2]), N0, rfl⟩
  · -- pc 3 not taken
    have cn4 : ∀ t, Steps p.tables e below (s₁.setTop (mkF m 11 #[.val (.long qa), .second, .val (.long qb), .second] [(.long qa)])) t → Steps p.tables e below (s₁.setTop (entryFrame m #[(.long qa), (.long qb)] 4)) t := by
      intro t k
      refine cn1 t ?_
      refine o_ifNo X0.here hx (hb hby dX_3) (XT.ll_lt_f h3_2) ?_
      refine o_lloadN X0.here hx (hb hby dX_6) rfl ?_
      show Steps p.tables e below (s₁.setTop (mkF m 7 #[.val (.long qa), .second, .val (.long qb), .second] [(.long qa)])) _
      refine o_goto X0.here hx (pc' := 11) (hb hby dX_7) (by decide) (by decide) ?_
      exact k
    obtain ⟨fs, hr, hrun, hended, hW, hsame⟩ := X0.leave (v := some (.long qa)) (fun h => by rw [Bd.returns] at h; cases h)
    refine ⟨_, _, cn4 _ ?_, hrun, hended, _, _, rfl, ?_, ⟨_, rfl⟩, hW, hsame.mono (by decide) (by decide)⟩
    · exact retOut X0 hx Bd.returns rfl (Or.inr (Or.inl ⟨rfl, rfl, _, rfl⟩)) (hb hby dX_11) hr
    · show QX Z qa qb h0 n0 _ s₁.heap _
      rw [e0]
      exact ⟨(by simp [own_max, h3_2]), N0, rfl⟩

theorem dR_0 : decode jdk_30_method_1_code 0 = .ok (.aload_n 0, 1) := by decide +kernel
theorem dR_1 : decode jdk_30_method_1_code 1 = .ok (.invokespecial 1, 3) := by decide +kernel
theorem dR_4 : decode jdk_30_method_1_code 4 = .ok (.return_, 1) := by decide +kernel
theorem pn_java_lang_Record : plainName "java/lang/Record" = true := by first | (simp [plainName, overriddenIn]; done) | decide +kernel
theorem efR (m : MethodId) (x0 : Addr) : entryFrame m #[(.ref x0)] 1 = (mkF m 0 #[.val (.ref x0)] []) := by first | (simp [entryFrame, mkF, argsToLocals, Value.category]; done) | rfl
def QR (Z : State) (a1 : Addr) (h0 : Heap) (n0 : Nat) (v : Option Value) (h : Heap) (L : List Loc) : Prop := v = none ∧ Fr n0 L ∧ h = h0
set_option maxRecDepth 65536 in
set_option maxHeartbeats 40000000 in
theorem rmR (l : Launch) (Z : State) (a0 : Array Value) (hw : ∀ d ∈ tables_1, d.before a0 Z = true) (ws : List Jvm.Cond) (a1 : Addr) (h0 : Heap) (n0 : Nat) (Z0 : n0 ≤ h0.size) :
    MetFree l (⟨"java/lang/Record", "<init>", "()V"⟩ : MethodName) (head1 (Jvm.Cond.code (⟨"java/lang/Record", "<init>", "()V"⟩ : MethodName) jdk_30_method_1_code 1 none :: ws) ({ frames := 1, cells := 0, slots := 0, locals := 12 } : Room)) (fun a U => a = #[(.ref a1)] ∧ Z.Warmed39 U.vm ∧ U.heap = h0) (fun _ _ _ _ _ => True) (fun _ U o U' => ∃ v L, o = .returned v ∧ QR Z a1 h0 n0 v U'.heap L ∧ FrameEnd U o U' L ({ frames := 1, cells := 0, slots := 0, locals := 12 } : Room).cells ({ frames := 1, cells := 0, slots := 0, locals := 12 } : Room).slots) := by
  refine MetFree.of_bodySF (plainFor_of_name pn_java_lang_Record) hisR ?_
  intro p e s m args below meth c s₁ Bd hml0 hP hK
  obtain ⟨rfl, hZ, hh⟩ := hP
  have hx := Bd.exec
  have hby := Bd.bytes
  have hml : c.maxLocals = 1 := hml0
  have hown : s.vm.findClass "java/lang/Record" = some m.cls := findClass_of_methodNamed Bd.named
  have hnm := (name_of_methodNamed Bd.named Bd.method).1
  have X0 : Stand p l e ({ frames := 1, cells := 0, slots := 0, locals := 12 } : Room) s m #[(.ref a1)] below meth c s₁ [] 0 0 := Stand.of_body Bd
  have e0 : s₁.heap = h0 := by rw [← hh, Bd.state]; rfl
  have N0 := Fr.nil n0
  have pre0 : ∀ t, Steps p.tables e below (s₁.setTop (mkF m 0 #[.val (.ref a1)] [])) t → Steps p.tables e below (s₁.setTop (entryFrame m #[(.ref a1)] 1)) t := fun t k => castTop (efR m a1) k
  have cn1 : ∀ t, Steps p.tables e below (s₁.setTop (mkF m 1 #[.val (.ref a1)] [(.ref a1)])) t → Steps p.tables e below (s₁.setTop (entryFrame m #[(.ref a1)] 1)) t := by
    intro t k
    refine pre0 t ?_
    refine o_aloadN X0.here hx (hb hby dR_0) rfl rfl ?_
    exact k
  obtain ⟨T2, X2, e2, st2⟩ := initO X0 hx hZ hown (hw _ (List.mem_of_getElem? (i := 26) rfl)) (hw _ (List.mem_of_getElem? (i := 27) rfl)) (hw _ (List.mem_of_getElem? (i := 28) rfl)) e0 (g := (mkF m 1 #[.val (.ref a1)] [(.ref a1)])) rfl (by rw [hml]; rfl) rfl (hb hby dR_1) (by decide) (W := 0) (by show 2 * 0 + _ ≤ _; exact Nat.le_of_eq rfl) (by decide)
  have cn3 : ∀ t, Steps p.tables e below (T2.setTop (mkF m 4 #[.val (.ref a1)] [])) t → Steps p.tables e below (s₁.setTop (entryFrame m #[(.ref a1)] 1)) t := fun t k => cn1 t (st2 _ k)
  obtain ⟨fs, hr, hrun, hended, hW, hsame⟩ := X2.leave (v := none) (fun _ => rfl)
  refine ⟨_, _, cn3 _ ?_, hrun, hended, _, _, rfl, ?_, ⟨_, rfl⟩, hW, hsame.mono (by decide) (by decide)⟩
  · exact X2.returnOut hx Bd.returns (hb hby dR_4) hr
  · show QR Z a1 h0 n0 _ T2.heap _
    rw [e2]
    exact ⟨rfl, N0, rfl⟩

theorem dC_0 : decode prog_30_method_1_code 0 = .ok (.aload_n 0, 1) := by decide +kernel
theorem dC_1 : decode prog_30_method_1_code 1 = .ok (.invokespecial 1, 3) := by decide +kernel
theorem dC_4 : decode prog_30_method_1_code 4 = .ok (.dload_n 2, 1) := by decide +kernel
theorem dC_5 : decode prog_30_method_1_code 5 = .ok (.invokestatic 7, 3) := by decide +kernel
theorem dC_8 : decode prog_30_method_1_code 8 = .ok (.ifCond .eq 18, 3) := by decide +kernel
theorem dC_11 : decode prog_30_method_1_code 11 = .ok (.dload 4, 2) := by decide +kernel
theorem dC_13 : decode prog_30_method_1_code 13 = .ok (.invokestatic 7, 3) := by decide +kernel
theorem dC_16 : decode prog_30_method_1_code 16 = .ok (.ifCond .eq 10, 3) := by decide +kernel
theorem dC_19 : decode prog_30_method_1_code 19 = .ok (.dload_n 2, 1) := by decide +kernel
theorem dC_20 : decode prog_30_method_1_code 20 = .ok (.dload 4, 2) := by decide +kernel
theorem dC_22 : decode prog_30_method_1_code 22 = .ok (.dcmp .g, 1) := by decide +kernel
theorem dC_23 : decode prog_30_method_1_code 23 = .ok (.ifCond .le 19, 3) := by decide +kernel
theorem dC_42 : decode prog_30_method_1_code 42 = .ok (.dload_n 2, 1) := by decide +kernel
theorem dC_43 : decode prog_30_method_1_code 43 = .ok (.dconst 0, 1) := by decide +kernel
theorem dC_44 : decode prog_30_method_1_code 44 = .ok (.dadd, 1) := by decide +kernel
theorem dC_45 : decode prog_30_method_1_code 45 = .ok (.dstore_n 2, 1) := by decide +kernel
theorem dC_46 : decode prog_30_method_1_code 46 = .ok (.dload 4, 2) := by decide +kernel
theorem dC_48 : decode prog_30_method_1_code 48 = .ok (.dconst 0, 1) := by decide +kernel
theorem dC_49 : decode prog_30_method_1_code 49 = .ok (.dadd, 1) := by decide +kernel
theorem dC_50 : decode prog_30_method_1_code 50 = .ok (.dstore 4, 2) := by decide +kernel
theorem dC_52 : decode prog_30_method_1_code 52 = .ok (.aload_n 0, 1) := by decide +kernel
theorem dC_53 : decode prog_30_method_1_code 53 = .ok (.aload_n 1, 1) := by decide +kernel
theorem dC_54 : decode prog_30_method_1_code 54 = .ok (.putfield 22, 3) := by decide +kernel
theorem dC_57 : decode prog_30_method_1_code 57 = .ok (.aload_n 0, 1) := by decide +kernel
theorem dC_58 : decode prog_30_method_1_code 58 = .ok (.dload_n 2, 1) := by decide +kernel
theorem dC_59 : decode prog_30_method_1_code 59 = .ok (.putfield 28, 3) := by decide +kernel
theorem dC_62 : decode prog_30_method_1_code 62 = .ok (.aload_n 0, 1) := by decide +kernel
theorem dC_63 : decode prog_30_method_1_code 63 = .ok (.dload 4, 2) := by decide +kernel
theorem dC_65 : decode prog_30_method_1_code 65 = .ok (.putfield 32, 3) := by decide +kernel
theorem dC_68 : decode prog_30_method_1_code 68 = .ok (.return_, 1) := by decide +kernel
theorem pd_ocV : parseMethodDescriptor "()V" = some ⟨[], none⟩ := by decide +kernel
theorem pd_oDcZ : parseMethodDescriptor "(D)Z" = some ⟨[.double], some .boolean⟩ := by decide +kernel
theorem pn_com_example_diotima_diotima_kb_Feature : plainName "com/example/diotima/diotima/kb/Feature" = true := by first | (simp [plainName, overriddenIn]; done) | decide +kernel
theorem efC (m : MethodId) (x0 : Addr) (x1 : Addr) (x2 : UInt64) (x3 : UInt64) : entryFrame m #[(.ref x0), (.ref x1), (.double x2), (.double x3)] 6 = (mkF m 0 #[.val (.ref x0), .val (.ref x1), .val (.double x2), .second, .val (.double x3), .second] []) := by first | (simp [entryFrame, mkF, argsToLocals, Value.category]; done) | rfl
def QC (Z : State) (a1 : Addr) (b1 : Addr) (w1 : Int64) (w2 : Int64) (h0 : Heap) (n0 : Nat) (v : Option Value) (h : Heap) (L : List Loc) : Prop := v = none ∧ Fr n0 L ∧ Keep h0 h [a1] ∧ Exa Z h a1 "com/example/diotima/diotima/kb/Feature" ∧ Fld Z h a1 "com/example/diotima/diotima/kb/Feature" "low" "D" (.double (FP.l2d w1)) ∧ Fld Z h a1 "com/example/diotima/diotima/kb/Feature" "high" "D" (.double (FP.l2d w2))
set_option maxRecDepth 65536 in
set_option maxHeartbeats 40000000 in
theorem rmC (l : Launch) (Z : State) (a0 : Array Value) (hw : ∀ d ∈ tables_1, d.before a0 Z = true) (ws : List Jvm.Cond) (a1 : Addr) (b1 : Addr) (w1 : Int64) (w2 : Int64) (h0 : Heap) (n0 : Nat) (Z0 : n0 ≤ h0.size) (pr0 : Exa Z h0 a1 "com/example/diotima/diotima/kb/Feature") (H1 : n0 ≤ a1) (pr2 : Fld Z h0 a1 "com/example/diotima/diotima/kb/Feature" "name" "Ljava/lang/String;" .null) (pr3 : Fld Z h0 a1 "com/example/diotima/diotima/kb/Feature" "low" "D" (.double (0 : UInt64))) (pr4 : Fld Z h0 a1 "com/example/diotima/diotima/kb/Feature" "high" "D" (.double (0 : UInt64))) (H5 : OBd 9000000000000000 w1) (H6 : OBd 9000000000000000 w2) (H7 : ¬ w2 < w1) :
    MetFree l (⟨"com/example/diotima/diotima/kb/Feature", "<init>", "(Ljava/lang/String;DD)V"⟩ : MethodName) (head1 (Jvm.Cond.code (⟨"com/example/diotima/diotima/kb/Feature", "<init>", "(Ljava/lang/String;DD)V"⟩ : MethodName) prog_30_method_1_code 6 none :: ws) ({ frames := 3, cells := 0, slots := 0, locals := 48 } : Room)) (fun a U => a = #[(.ref a1), (.ref b1), (.double (FP.l2d w1)), (.double (FP.l2d w2))] ∧ Z.Warmed39 U.vm ∧ U.heap = h0) (fun _ _ _ _ _ => True) (fun _ U o U' => ∃ v L, o = .returned v ∧ QC Z a1 b1 w1 w2 h0 n0 v U'.heap L ∧ FrameEnd U o U' L ({ frames := 3, cells := 0, slots := 0, locals := 48 } : Room).cells ({ frames := 3, cells := 0, slots := 0, locals := 48 } : Room).slots) := by
  refine MetFree.of_bodySF (plainFor_of_name pn_com_example_diotima_diotima_kb_Feature) hisR ?_
  intro p e s m args below meth c s₁ Bd hml0 hP hK
  obtain ⟨rfl, hZ, hh⟩ := hP
  have hx := Bd.exec
  have hby := Bd.bytes
  have hml : c.maxLocals = 6 := hml0
  have hown : s.vm.findClass "com/example/diotima/diotima/kb/Feature" = some m.cls := findClass_of_methodNamed Bd.named
  have hnm := (name_of_methodNamed Bd.named Bd.method).1
  have X0 : Stand p l e ({ frames := 3, cells := 0, slots := 0, locals := 48 } : Room) s m #[(.ref a1), (.ref b1), (.double (FP.l2d w1)), (.double (FP.l2d w2))] below meth c s₁ [] 0 0 := Stand.of_body Bd
  have e0 : s₁.heap = h0 := by rw [← hh, Bd.state]; rfl
  have N0 := Fr.nil n0
  have pre0 : ∀ t, Steps p.tables e below (s₁.setTop (mkF m 0 #[.val (.ref a1), .val (.ref b1), .val (.double (FP.l2d w1)), .second, .val (.double (FP.l2d w2)), .second] [])) t → Steps p.tables e below (s₁.setTop (entryFrame m #[(.ref a1), (.ref b1), (.double (FP.l2d w1)), (.double (FP.l2d w2))] 6)) t := fun t k => castTop (efC m a1 b1 (FP.l2d w1) (FP.l2d w2)) k
  have cn1 : ∀ t, Steps p.tables e below (s₁.setTop (mkF m 1 #[.val (.ref a1), .val (.ref b1), .val (.double (FP.l2d w1)), .second, .val (.double (FP.l2d w2)), .second] [(.ref a1)])) t → Steps p.tables e below (s₁.setTop (entryFrame m #[(.ref a1), (.ref b1), (.double (FP.l2d w1)), (.double (FP.l2d w2))] 6)) t := by
    intro t k
    refine pre0 t ?_
    refine o_aloadN X0.here hx (hb hby dC_0) rfl rfl ?_
    exact k
  obtain ⟨_, _, ⟨T2, L2, c2, n2⟩, -, X2, ⟨Lc2, hQ2, l2, y2, z2⟩, st2⟩ := X0.specialBack hx (y := (⟨"java/lang/Record", "<init>", "()V"⟩ : MethodName)) rfl hown (mvT hZ (hw _ (List.mem_of_getElem? (i := 21) rfl))) (mvT hZ (hw _ (List.mem_of_getElem? (i := 22) rfl))) (mvT hZ (hw _ (List.mem_of_getElem? (i := 25) rfl))) (by decide) (backOf (W := 0) (rmR l Z a0 hw [] a1 h0 n0 Z0) hZ (hw _ (List.mem_of_getElem? (i := 25) rfl)) (hw _ (List.mem_of_getElem? (i := 24) rfl)) (by decide) (by decide)) (g := (mkF m 1 #[.val (.ref a1), .val (.ref b1), .val (.double (FP.l2d w1)), .second, .val (.double (FP.l2d w2)), .second] [(.ref a1)])) rfl (by rw [hml]; rfl) (Steps.refl _) (a := a1) (argsL := []) (rest := []) (lenOf pd_ocV rfl) rfl (by show 2 * 0 + _ ≤ _; exact Nat.le_of_eq rfl) (hb hby dC_1) (fun _ _ => ⟨rfl, e0, (by decide : 0 + 0 ≤ _), (by decide : 0 + 0 ≤ _)⟩)
  dsimp only [Pt.U, Pt.locs, Pt.cells, Pt.slots] at X2 l2 y2 z2 st2 hQ2
  subst l2 y2 z2
  obtain ⟨rfl, N2a, eh2⟩ := hQ2
  have N2 := Fr.app N0 N2a
  have e2 : T2.heap = h0 := eh2
  have cn3 : ∀ t, Steps p.tables e below (T2.setTop (mkF m 4 #[.val (.ref a1), .val (.ref b1), .val (.double (FP.l2d w1)), .second, .val (.double (FP.l2d w2)), .second] [])) t → Steps p.tables e below (s₁.setTop (entryFrame m #[(.ref a1), (.ref b1), (.double (FP.l2d w1)), (.double (FP.l2d w2))] 6)) t := fun t k => cn1 t (st2.trans k)
  have cn4 : ∀ t, Steps p.tables e below (T2.setTop (mkF m 5 #[.val (.ref a1), .val (.ref b1), .val (.double (FP.l2d w1)), .second, .val (.double (FP.l2d w2)), .second] [(.double (FP.l2d w1))])) t → Steps p.tables e below (s₁.setTop (entryFrame m #[(.ref a1), (.ref b1), (.double (FP.l2d w1)), (.double (FP.l2d w2))] 6)) t := by
    intro t k
    refine cn3 t ?_
    refine o_dloadN X2.here hx (hb hby dC_4) rfl ?_
    exact k
  have ht5 : Jvm.Free.Fl.IsFinite.tab.before #[(.ref a1), (.ref b1), (.double (FP.l2d w1)), (.double (FP.l2d w2))] s = true := by
    simp only [Jvm.Free.Fl.IsFinite.tab, Cond.before_and, Bool.and_eq_true]
    exact ⟨mvT hZ (hw _ (List.mem_of_getElem? (i := 32) rfl)), mvT hZ (hw _ (List.mem_of_getElem? (i := 33) rfl)), mvT hZ (hw _ (List.mem_of_getElem? (i := 34) rfl)), mvT hZ (hw _ (List.mem_of_getElem? (i := 2) rfl)), mvT hZ (hw _ (List.mem_of_getElem? (i := 35) rfl)), mvT hZ (hw _ (List.mem_of_getElem? (i := 36) rfl))⟩
  obtain ⟨_, _, ⟨T5, L5, c5, n5⟩, -, X5, ⟨⟨eh5, l5, y5, z5⟩, hv5⟩, st5⟩ := Jvm.LawKit.callS X2 hx (y := (⟨"java/lang/Double", "isFinite", "(D)Z"⟩ : MethodName)) hown (mvT hZ (hw _ (List.mem_of_getElem? (i := 29) rfl))) (mvT hZ (hw _ (List.mem_of_getElem? (i := 30) rfl))) (mvT hZ (hw _ (List.mem_of_getElem? (i := 31) rfl))) (mvT hZ (hw _ (List.mem_of_getElem? (i := 32) rfl))) (by decide) (Jvm.Free.Fl.IsFinite.pays (W := 0) (by decide) (by decide) ht5 (mvT hZ (hw _ (List.mem_of_getElem? (i := 31) rfl)))) (g := (mkF m 5 #[.val (.ref a1), .val (.ref b1), .val (.double (FP.l2d w1)), .second, .val (.double (FP.l2d w2)), .second] [(.double (FP.l2d w1))])) rfl (by rw [hml]; rfl) (argsL := [(.double (FP.l2d w1))]) (rest := []) (lenOf pd_oDcZ rfl) rfl (by show 2 * 0 + _ ≤ _; exact Nat.le_of_eq rfl) (hb hby dC_5) (fun _ _ => ⟨(by decide : 0 ≤ _), (by decide : 0 ≤ _), FP.l2d w1, rfl, (nn_w rfl)⟩)
  dsimp only [Pt.U, Pt.locs, Pt.cells, Pt.slots] at X5 eh5 l5 y5 z5 st5 hv5
  subst l5 y5 z5
  have hv5 := hv5 _ ⟨rfl, nn_w rfl⟩
  rw [if_pos ((Jvm.Free.Fl.le_max_iff (nn_w rfl)).mpr (Jvm.Free.Fl.l2d_fin _))] at hv5
  subst hv5
  have e5 : T5.heap = h0 := eh5.trans e2
  have cn6 : ∀ t, Steps p.tables e below (T5.setTop (mkF m 8 #[.val (.ref a1), .val (.ref b1), .val (.double (FP.l2d w1)), .second, .val (.double (FP.l2d w2)), .second] [(.int (1 : Int32))])) t → Steps p.tables e below (s₁.setTop (entryFrame m #[(.ref a1), (.ref b1), (.double (FP.l2d w1)), (.double (FP.l2d w2))] 6)) t := fun t k => cn4 t (st5 _ k)
  have cn7 : ∀ t, Steps p.tables e below (T5.setTop (mkF m 13 #[.val (.ref a1), .val (.ref b1), .val (.double (FP.l2d w1)), .second, .val (.double (FP.l2d w2)), .second] [(.double (FP.l2d w2))])) t → Steps p.tables e below (s₁.setTop (entryFrame m #[(.ref a1), (.ref b1), (.double (FP.l2d w1)), (.double (FP.l2d w2))] 6)) t := by
    intro t k
    refine cn6 t ?_
    refine o_ifNo X5.here hx (hb hby dC_8) (by decide) ?_
    refine o_dload X5.here hx (hb hby dC_11) rfl ?_
    exact k
  have ht8 : Jvm.Free.Fl.IsFinite.tab.before #[(.ref a1), (.ref b1), (.double (FP.l2d w1)), (.double (FP.l2d w2))] s = true := by
    simp only [Jvm.Free.Fl.IsFinite.tab, Cond.before_and, Bool.and_eq_true]
    exact ⟨mvT hZ (hw _ (List.mem_of_getElem? (i := 32) rfl)), mvT hZ (hw _ (List.mem_of_getElem? (i := 33) rfl)), mvT hZ (hw _ (List.mem_of_getElem? (i := 34) rfl)), mvT hZ (hw _ (List.mem_of_getElem? (i := 2) rfl)), mvT hZ (hw _ (List.mem_of_getElem? (i := 35) rfl)), mvT hZ (hw _ (List.mem_of_getElem? (i := 36) rfl))⟩
  obtain ⟨_, _, ⟨T8, L8, c8, n8⟩, -, X8, ⟨⟨eh8, l8, y8, z8⟩, hv8⟩, st8⟩ := Jvm.LawKit.callS X5 hx (y := (⟨"java/lang/Double", "isFinite", "(D)Z"⟩ : MethodName)) hown (mvT hZ (hw _ (List.mem_of_getElem? (i := 29) rfl))) (mvT hZ (hw _ (List.mem_of_getElem? (i := 30) rfl))) (mvT hZ (hw _ (List.mem_of_getElem? (i := 31) rfl))) (mvT hZ (hw _ (List.mem_of_getElem? (i := 32) rfl))) (by decide) (Jvm.Free.Fl.IsFinite.pays (W := 0) (by decide) (by decide) ht8 (mvT hZ (hw _ (List.mem_of_getElem? (i := 31) rfl)))) (g := (mkF m 13 #[.val (.ref a1), .val (.ref b1), .val (.double (FP.l2d w1)), .second, .val (.double (FP.l2d w2)), .second] [(.double (FP.l2d w2))])) rfl (by rw [hml]; rfl) (argsL := [(.double (FP.l2d w2))]) (rest := []) (lenOf pd_oDcZ rfl) rfl (by show 2 * 0 + _ ≤ _; exact Nat.le_of_eq rfl) (hb hby dC_13) (fun _ _ => ⟨(by decide : 0 ≤ _), (by decide : 0 ≤ _), FP.l2d w2, rfl, (nn_w rfl)⟩)
  dsimp only [Pt.U, Pt.locs, Pt.cells, Pt.slots] at X8 eh8 l8 y8 z8 st8 hv8
  subst l8 y8 z8
  have hv8 := hv8 _ ⟨rfl, nn_w rfl⟩
  rw [if_pos ((Jvm.Free.Fl.le_max_iff (nn_w rfl)).mpr (Jvm.Free.Fl.l2d_fin _))] at hv8
  subst hv8
  have e8 : T8.heap = h0 := eh8.trans e5
  have cn9 : ∀ t, Steps p.tables e below (T8.setTop (mkF m 16 #[.val (.ref a1), .val (.ref b1), .val (.double (FP.l2d w1)), .second, .val (.double (FP.l2d w2)), .second] [(.int (1 : Int32))])) t → Steps p.tables e below (s₁.setTop (entryFrame m #[(.ref a1), (.ref b1), (.double (FP.l2d w1)), (.double (FP.l2d w2))] 6)) t := fun t k => cn7 t (st8 _ k)
  have cn10 : ∀ t, Steps p.tables e below (T8.setTop (mkF m 54 #[.val (.ref a1), .val (.ref b1), .val (.double (FP.l2d w1)), .second, .val (.double (FP.l2d w2)), .second] [(.ref b1), (.ref a1)])) t → Steps p.tables e below (s₁.setTop (entryFrame m #[(.ref a1), (.ref b1), (.double (FP.l2d w1)), (.double (FP.l2d w2))] 6)) t := by
    intro t k
    refine cn9 t ?_
    refine o_ifNo X8.here hx (hb hby dC_16) (by decide) ?_
    refine o_dloadN X8.here hx (hb hby dC_19) rfl ?_
    refine o_dload X8.here hx (hb hby dC_20) rfl ?_
    refine o_dcmpS X8.here hx (hb hby dC_22) (v := XT.cmpL w1 w2) (dcmpV_w (own_bd_b53 H5 (by decide)) (own_bd_b53 H6 (by decide)) _) ?_
    show Steps p.tables e below (T8.setTop (mkF m 23 #[.val (.ref a1), .val (.ref b1), .val (.double (FP.l2d w1)), .second, .val (.double (FP.l2d w2)), .second] [(.int (XT.cmpL w1 w2))])) _
    refine o_ifYes X8.here hx (pc' := 42) (hb hby dC_23) (XT.ll_le_t H7) (by decide) (by decide) ?_
    refine o_dloadN X8.here hx (hb hby dC_42) rfl ?_
    refine o_dconst0 X8.here hx (hb hby dC_43) (v := FP.l2d (0 : Int64)) own_dconst0 ?_
    refine o_daddS X8.here hx (hb hby dC_44) (nn_w (own_dadd0 (own_bd_b53 H5 (by decide)))) (v := FP.l2d w1) (own_dadd0 (own_bd_b53 H5 (by decide))) ?_
    refine o_dstoreN X8.here hx (hb hby dC_45) (l' := #[.val (.ref a1), .val (.ref b1), .val (.double (FP.l2d w1)), .second, .val (.double (FP.l2d w2)), .second]) rfl ?_
    refine o_dload X8.here hx (hb hby dC_46) rfl ?_
    refine o_dconst0 X8.here hx (hb hby dC_48) (v := FP.l2d (0 : Int64)) own_dconst0 ?_
    refine o_daddS X8.here hx (hb hby dC_49) (nn_w (own_dadd0 (own_bd_b53 H6 (by decide)))) (v := FP.l2d w2) (own_dadd0 (own_bd_b53 H6 (by decide))) ?_
    refine o_dstore X8.here hx (hb hby dC_50) (l' := #[.val (.ref a1), .val (.ref b1), .val (.double (FP.l2d w1)), .second, .val (.double (FP.l2d w2)), .second]) rfl ?_
    refine o_aloadN X8.here hx (hb hby dC_52) rfl rfl ?_
    refine o_aloadN X8.here hx (hb hby dC_53) rfl rfl ?_
    exact k
  obtain ⟨T11, h11, X11, e11, W11, st11⟩ := putF X8 hx hZ hown (host := "") (Or.inl (hw _ (List.mem_of_getElem? (i := 37) rfl))) Via.refl e8 pr2 pr0 (Or.inr ⟨(hw _ (List.mem_of_getElem? (i := 38) rfl)), rfl, hnm⟩) (hw _ (List.mem_of_getElem? (i := 8) rfl)) (ty := (.object "java/lang/String")) (by decide) rfl rfl (g := (mkF m 54 #[.val (.ref a1), .val (.ref b1), .val (.double (FP.l2d w1)), .second, .val (.double (FP.l2d w2)), .second] [(.ref b1), (.ref a1)])) rfl rfl (hb hby dC_54)
  have N11 := Fr.snoc X11 N2 H1
  have P11 : Keep h0 h11 [a1] := ((Keep.refl h0 [a1]).wr W11 (Or.inl (List.mem_of_getElem? (i := 0) rfl)))
  have Z11 : n0 ≤ h11.size := (by rw [W11.size]; exact Z0)
  have E12 : Exa Z h11 a1 "com/example/diotima/diotima/kb/Feature" := (Exa.wr W11 pr0)
  have F13 : Fld Z h11 a1 "com/example/diotima/diotima/kb/Feature" "name" "Ljava/lang/String;" (.ref b1) := (Fld.same W11 pr2)
  have F14 : Fld Z h11 a1 "com/example/diotima/diotima/kb/Feature" "low" "D" (.double (0 : UInt64)) := (Fld.other W11 pr3 (Or.inr (slot_ne (C := "com/example/diotima/diotima/kb/Feature") (Or.inr (hw _ (List.mem_of_getElem? (i := 40) rfl))) (Or.inr (hw _ (List.mem_of_getElem? (i := 38) rfl))) (by decide) (t := .double) (t' := (.object "java/lang/String")) (by decide) (by decide))))
  have F15 : Fld Z h11 a1 "com/example/diotima/diotima/kb/Feature" "high" "D" (.double (0 : UInt64)) := (Fld.other W11 pr4 (Or.inr (slot_ne (C := "com/example/diotima/diotima/kb/Feature") (Or.inr (hw _ (List.mem_of_getElem? (i := 42) rfl))) (Or.inr (hw _ (List.mem_of_getElem? (i := 38) rfl))) (by decide) (t := .double) (t' := (.object "java/lang/String")) (by decide) (by decide))))
  have cn16 : ∀ t, Steps p.tables e below (T11.setTop (mkF m 57 #[.val (.ref a1), .val (.ref b1), .val (.double (FP.l2d w1)), .second, .val (.double (FP.l2d w2)), .second] [])) t → Steps p.tables e below (s₁.setTop (entryFrame m #[(.ref a1), (.ref b1), (.double (FP.l2d w1)), (.double (FP.l2d w2))] 6)) t := fun t k => cn10 t (st11 _ k)
  have cn17 : ∀ t, Steps p.tables e below (T11.setTop (mkF m 59 #[.val (.ref a1), .val (.ref b1), .val (.double (FP.l2d w1)), .second, .val (.double (FP.l2d w2)), .second] [(.double (FP.l2d w1)), (.ref a1)])) t → Steps p.tables e below (s₁.setTop (entryFrame m #[(.ref a1), (.ref b1), (.double (FP.l2d w1)), (.double (FP.l2d w2))] 6)) t := by
    intro t k
    refine cn16 t ?_
    refine o_aloadN X11.here hx (hb hby dC_57) rfl rfl ?_
    refine o_dloadN X11.here hx (hb hby dC_58) rfl ?_
    exact k
  obtain ⟨T18, h18, X18, e18, W18, st18⟩ := putF X11 hx hZ hown (host := "") (Or.inl (hw _ (List.mem_of_getElem? (i := 39) rfl))) Via.refl e11 F14 E12 (Or.inr ⟨(hw _ (List.mem_of_getElem? (i := 40) rfl)), rfl, hnm⟩) (hw _ (List.mem_of_getElem? (i := 8) rfl)) (ty := .double) (by decide) rfl rfl (g := (mkF m 59 #[.val (.ref a1), .val (.ref b1), .val (.double (FP.l2d w1)), .second, .val (.double (FP.l2d w2)), .second] [(.double (FP.l2d w1)), (.ref a1)])) rfl rfl (hb hby dC_59)
  have N18 := Fr.snoc X18 N11 H1
  have P18 : Keep h0 h18 [a1] := (P11.wr W18 (Or.inl (List.mem_of_getElem? (i := 0) rfl)))
  have Z18 : n0 ≤ h18.size := (by rw [W18.size]; exact Z11)
  have E19 : Exa Z h18 a1 "com/example/diotima/diotima/kb/Feature" := (Exa.wr W18 E12)
  have F20 : Fld Z h18 a1 "com/example/diotima/diotima/kb/Feature" "name" "Ljava/lang/String;" (.ref b1) := (Fld.other W18 F13 (Or.inr (slot_ne (C := "com/example/diotima/diotima/kb/Feature") (Or.inr (hw _ (List.mem_of_getElem? (i := 38) rfl))) (Or.inr (hw _ (List.mem_of_getElem? (i := 40) rfl))) (by decide) (t := (.object "java/lang/String")) (t' := .double) (by decide) (by decide))))
  have F21 : Fld Z h18 a1 "com/example/diotima/diotima/kb/Feature" "low" "D" (.double (FP.l2d w1)) := (Fld.same W18 F14)
  have F22 : Fld Z h18 a1 "com/example/diotima/diotima/kb/Feature" "high" "D" (.double (0 : UInt64)) := (Fld.other W18 F15 (Or.inr (slot_ne (C := "com/example/diotima/diotima/kb/Feature") (Or.inr (hw _ (List.mem_of_getElem? (i := 42) rfl))) (Or.inr (hw _ (List.mem_of_getElem? (i := 40) rfl))) (by decide) (t := .double) (t' := .double) (by decide) (by decide))))
  have cn23 : ∀ t, Steps p.tables e below (T18.setTop (mkF m 62 #[.val (.ref a1), .val (.ref b1), .val (.double (FP.l2d w1)), .second, .val (.double (FP.l2d w2)), .second] [])) t → Steps p.tables e below (s₁.setTop (entryFrame m #[(.ref a1), (.ref b1), (.double (FP.l2d w1)), (.double (FP.l2d w2))] 6)) t := fun t k => cn17 t (st18 _ k)
  have cn24 : ∀ t, Steps p.tables e below (T18.setTop (mkF m 65 #[.val (.ref a1), .val (.ref b1), .val (.double (FP.l2d w1)), .second, .val (.double (FP.l2d w2)), .second] [(.double (FP.l2d w2)), (.ref a1)])) t → Steps p.tables e below (s₁.setTop (entryFrame m #[(.ref a1), (.ref b1), (.double (FP.l2d w1)), (.double (FP.l2d w2))] 6)) t := by
    intro t k
    refine cn23 t ?_
    refine o_aloadN X18.here hx (hb hby dC_62) rfl rfl ?_
    refine o_dload X18.here hx (hb hby dC_63) rfl ?_
    exact k
  obtain ⟨T25, h25, X25, e25, W25, st25⟩ := putF X18 hx hZ hown (host := "") (Or.inl (hw _ (List.mem_of_getElem? (i := 41) rfl))) Via.refl e18 F22 E19 (Or.inr ⟨(hw _ (List.mem_of_getElem? (i := 42) rfl)), rfl, hnm⟩) (hw _ (List.mem_of_getElem? (i := 8) rfl)) (ty := .double) (by decide) rfl rfl (g := (mkF m 65 #[.val (.ref a1), .val (.ref b1), .val (.double (FP.l2d w1)), .second, .val (.double (FP.l2d w2)), .second] [(.double (FP.l2d w2)), (.ref a1)])) rfl rfl (hb hby dC_65)
  have N25 := Fr.snoc X25 N18 H1
  have P25 : Keep h0 h25 [a1] := (P18.wr W25 (Or.inl (List.mem_of_getElem? (i := 0) rfl)))
  have Z25 : n0 ≤ h25.size := (by rw [W25.size]; exact Z18)
  have E26 : Exa Z h25 a1 "com/example/diotima/diotima/kb/Feature" := (Exa.wr W25 E19)
  have F27 : Fld Z h25 a1 "com/example/diotima/diotima/kb/Feature" "name" "Ljava/lang/String;" (.ref b1) := (Fld.other W25 F20 (Or.inr (slot_ne (C := "com/example/diotima/diotima/kb/Feature") (Or.inr (hw _ (List.mem_of_getElem? (i := 38) rfl))) (Or.inr (hw _ (List.mem_of_getElem? (i := 42) rfl))) (by decide) (t := (.object "java/lang/String")) (t' := .double) (by decide) (by decide))))
  have F28 : Fld Z h25 a1 "com/example/diotima/diotima/kb/Feature" "low" "D" (.double (FP.l2d w1)) := (Fld.other W25 F21 (Or.inr (slot_ne (C := "com/example/diotima/diotima/kb/Feature") (Or.inr (hw _ (List.mem_of_getElem? (i := 40) rfl))) (Or.inr (hw _ (List.mem_of_getElem? (i := 42) rfl))) (by decide) (t := .double) (t' := .double) (by decide) (by decide))))
  have F29 : Fld Z h25 a1 "com/example/diotima/diotima/kb/Feature" "high" "D" (.double (FP.l2d w2)) := (Fld.same W25 F22)
  have cn30 : ∀ t, Steps p.tables e below (T25.setTop (mkF m 68 #[.val (.ref a1), .val (.ref b1), .val (.double (FP.l2d w1)), .second, .val (.double (FP.l2d w2)), .second] [])) t → Steps p.tables e below (s₁.setTop (entryFrame m #[(.ref a1), (.ref b1), (.double (FP.l2d w1)), (.double (FP.l2d w2))] 6)) t := fun t k => cn24 t (st25 _ k)
  obtain ⟨fs, hr, hrun, hended, hW, hsame⟩ := X25.leave (v := none) (fun _ => rfl)
  refine ⟨_, _, cn30 _ ?_, hrun, hended, _, _, rfl, ?_, ⟨_, rfl⟩, hW, hsame.mono (by decide) (by decide)⟩
  · exact X25.returnOut hx Bd.returns (hb hby dC_68) hr
  · show QC Z a1 b1 w1 w2 h0 n0 _ T25.heap _
    rw [e25]
    exact ⟨rfl, N25, P25, E26, F28, F29⟩

theorem dH_0 : decode prog_30_method_2_code 0 = .ok (.aload_n 0, 1) := by decide +kernel
theorem dH_1 : decode prog_30_method_2_code 1 = .ok (.getfield 28, 3) := by decide +kernel
theorem dH_4 : decode prog_30_method_2_code 4 = .ok (.dload_n 1, 1) := by decide +kernel
theorem dH_5 : decode prog_30_method_2_code 5 = .ok (.dcmp .g, 1) := by decide +kernel
theorem dH_6 : decode prog_30_method_2_code 6 = .ok (.ifCond .gt 16, 3) := by decide +kernel
theorem dH_9 : decode prog_30_method_2_code 9 = .ok (.dload_n 1, 1) := by decide +kernel
theorem dH_10 : decode prog_30_method_2_code 10 = .ok (.aload_n 0, 1) := by decide +kernel
theorem dH_11 : decode prog_30_method_2_code 11 = .ok (.getfield 32, 3) := by decide +kernel
theorem dH_14 : decode prog_30_method_2_code 14 = .ok (.dcmp .g, 1) := by decide +kernel
theorem dH_15 : decode prog_30_method_2_code 15 = .ok (.ifCond .gt 7, 3) := by decide +kernel
theorem dH_18 : decode prog_30_method_2_code 18 = .ok (.iconst 1, 1) := by decide +kernel
theorem dH_19 : decode prog_30_method_2_code 19 = .ok (.goto 4, 3) := by decide +kernel
theorem dH_22 : decode prog_30_method_2_code 22 = .ok (.iconst 0, 1) := by decide +kernel
theorem dH_23 : decode prog_30_method_2_code 23 = .ok (.ireturn, 1) := by decide +kernel
theorem efH (m : MethodId) (x0 : Addr) (x1 : UInt64) : entryFrame m #[(.ref x0), (.double x1)] 3 = (mkF m 0 #[.val (.ref x0), .val (.double x1), .second] []) := by first | (simp [entryFrame, mkF, argsToLocals, Value.category]; done) | rfl
def QH (Z : State) (a1 : Addr) (w1 : Int64) (w2 : Int64) (qx : Int64) (h0 : Heap) (n0 : Nat) (v : Option Value) (h : Heap) (L : List Loc) : Prop := v = some (.int (if ¬ qx < w1 ∧ ¬ w2 < qx then (1 : Int32) else 0)) ∧ Fr n0 L ∧ h = h0
set_option maxRecDepth 65536 in
set_option maxHeartbeats 40000000 in
theorem rmH (l : Launch) (Z : State) (a0 : Array Value) (hw : ∀ d ∈ tables_1, d.before a0 Z = true) (ws : List Jvm.Cond) (a1 : Addr) (w1 : Int64) (w2 : Int64) (qx : Int64) (h0 : Heap) (n0 : Nat) (Z0 : n0 ≤ h0.size) (pr0 : Fld Z h0 a1 "com/example/diotima/diotima/kb/Feature" "low" "D" (.double (FP.l2d w1))) (pr1 : Fld Z h0 a1 "com/example/diotima/diotima/kb/Feature" "high" "D" (.double (FP.l2d w2))) (H2 : OBd 9000000000000000 w1) (H3 : OBd 9000000000000000 w2) (H4 : OBd 9000000000000000 qx) :
    MetFree l (⟨"com/example/diotima/diotima/kb/Feature", "holds", "(D)Z"⟩ : MethodName) (head1 (Jvm.Cond.code (⟨"com/example/diotima/diotima/kb/Feature", "holds", "(D)Z"⟩ : MethodName) prog_30_method_2_code 3 (some .boolean) :: ws) ({ frames := 0, cells := 0, slots := 0, locals := 0 } : Room)) (fun a U => a = #[(.ref a1), (.double (FP.l2d qx))] ∧ Z.Warmed39 U.vm ∧ U.heap = h0) (fun _ _ _ _ _ => True) (fun _ U o U' => ∃ v L, o = .returned v ∧ QH Z a1 w1 w2 qx h0 n0 v U'.heap L ∧ FrameEnd U o U' L ({ frames := 0, cells := 0, slots := 0, locals := 0 } : Room).cells ({ frames := 0, cells := 0, slots := 0, locals := 0 } : Room).slots) := by
  refine MetFree.of_bodySF (plainFor_of_name pn_com_example_diotima_diotima_kb_Feature) hisR ?_
  intro p e s m args below meth c s₁ Bd hml0 hP hK
  obtain ⟨rfl, hZ, hh⟩ := hP
  have hx := Bd.exec
  have hby := Bd.bytes
  have hml : c.maxLocals = 3 := hml0
  have hown : s.vm.findClass "com/example/diotima/diotima/kb/Feature" = some m.cls := findClass_of_methodNamed Bd.named
  have hnm := (name_of_methodNamed Bd.named Bd.method).1
  have X0 : Stand p l e ({ frames := 0, cells := 0, slots := 0, locals := 0 } : Room) s m #[(.ref a1), (.double (FP.l2d qx))] below meth c s₁ [] 0 0 := Stand.of_body Bd
  have e0 : s₁.heap = h0 := by rw [← hh, Bd.state]; rfl
  have N0 := Fr.nil n0
  have pre0 : ∀ t, Steps p.tables e below (s₁.setTop (mkF m 0 #[.val (.ref a1), .val (.double (FP.l2d qx)), .second] [])) t → Steps p.tables e below (s₁.setTop (entryFrame m #[(.ref a1), (.double (FP.l2d qx))] 3)) t := fun t k => castTop (efH m a1 (FP.l2d qx)) k
  have cn1 : ∀ t, Steps p.tables e below (s₁.setTop (mkF m 1 #[.val (.ref a1), .val (.double (FP.l2d qx)), .second] [(.ref a1)])) t → Steps p.tables e below (s₁.setTop (entryFrame m #[(.ref a1), (.double (FP.l2d qx))] 3)) t := by
    intro t k
    refine pre0 t ?_
    refine o_aloadN X0.here hx (hb hby dH_0) rfl rfl ?_
    exact k
  obtain ⟨T2, X2, e2, st2⟩ := getF X0 hx hZ hown (host := "") (Or.inl (hw _ (List.mem_of_getElem? (i := 39) rfl))) Via.refl e0 pr0 (g := (mkF m 1 #[.val (.ref a1), .val (.double (FP.l2d qx)), .second] [(.ref a1)])) rfl rfl (hb hby dH_1)
  have cn3 : ∀ t, Steps p.tables e below (T2.setTop (mkF m 4 #[.val (.ref a1), .val (.double (FP.l2d qx)), .second] [(.double (FP.l2d w1))])) t → Steps p.tables e below (s₁.setTop (entryFrame m #[(.ref a1), (.double (FP.l2d qx))] 3)) t := fun t k => cn1 t (st2 _ k)
  have cn4 : ∀ t, Steps p.tables e below (T2.setTop (mkF m 6 #[.val (.ref a1), .val (.double (FP.l2d qx)), .second] [(.int (XT.cmpL w1 qx))])) t → Steps p.tables e below (s₁.setTop (entryFrame m #[(.ref a1), (.double (FP.l2d qx))] 3)) t := by
    intro t k
    refine cn3 t ?_
    refine o_dloadN X2.here hx (hb hby dH_4) rfl ?_
    refine o_dcmpS X2.here hx (hb hby dH_5) (v := XT.cmpL w1 qx) (dcmpV_w (own_bd_b53 H2 (by decide)) (own_bd_b53 H4 (by decide)) _) ?_
    exact k
  by_cases h6_5 : qx < w1
  · -- pc 6 taken
    have cn6 : ∀ t, Steps p.tables e below (T2.setTop (mkF m 23 #[.val (.ref a1), .val (.double (FP.l2d qx)), .second] [(.int (0 : Int32))])) t → Steps p.tables e below (s₁.setTop (entryFrame m #[(.ref a1), (.double (FP.l2d qx))] 3)) t := by
      intro t k
      refine cn4 t ?_
      refine o_ifYes X2.here hx (pc' := 22) (hb hby dH_6) (XT.ll_gt_t h6_5) (by decide) (by decide) ?_
      refine o_iconstV X2.here hx (0 : Int32) (hb hby dH_22) rfl ?_
      exact k
    obtain ⟨fs, hr, hrun, hended, hW, hsame⟩ := X2.leave (v := some (.int (0 : Int32))) (fun h => by rw [Bd.returns] at h; cases h)
    refine ⟨_, _, cn6 _ ?_, hrun, hended, _, _, rfl, ?_, ⟨_, rfl⟩, hW, hsame.mono (by decide) (by decide)⟩
    · exact retN X2 hx (t := .boolean) Bd.returns (by simp) (hb hby dH_23) hr
    · show QH Z a1 w1 w2 qx h0 n0 _ T2.heap _
      rw [e2]
      exact ⟨(by simp [h6_5]), N0, rfl⟩
  · -- pc 6 not taken
    have cn7 : ∀ t, Steps p.tables e below (T2.setTop (mkF m 11 #[.val (.ref a1), .val (.double (FP.l2d qx)), .second] [(.ref a1), (.double (FP.l2d qx))])) t → Steps p.tables e below (s₁.setTop (entryFrame m #[(.ref a1), (.double (FP.l2d qx))] 3)) t := by
      intro t k
      refine cn4 t ?_
      refine o_ifNo X2.here hx (hb hby dH_6) (XT.ll_gt_f h6_5) ?_
      refine o_dloadN X2.here hx (hb hby dH_9) rfl ?_
      refine o_aloadN X2.here hx (hb hby dH_10) rfl rfl ?_
      exact k
    obtain ⟨T8, X8, e8, st8⟩ := getF X2 hx hZ hown (host := "") (Or.inl (hw _ (List.mem_of_getElem? (i := 41) rfl))) Via.refl e2 pr1 (g := (mkF m 11 #[.val (.ref a1), .val (.double (FP.l2d qx)), .second] [(.ref a1), (.double (FP.l2d qx))])) rfl rfl (hb hby dH_11)
    have cn9 : ∀ t, Steps p.tables e below (T8.setTop (mkF m 14 #[.val (.ref a1), .val (.double (FP.l2d qx)), .second] [(.double (FP.l2d w2)), (.double (FP.l2d qx))])) t → Steps p.tables e below (s₁.setTop (entryFrame m #[(.ref a1), (.double (FP.l2d qx))] 3)) t := fun t k => cn7 t (st8 _ k)
    have cn10 : ∀ t, Steps p.tables e below (T8.setTop (mkF m 15 #[.val (.ref a1), .val (.double (FP.l2d qx)), .second] [(.int (XT.cmpL qx w2))])) t → Steps p.tables e below (s₁.setTop (entryFrame m #[(.ref a1), (.double (FP.l2d qx))] 3)) t := by
      intro t k
      refine cn9 t ?_
      refine o_dcmpS X8.here hx (hb hby dH_14) (v := XT.cmpL qx w2) (dcmpV_w (own_bd_b53 H4 (by decide)) (own_bd_b53 H3 (by decide)) _) ?_
      exact k
    by_cases h15_11 : w2 < qx
    · -- pc 15 taken
      have cn12 : ∀ t, Steps p.tables e below (T8.setTop (mkF m 23 #[.val (.ref a1), .val (.double (FP.l2d qx)), .second] [(.int (0 : Int32))])) t → Steps p.tables e below (s₁.setTop (entryFrame m #[(.ref a1), (.double (FP.l2d qx))] 3)) t := by
        intro t k
        refine cn10 t ?_
        refine o_ifYes X8.here hx (pc' := 22) (hb hby dH_15) (XT.ll_gt_t h15_11) (by decide) (by decide) ?_
        refine o_iconstV X8.here hx (0 : Int32) (hb hby dH_22) rfl ?_
        exact k
      obtain ⟨fs, hr, hrun, hended, hW, hsame⟩ := X8.leave (v := some (.int (0 : Int32))) (fun h => by rw [Bd.returns] at h; cases h)
      refine ⟨_, _, cn12 _ ?_, hrun, hended, _, _, rfl, ?_, ⟨_, rfl⟩, hW, hsame.mono (by decide) (by decide)⟩
      · exact retN X8 hx (t := .boolean) Bd.returns (by simp) (hb hby dH_23) hr
      · show QH Z a1 w1 w2 qx h0 n0 _ T8.heap _
        rw [e8]
        exact ⟨(by simp [h6_5, h15_11]), N0, rfl⟩
    · -- pc 15 not taken
      have cn13 : ∀ t, Steps p.tables e below (T8.setTop (mkF m 23 #[.val (.ref a1), .val (.double (FP.l2d qx)), .second] [(.int (1 : Int32))])) t → Steps p.tables e below (s₁.setTop (entryFrame m #[(.ref a1), (.double (FP.l2d qx))] 3)) t := by
        intro t k
        refine cn10 t ?_
        refine o_ifNo X8.here hx (hb hby dH_15) (XT.ll_gt_f h15_11) ?_
        refine o_iconstV X8.here hx (1 : Int32) (hb hby dH_18) rfl ?_
        show Steps p.tables e below (T8.setTop (mkF m 19 #[.val (.ref a1), .val (.double (FP.l2d qx)), .second] [(.int (1 : Int32))])) _
        refine o_goto X8.here hx (pc' := 23) (hb hby dH_19) (by decide) (by decide) ?_
        exact k
      obtain ⟨fs, hr, hrun, hended, hW, hsame⟩ := X8.leave (v := some (.int (1 : Int32))) (fun h => by rw [Bd.returns] at h; cases h)
      refine ⟨_, _, cn13 _ ?_, hrun, hended, _, _, rfl, ?_, ⟨_, rfl⟩, hW, hsame.mono (by decide) (by decide)⟩
      · exact retN X8 hx (t := .boolean) Bd.returns (by simp) (hb hby dH_23) hr
      · show QH Z a1 w1 w2 qx h0 n0 _ T8.heap _
        rw [e8]
        exact ⟨(by simp [h6_5, h15_11]), N0, rfl⟩

theorem pd_oJJcJ : parseMethodDescriptor "(JJ)J" = some ⟨[.long, .long], some .long⟩ := by decide +kernel
theorem pd_oLjava_lang_StringsDDcV : parseMethodDescriptor "(Ljava/lang/String;DD)V" = some ⟨[(.object "java/lang/String"), .double, .double], none⟩ := by decide +kernel
theorem pn_com_example_diotima_diotima_kb_FeatureHoldsPinLaw : plainName "com/example/diotima/diotima/kb/FeatureHoldsPinLaw" = true := by first | (simp [plainName, overriddenIn]; done) | decide +kernel
theorem ef0 (m : MethodId) (x0 : Int32) (x1 : Int32) (x2 : Int32) (x3 : Int32) : entryFrame m #[(.int x0), (.int x1), (.int x2), (.int x3)] maxLocals = (mkF m 0 #[.val (.int x0), .val (.int x1), .val (.int x2), .val (.int x3), .unset, .unset, .unset, .unset, .unset, .unset, .unset, .unset, .unset] []) := by first | (simp [entryFrame, mkF, argsToLocals, Value.category, maxLocals]; done) | rfl
def Q0 (Z : State) (p1 : Int32) (p2 : Int32) (p3 : Int32) (p4 : Int32) (h0 : Heap) (n0 : Nat) (v : Option Value) (h : Heap) (L : List Loc) : Prop := v = some (.int (1 : Int32)) ∧ Fr n0 L
set_option maxRecDepth 65536 in
set_option maxHeartbeats 40000000 in
theorem rm0 (l : Launch) (Z : State) (a0 : Array Value) (hw : ∀ d ∈ tables_1, d.before a0 Z = true) (ws : List Jvm.Cond) (p1 : Int32) (p2 : Int32) (p3 : Int32) (p4 : Int32) (h0 : Heap) (n0 : Nat) (Z0 : n0 ≤ h0.size) :
    MetFree l x (head1 (Jvm.Cond.code x code maxLocals ret :: ws) room_1) (fun a U => a = #[(.int p1), (.int p2), (.int p3), (.int p4)] ∧ Z.Warmed39 U.vm ∧ U.heap = h0) (fun _ _ _ _ _ => True) (fun _ U o U' => ∃ v L, o = .returned v ∧ Q0 Z p1 p2 p3 p4 h0 n0 v U'.heap L ∧ ReturnedEndW U o U' L room_1.cells room_1.slots) := by
  refine MetFree.of_bodySF (plainFor_of_name pn_com_example_diotima_diotima_kb_FeatureHoldsPinLaw) hisR ?_
  intro p e s m args below meth c s₁ Bd hml0 hP hK
  obtain ⟨rfl, hZ, hh⟩ := hP
  have hx := Bd.exec
  have hby := Bd.bytes
  have hml : c.maxLocals = 13 := hml0
  have hown : s.vm.findClass "com/example/diotima/diotima/kb/FeatureHoldsPinLaw" = some m.cls := findClass_of_methodNamed Bd.named
  have hnm := (name_of_methodNamed Bd.named Bd.method).1
  have X0 : Stand p l e room_1 (s.setVm s.vm) m #[(.int p1), (.int p2), (.int p3), (.int p4)] below meth c s₁ [] 0 0 := Stand.of_body Bd
  have e0 : s₁.heap = h0 := by rw [← hh, Bd.state]; rfl
  have N0 := Fr.nil n0
  have hS : s.Since s.vm h0.size := (State.WarmedH.refl s).since _
  have hkS : h0.size ≤ h0.size := Nat.le_refl _
  have hZ : Z.Warmed39 (s.setVm s.vm).vm := hZ
  have hown : (s.setVm s.vm).vm.findClass "com/example/diotima/diotima/kb/FeatureHoldsPinLaw" = some m.cls := hown
  have pre0 : ∀ t, Steps p.tables e below (s₁.setTop (mkF m 0 #[.val (.int p1), .val (.int p2), .val (.int p3), .val (.int p4), .unset, .unset, .unset, .unset, .unset, .unset, .unset, .unset, .unset] [])) t → Steps p.tables e below (s₁.setTop (entryFrame m #[(.int p1), (.int p2), (.int p3), (.int p4)] maxLocals)) t := fun t k => castTop (ef0 m p1 p2 p3 p4) k
  have cn1 : ∀ t, Steps p.tables e below (s₁.setTop (mkF m 4 #[.val (.int p1), .val (.int p2), .val (.int p3), .val (.int p4), .unset, .unset, .unset, .unset, .unset, .unset, .unset, .unset, .unset] [(.long p2.toInt64), (.long p1.toInt64)])) t → Steps p.tables e below (s₁.setTop (entryFrame m #[(.int p1), (.int p2), (.int p3), (.int p4)] maxLocals)) t := by
    intro t k
    refine pre0 t ?_
    refine o_iloadN X0.here hx (hb hby at_0) rfl ?_
    refine o_i2l X0.here hx (hb hby at_1) ?_
    refine o_iloadN X0.here hx (hb hby at_2) rfl ?_
    refine o_i2l X0.here hx (hb hby at_3) ?_
    exact k
  obtain ⟨_, _, ⟨T2, L2, c2, n2⟩, -, X2, ⟨Lc2, hQ2, l2, y2, z2⟩, st2⟩ := Jvm.LawKit.callS X0 hx (y := (⟨"java/lang/Math", "min", "(JJ)J"⟩ : MethodName)) hown (mvT hZ (hw _ (List.mem_of_getElem? (i := 0) rfl))) (mvT hZ (hw _ (List.mem_of_getElem? (i := 1) rfl))) (mvT hZ (hw _ (List.mem_of_getElem? (i := 2) rfl))) (mvT hZ (hw _ (List.mem_of_getElem? (i := 3) rfl))) (by decide) (backOf (W := 0) (rmN l Z a0 hw [] p1.toInt64 p2.toInt64 h0 n0 Z0) hZ (hw _ (List.mem_of_getElem? (i := 3) rfl)) (hw _ (List.mem_of_getElem? (i := 2) rfl)) (by decide) (by decide)) (g := (mkF m 4 #[.val (.int p1), .val (.int p2), .val (.int p3), .val (.int p4), .unset, .unset, .unset, .unset, .unset, .unset, .unset, .unset, .unset] [(.long p2.toInt64), (.long p1.toInt64)])) rfl (by rw [hml]; rfl) (argsL := [(.long p1.toInt64), (.long p2.toInt64)]) (rest := []) (lenOf pd_oJJcJ rfl) rfl (by show 2 * 0 + _ ≤ _; exact Nat.le_of_eq rfl) (hb hby at_4) (fun _ _ => ⟨rfl, e0, (by decide : 0 + 0 ≤ _), (by decide : 0 + 0 ≤ _)⟩)
  dsimp only [Pt.U, Pt.locs, Pt.cells, Pt.slots] at X2 l2 y2 z2 st2 hQ2
  subst l2 y2 z2
  obtain ⟨rfl, N2a, eh2⟩ := hQ2
  have N2 := Fr.app N0 N2a
  have e2 : T2.heap = h0 := eh2
  have cn3 : ∀ t, Steps p.tables e below (T2.setTop (mkF m 7 #[.val (.int p1), .val (.int p2), .val (.int p3), .val (.int p4), .unset, .unset, .unset, .unset, .unset, .unset, .unset, .unset, .unset] [(.long (own_min p1.toInt64 p2.toInt64))])) t → Steps p.tables e below (s₁.setTop (entryFrame m #[(.int p1), (.int p2), (.int p3), (.int p4)] maxLocals)) t := fun t k => cn1 t (st2 _ k)
  obtain ⟨lo, h_lo⟩ : ∃ z : Int64, z = own_min p1.toInt64 p2.toInt64 := ⟨_, rfl⟩
  have cn4 : ∀ t, Steps p.tables e below (T2.setTop (mkF m 13 #[.val (.int p1), .val (.int p2), .val (.int p3), .val (.int p4), .val (.long lo), .second, .unset, .unset, .unset, .unset, .unset, .unset, .unset] [(.long p2.toInt64), (.long p1.toInt64)])) t → Steps p.tables e below (s₁.setTop (entryFrame m #[(.int p1), (.int p2), (.int p3), (.int p4)] maxLocals)) t := by
    intro t k
    refine cn3 t ?_
    rw [← h_lo]
    refine o_lstore X2.here hx (hb hby at_7) (l' := #[.val (.int p1), .val (.int p2), .val (.int p3), .val (.int p4), .val (.long lo), .second, .unset, .unset, .unset, .unset, .unset, .unset, .unset]) rfl ?_
    refine o_iloadN X2.here hx (hb hby at_9) rfl ?_
    refine o_i2l X2.here hx (hb hby at_10) ?_
    refine o_iloadN X2.here hx (hb hby at_11) rfl ?_
    refine o_i2l X2.here hx (hb hby at_12) ?_
    exact k
  obtain ⟨_, _, ⟨T5, L5, c5, n5⟩, -, X5, ⟨Lc5, hQ5, l5, y5, z5⟩, st5⟩ := Jvm.LawKit.callS X2 hx (y := (⟨"java/lang/Math", "max", "(JJ)J"⟩ : MethodName)) hown (mvT hZ (hw _ (List.mem_of_getElem? (i := 4) rfl))) (mvT hZ (hw _ (List.mem_of_getElem? (i := 5) rfl))) (mvT hZ (hw _ (List.mem_of_getElem? (i := 2) rfl))) (mvT hZ (hw _ (List.mem_of_getElem? (i := 6) rfl))) (by decide) (backOf (W := 0) (rmX l Z a0 hw [] p1.toInt64 p2.toInt64 h0 n0 Z0) hZ (hw _ (List.mem_of_getElem? (i := 6) rfl)) (hw _ (List.mem_of_getElem? (i := 2) rfl)) (by decide) (by decide)) (g := (mkF m 13 #[.val (.int p1), .val (.int p2), .val (.int p3), .val (.int p4), .val (.long lo), .second, .unset, .unset, .unset, .unset, .unset, .unset, .unset] [(.long p2.toInt64), (.long p1.toInt64)])) rfl (by rw [hml]; rfl) (argsL := [(.long p1.toInt64), (.long p2.toInt64)]) (rest := []) (lenOf pd_oJJcJ rfl) rfl (by show 2 * 0 + _ ≤ _; exact Nat.le_of_eq rfl) (hb hby at_13) (fun _ _ => ⟨rfl, e2, (by decide : 0 + 0 ≤ _), (by decide : 0 + 0 ≤ _)⟩)
  dsimp only [Pt.U, Pt.locs, Pt.cells, Pt.slots] at X5 l5 y5 z5 st5 hQ5
  subst l5 y5 z5
  obtain ⟨rfl, N5a, eh5⟩ := hQ5
  have N5 := Fr.app N2 N5a
  have e5 : T5.heap = h0 := eh5
  have cn6 : ∀ t, Steps p.tables e below (T5.setTop (mkF m 16 #[.val (.int p1), .val (.int p2), .val (.int p3), .val (.int p4), .val (.long lo), .second, .unset, .unset, .unset, .unset, .unset, .unset, .unset] [(.long (own_max p1.toInt64 p2.toInt64))])) t → Steps p.tables e below (s₁.setTop (entryFrame m #[(.int p1), (.int p2), (.int p3), (.int p4)] maxLocals)) t := fun t k => cn4 t (st5 _ k)
  obtain ⟨hi, h_hi⟩ : ∃ z : Int64, z = own_max p1.toInt64 p2.toInt64 := ⟨_, rfl⟩
  have cn7 : ∀ t, Steps p.tables e below (T5.setTop (mkF m 27 #[.val (.int p1), .val (.int p2), .val (.int p3), .val (.int p4), .val (.long lo), .second, .val (.long hi), .second, .val (.int (p4 &&& (7 : Int32))), .unset, .unset, .unset, .unset] [(.int (1 : Int32)), (.int (p4 &&& (7 : Int32)))])) t → Steps p.tables e below (s₁.setTop (entryFrame m #[(.int p1), (.int p2), (.int p3), (.int p4)] maxLocals)) t := by
    intro t k
    refine cn6 t ?_
    rw [← h_hi]
    refine o_lstore X5.here hx (hb hby at_16) (l' := #[.val (.int p1), .val (.int p2), .val (.int p3), .val (.int p4), .val (.long lo), .second, .val (.long hi), .second, .unset, .unset, .unset, .unset, .unset]) rfl ?_
    refine o_iloadN X5.here hx (hb hby at_18) rfl ?_
    refine o_bipushV X5.here hx (7 : Int32) (hb hby at_19) rfl ?_
    refine o_iand X5.here hx (hb hby at_21) ?_
    refine o_istore X5.here hx (hb hby at_22) (l' := #[.val (.int p1), .val (.int p2), .val (.int p3), .val (.int p4), .val (.long lo), .second, .val (.long hi), .second, .val (.int (p4 &&& (7 : Int32))), .unset, .unset, .unset, .unset]) rfl ?_
    refine o_iload X5.here hx (hb hby at_24) rfl ?_
    refine o_iconstV X5.here hx (1 : Int32) (hb hby at_26) rfl ?_
    exact k
  by_cases h27_8 : (p4 &&& (7 : Int32)) = (1 : Int32)
  · -- pc 27 not taken
    have cn9 : ∀ t, Steps p.tables e below (T5.setTop (mkF m 104 #[.val (.int p1), .val (.int p2), .val (.int p3), .val (.int p4), .val (.long lo), .second, .val (.long hi), .second, .val (.int (p4 &&& (7 : Int32))), .val (.long lo), .second, .unset, .unset] [])) t → Steps p.tables e below (s₁.setTop (entryFrame m #[(.int p1), (.int p2), (.int p3), (.int p4)] maxLocals)) t := by
      intro t k
      refine cn7 t ?_
      refine o_icmpNo X5.here hx (hb hby at_27) (XT.ii_ne_f h27_8) ?_
      refine o_lload X5.here hx (hb hby at_30) rfl ?_
      refine o_lstore X5.here hx (hb hby at_32) (l' := #[.val (.int p1), .val (.int p2), .val (.int p3), .val (.int p4), .val (.long lo), .second, .val (.long hi), .second, .val (.int (p4 &&& (7 : Int32))), .val (.long lo), .second, .unset, .unset]) rfl ?_
      show Steps p.tables e below (T5.setTop (mkF m 34 #[.val (.int p1), .val (.int p2), .val (.int p3), .val (.int p4), .val (.long lo), .second, .val (.long hi), .second, .val (.int (p4 &&& (7 : Int32))), .val (.long lo), .second, .unset, .unset] [])) _
      refine o_goto X5.here hx (pc' := 104) (hb hby at_34) (by decide) (by decide) ?_
      exact k
    obtain ⟨T10, h10, X10, e10, E10, A10, D10, -, st10⟩ := newO X5 hx hZ hown (hw _ (List.mem_of_getElem? (i := 7) rfl)) (hw _ (List.mem_of_getElem? (i := 8) rfl)) (hw _ (List.mem_of_getElem? (i := 9) rfl)) e5 (g := (mkF m 104 #[.val (.int p1), .val (.int p2), .val (.int p3), .val (.int p4), .val (.long lo), .second, .val (.long hi), .second, .val (.int (p4 &&& (7 : Int32))), .val (.long lo), .second, .unset, .unset] [])) rfl (hb hby at_104) (by decide) (by decide)
    obtain ⟨a10, g10⟩ : ∃ z, z = h0.size := ⟨_, rfl⟩
    rw [← g10] at A10 D10 st10
    have Z10 : n0 ≤ h10.size := (Nat.le_trans Z0 E10.1)
    have G10 : n0 ≤ a10 := (Nat.le_trans Z0 (Nat.le_of_eq g10.symm))
    have F11 : Fld Z h10 a10 "com/example/diotima/diotima/kb/Feature" "name" "Ljava/lang/String;" .null := (D10 (Or.inr (hw _ (List.mem_of_getElem? (i := 38) rfl))) (ty := (.object "java/lang/String")) (by decide))
    have F12 : Fld Z h10 a10 "com/example/diotima/diotima/kb/Feature" "low" "D" (.double (0 : UInt64)) := (D10 (Or.inr (hw _ (List.mem_of_getElem? (i := 40) rfl))) (ty := .double) (by decide))
    have F13 : Fld Z h10 a10 "com/example/diotima/diotima/kb/Feature" "high" "D" (.double (0 : UInt64)) := (D10 (Or.inr (hw _ (List.mem_of_getElem? (i := 42) rfl))) (ty := .double) (by decide))
    have cn14 : ∀ t, Steps p.tables e below (T10.setTop (mkF m 107 #[.val (.int p1), .val (.int p2), .val (.int p3), .val (.int p4), .val (.long lo), .second, .val (.long hi), .second, .val (.int (p4 &&& (7 : Int32))), .val (.long lo), .second, .unset, .unset] [(.ref a10)])) t → Steps p.tables e below (s₁.setTop (entryFrame m #[(.int p1), (.int p2), (.int p3), (.int p4)] maxLocals)) t := fun t k => cn9 t (st10 _ k)
    have cn15 : ∀ t, Steps p.tables e below (T10.setTop (mkF m 108 #[.val (.int p1), .val (.int p2), .val (.int p3), .val (.int p4), .val (.long lo), .second, .val (.long hi), .second, .val (.int (p4 &&& (7 : Int32))), .val (.long lo), .second, .unset, .unset] [(.ref a10), (.ref a10)])) t → Steps p.tables e below (s₁.setTop (entryFrame m #[(.int p1), (.int p2), (.int p3), (.int p4)] maxLocals)) t := by
      intro t k
      refine cn14 t ?_
      refine o_dup X10.here hx (hb hby at_107) rfl ?_
      exact k
    obtain ⟨a16, T16, h16, ks16, X16, e16, E16, hS, hkS, hZ, hown, st16⟩ := ldcS X10 hx hZ hown (hw _ (List.mem_of_getElem? (i := 10) rfl)) (fun d hd => hw d (own_strAtoms d hd)) e10 hS (Nat.le_trans hkS E10.1) (g := (mkF m 108 #[.val (.int p1), .val (.int p2), .val (.int p3), .val (.int p4), .val (.long lo), .second, .val (.long hi), .second, .val (.int (p4 &&& (7 : Int32))), .val (.long lo), .second, .unset, .unset] [(.ref a10), (.ref a10)])) rfl (hb hby at_108) (n := 4) (by decide) (by decide) (by decide) (by decide)
    have Z16 : n0 ≤ h16.size := (Nat.le_trans Z10 E16.1)
    have E17 : Exa Z h16 a10 "com/example/diotima/diotima/kb/Feature" := (Exa.ext E16 A10)
    have F18 : Fld Z h16 a10 "com/example/diotima/diotima/kb/Feature" "name" "Ljava/lang/String;" .null := (Fld.ext E16 F11)
    have F19 : Fld Z h16 a10 "com/example/diotima/diotima/kb/Feature" "low" "D" (.double (0 : UInt64)) := (Fld.ext E16 F12)
    have F20 : Fld Z h16 a10 "com/example/diotima/diotima/kb/Feature" "high" "D" (.double (0 : UInt64)) := (Fld.ext E16 F13)
    have cn21 : ∀ t, Steps p.tables e below (T16.setTop (mkF m 110 #[.val (.int p1), .val (.int p2), .val (.int p3), .val (.int p4), .val (.long lo), .second, .val (.long hi), .second, .val (.int (p4 &&& (7 : Int32))), .val (.long lo), .second, .unset, .unset] [(.ref a16), (.ref a10), (.ref a10)])) t → Steps p.tables e below (s₁.setTop (entryFrame m #[(.int p1), (.int p2), (.int p3), (.int p4)] maxLocals)) t := fun t k => cn15 t (st16 _ k)
    have cn22 : ∀ t, Steps p.tables e below (T16.setTop (mkF m 116 #[.val (.int p1), .val (.int p2), .val (.int p3), .val (.int p4), .val (.long lo), .second, .val (.long hi), .second, .val (.int (p4 &&& (7 : Int32))), .val (.long lo), .second, .unset, .unset] [(.double (FP.l2d hi)), (.double (FP.l2d lo)), (.ref a16), (.ref a10), (.ref a10)])) t → Steps p.tables e below (s₁.setTop (entryFrame m #[(.int p1), (.int p2), (.int p3), (.int p4)] maxLocals)) t := by
      intro t k
      refine cn21 t ?_
      refine o_lload X16.here hx (hb hby at_110) rfl ?_
      refine o_l2dS X16.here hx (hb hby at_112) (v := FP.l2d lo) rfl ?_
      refine o_lload X16.here hx (hb hby at_113) rfl ?_
      refine o_l2dS X16.here hx (hb hby at_115) (v := FP.l2d hi) rfl ?_
      exact k
    obtain ⟨_, _, ⟨T23, L23, c23, n23⟩, -, X23, ⟨Lc23, hQ23, l23, y23, z23⟩, st23⟩ := X16.specialBack hx (y := (⟨"com/example/diotima/diotima/kb/Feature", "<init>", "(Ljava/lang/String;DD)V"⟩ : MethodName)) rfl hown (mvT hZ (hw _ (List.mem_of_getElem? (i := 18) rfl))) (mvT hZ (hw _ (List.mem_of_getElem? (i := 19) rfl))) (mvT hZ (hw _ (List.mem_of_getElem? (i := 20) rfl))) (by decide) (backOf (W := 1) (rmC l Z a0 hw [] a10 a16 lo hi h16 n0 Z16 E17 G10 F18 F19 F20 (own_wide (by rw [h_lo]; exact own_bd_min p1 p2 : OBd 2147483648 lo) (by decide)) (own_wide (by rw [h_hi]; exact own_bd_max p1 p2 : OBd 2147483648 hi) (by decide)) (by rw [h_lo, h_hi]; exact own_min_max _ _)) hZ (hw _ (List.mem_of_getElem? (i := 20) rfl)) (hw _ (List.mem_of_getElem? (i := 9) rfl)) (by decide) (by decide)) (g := (mkF m 116 #[.val (.int p1), .val (.int p2), .val (.int p3), .val (.int p4), .val (.long lo), .second, .val (.long hi), .second, .val (.int (p4 &&& (7 : Int32))), .val (.long lo), .second, .unset, .unset] [(.double (FP.l2d hi)), (.double (FP.l2d lo)), (.ref a16), (.ref a10), (.ref a10)])) rfl (by rw [hml]; rfl) (Steps.refl _) (a := a10) (argsL := [(.ref a16), (.double (FP.l2d lo)), (.double (FP.l2d hi))]) (rest := [(.ref a10)]) (lenOf pd_oLjava_lang_StringsDDcV rfl) rfl (by show 2 * 0 + _ ≤ _; exact Nat.le_of_eq rfl) (hb hby at_116) (fun _ _ => ⟨rfl, e16, (by decide : 3 + 0 ≤ _), (by decide : 11 + 0 ≤ _)⟩)
    dsimp only [Pt.U, Pt.locs, Pt.cells, Pt.slots] at X23 l23 y23 z23 st23 hQ23
    subst l23 y23 z23
    obtain ⟨rfl, N23a, K23, Q23_0, Q23_1, Q23_2⟩ := hQ23
    have N23 := Fr.app N5 N23a
    have e23 : T23.heap = T23.heap := rfl
    have Z23 : n0 ≤ T23.heap.size := (Nat.le_trans Z16 K23.1)
    have E24 : Exa Z T23.heap a10 "com/example/diotima/diotima/kb/Feature" := (E17.keep K23)
    have cn25 : ∀ t, Steps p.tables e below (T23.setTop (mkF m 119 #[.val (.int p1), .val (.int p2), .val (.int p3), .val (.int p4), .val (.long lo), .second, .val (.long hi), .second, .val (.int (p4 &&& (7 : Int32))), .val (.long lo), .second, .unset, .unset] [(.ref a10)])) t → Steps p.tables e below (s₁.setTop (entryFrame m #[(.int p1), (.int p2), (.int p3), (.int p4)] maxLocals)) t := fun t k => cn22 t (st23.trans k)
    have cn26 : ∀ t, Steps p.tables e below (T23.setTop (mkF m 134 #[.val (.int p1), .val (.int p2), .val (.int p3), .val (.int p4), .val (.long lo), .second, .val (.long hi), .second, .val (.int (p4 &&& (7 : Int32))), .val (.long lo), .second, .val (.ref a10), .unset] [(.int (XT.cmpL lo hi))])) t → Steps p.tables e below (s₁.setTop (entryFrame m #[(.int p1), (.int p2), (.int p3), (.int p4)] maxLocals)) t := by
      intro t k
      refine cn25 t ?_
      refine o_astore X23.here hx (hb hby at_119) rfl (l' := #[.val (.int p1), .val (.int p2), .val (.int p3), .val (.int p4), .val (.long lo), .second, .val (.long hi), .second, .val (.int (p4 &&& (7 : Int32))), .val (.long lo), .second, .val (.ref a10), .unset]) rfl ?_
      refine o_lload X23.here hx (hb hby at_121) rfl ?_
      refine o_lload X23.here hx (hb hby at_123) rfl ?_
      refine o_lcmp X23.here hx (hb hby at_125) ?_
      show Steps p.tables e below (T23.setTop (mkF m 126 #[.val (.int p1), .val (.int p2), .val (.int p3), .val (.int p4), .val (.long lo), .second, .val (.long hi), .second, .val (.int (p4 &&& (7 : Int32))), .val (.long lo), .second, .val (.ref a10), .unset] [(.int (XT.cmpL lo lo))])) _
      refine o_ifNo X23.here hx (hb hby at_126) (XT.ll_gt_f (own_irr _)) ?_
      refine o_lload X23.here hx (hb hby at_129) rfl ?_
      refine o_lload X23.here hx (hb hby at_131) rfl ?_
      refine o_lcmp X23.here hx (hb hby at_133) ?_
      exact k
    by_cases h134_27 : hi < lo
    · -- pc 134 taken
      have cn28 : ∀ t, Steps p.tables e below (T23.setTop (mkF m 149 #[.val (.int p1), .val (.int p2), .val (.int p3), .val (.int p4), .val (.long lo), .second, .val (.long hi), .second, .val (.int (p4 &&& (7 : Int32))), .val (.long lo), .second, .val (.ref a10), .val (.int (0 : Int32))] [(.double (FP.l2d lo)), (.ref a10)])) t → Steps p.tables e below (s₁.setTop (entryFrame m #[(.int p1), (.int p2), (.int p3), (.int p4)] maxLocals)) t := by
        intro t k
        refine cn26 t ?_
        refine o_ifYes X23.here hx (pc' := 141) (hb hby at_134) (XT.ll_gt_t h134_27) (by decide) (by decide) ?_
        refine o_iconstV X23.here hx (0 : Int32) (hb hby at_141) rfl ?_
        refine o_istore X23.here hx (hb hby at_142) (l' := #[.val (.int p1), .val (.int p2), .val (.int p3), .val (.int p4), .val (.long lo), .second, .val (.long hi), .second, .val (.int (p4 &&& (7 : Int32))), .val (.long lo), .second, .val (.ref a10), .val (.int (0 : Int32))]) rfl ?_
        refine o_aload X23.here hx (hb hby at_144) rfl rfl ?_
        refine o_lload X23.here hx (hb hby at_146) rfl ?_
        refine o_l2dS X23.here hx (hb hby at_148) (v := FP.l2d lo) rfl ?_
        exact k
      obtain ⟨cq29, kq29, q29a, q29b, q29c⟩ := isOf hZ e23 Q23_0
      obtain ⟨_, _, ⟨T29, L29, c29, n29⟩, -, X29, ⟨Lc29, hQ29, l29, y29, z29⟩, st29⟩ := X23.virtualBack hx (y := (⟨"com/example/diotima/diotima/kb/Feature", "holds", "(D)Z"⟩ : MethodName)) (z := (⟨"com/example/diotima/diotima/kb/Feature", "holds", "(D)Z"⟩ : MethodName)) hown (mvT hZ (hw _ (List.mem_of_getElem? (i := 43) rfl))) (mvT hZ (hw _ (List.mem_of_getElem? (i := 44) rfl))) (notFace_of_selects (args := #[]) (mvT hZ (hw _ (List.mem_of_getElem? (i := 46) rfl)))) (mvT hZ (hw _ (List.mem_of_getElem? (i := 46) rfl))) (mvT hZ (hw _ (List.mem_of_getElem? (i := 45) rfl))) (by decide) (backOf (W := 0) (rmH l Z a0 hw [] a10 lo hi lo T23.heap n0 Z23 Q23_1 Q23_2 (own_wide (by rw [h_lo]; exact own_bd_min p1 p2 : OBd 2147483648 lo) (by decide)) (own_wide (by rw [h_hi]; exact own_bd_max p1 p2 : OBd 2147483648 hi) (by decide)) (own_wide (by rw [h_lo]; exact own_bd_min p1 p2 : OBd 2147483648 lo) (by decide))) hZ (hw _ (List.mem_of_getElem? (i := 47) rfl)) (hw _ (List.mem_of_getElem? (i := 9) rfl)) (by decide) (by decide)) q29a q29c (g := (mkF m 149 #[.val (.int p1), .val (.int p2), .val (.int p3), .val (.int p4), .val (.long lo), .second, .val (.long hi), .second, .val (.int (p4 &&& (7 : Int32))), .val (.long lo), .second, .val (.ref a10), .val (.int (0 : Int32))] [(.double (FP.l2d lo)), (.ref a10)])) rfl (by rw [hml]; rfl) (Steps.refl _) (argsL := [(.double (FP.l2d lo))]) (rest := []) (lenOf pd_oDcZ rfl) rfl (by show 2 * 0 + _ ≤ _; exact Nat.le_of_eq rfl) (hb hby at_149) (fun _ _ => ⟨rfl, e23, (by decide : 3 + 0 ≤ _), (by decide : 11 + 0 ≤ _)⟩)
      dsimp only [Pt.U, Pt.locs, Pt.cells, Pt.slots] at X29 l29 y29 z29 st29 hQ29
      subst l29 y29 z29
      obtain ⟨rfl, N29a, eh29⟩ := hQ29
      have N29 := Fr.app N23 N29a
      have e29 : T29.heap = T23.heap := eh29
      have cn30 : ∀ t, Steps p.tables e below (T29.setTop (mkF m 152 #[.val (.int p1), .val (.int p2), .val (.int p3), .val (.int p4), .val (.long lo), .second, .val (.long hi), .second, .val (.int (p4 &&& (7 : Int32))), .val (.long lo), .second, .val (.ref a10), .val (.int (0 : Int32))] [(.int (if ¬ lo < lo ∧ ¬ hi < lo then (1 : Int32) else 0))])) t → Steps p.tables e below (s₁.setTop (entryFrame m #[(.int p1), (.int p2), (.int p3), (.int p4)] maxLocals)) t := fun t k => cn28 t (st29.trans k)
      have cn31 : ∀ t, Steps p.tables e below (T29.setTop (mkF m 162 #[.val (.int p1), .val (.int p2), .val (.int p3), .val (.int p4), .val (.long lo), .second, .val (.long hi), .second, .val (.int (p4 &&& (7 : Int32))), .val (.long lo), .second, .val (.ref a10), .val (.int (0 : Int32))] [(.int (1 : Int32))])) t → Steps p.tables e below (s₁.setTop (entryFrame m #[(.int p1), (.int p2), (.int p3), (.int p4)] maxLocals)) t := by
        intro t k
        refine cn30 t ?_
        refine o_iload X29.here hx (hb hby at_152) rfl ?_
        show Steps p.tables e below (T29.setTop (mkF m 154 #[.val (.int p1), .val (.int p2), .val (.int p3), .val (.int p4), .val (.long lo), .second, .val (.long hi), .second, .val (.int (p4 &&& (7 : Int32))), .val (.long lo), .second, .val (.ref a10), .val (.int (0 : Int32))] [(.int (0 : Int32)), (.int (if ¬ lo < lo ∧ ¬ hi < lo then (1 : Int32) else 0))])) _
        refine o_icmpNo X29.here hx (hb hby at_154) (XT.ii_ne_f (by simp [h134_27])) ?_
        refine o_iconstV X29.here hx (1 : Int32) (hb hby at_157) rfl ?_
        show Steps p.tables e below (T29.setTop (mkF m 158 #[.val (.int p1), .val (.int p2), .val (.int p3), .val (.int p4), .val (.long lo), .second, .val (.long hi), .second, .val (.int (p4 &&& (7 : Int32))), .val (.long lo), .second, .val (.ref a10), .val (.int (0 : Int32))] [(.int (1 : Int32))])) _
        refine o_goto X29.here hx (pc' := 162) (hb hby at_158) (by decide) (by decide) ?_
        exact k
      obtain ⟨fs, hr, hrun, hended, hend⟩ := X29.leaveW hS (by rw [e29]; exact (Nat.le_trans hkS K23.1)) (v := some (.int (1 : Int32))) (fun h => by rw [Bd.returns] at h; cases h)
      refine ⟨_, _, cn31 _ ?_, hrun, hended, _, _, rfl, ?_, hend.1, hend.2.1, hend.2.2.1, hend.2.2.2.mono (by decide) (by decide)⟩
      · exact retN X29 hx (t := .boolean) Bd.returns (by simp) (hb hby at_162) hr
      · show Q0 Z p1 p2 p3 p4 h0 n0 _ T29.heap _
        rw [e29]
        exact ⟨rfl, N29⟩
    · -- pc 134 not taken
      have cn32 : ∀ t, Steps p.tables e below (T23.setTop (mkF m 149 #[.val (.int p1), .val (.int p2), .val (.int p3), .val (.int p4), .val (.long lo), .second, .val (.long hi), .second, .val (.int (p4 &&& (7 : Int32))), .val (.long lo), .second, .val (.ref a10), .val (.int (1 : Int32))] [(.double (FP.l2d lo)), (.ref a10)])) t → Steps p.tables e below (s₁.setTop (entryFrame m #[(.int p1), (.int p2), (.int p3), (.int p4)] maxLocals)) t := by
        intro t k
        refine cn26 t ?_
        refine o_ifNo X23.here hx (hb hby at_134) (XT.ll_gt_f h134_27) ?_
        refine o_iconstV X23.here hx (1 : Int32) (hb hby at_137) rfl ?_
        show Steps p.tables e below (T23.setTop (mkF m 138 #[.val (.int p1), .val (.int p2), .val (.int p3), .val (.int p4), .val (.long lo), .second, .val (.long hi), .second, .val (.int (p4 &&& (7 : Int32))), .val (.long lo), .second, .val (.ref a10), .unset] [(.int (1 : Int32))])) _
        refine o_goto X23.here hx (pc' := 142) (hb hby at_138) (by decide) (by decide) ?_
        refine o_istore X23.here hx (hb hby at_142) (l' := #[.val (.int p1), .val (.int p2), .val (.int p3), .val (.int p4), .val (.long lo), .second, .val (.long hi), .second, .val (.int (p4 &&& (7 : Int32))), .val (.long lo), .second, .val (.ref a10), .val (.int (1 : Int32))]) rfl ?_
        refine o_aload X23.here hx (hb hby at_144) rfl rfl ?_
        refine o_lload X23.here hx (hb hby at_146) rfl ?_
        refine o_l2dS X23.here hx (hb hby at_148) (v := FP.l2d lo) rfl ?_
        exact k
      obtain ⟨cq33, kq33, q33a, q33b, q33c⟩ := isOf hZ e23 Q23_0
      obtain ⟨_, _, ⟨T33, L33, c33, n33⟩, -, X33, ⟨Lc33, hQ33, l33, y33, z33⟩, st33⟩ := X23.virtualBack hx (y := (⟨"com/example/diotima/diotima/kb/Feature", "holds", "(D)Z"⟩ : MethodName)) (z := (⟨"com/example/diotima/diotima/kb/Feature", "holds", "(D)Z"⟩ : MethodName)) hown (mvT hZ (hw _ (List.mem_of_getElem? (i := 43) rfl))) (mvT hZ (hw _ (List.mem_of_getElem? (i := 44) rfl))) (notFace_of_selects (args := #[]) (mvT hZ (hw _ (List.mem_of_getElem? (i := 46) rfl)))) (mvT hZ (hw _ (List.mem_of_getElem? (i := 46) rfl))) (mvT hZ (hw _ (List.mem_of_getElem? (i := 45) rfl))) (by decide) (backOf (W := 0) (rmH l Z a0 hw [] a10 lo hi lo T23.heap n0 Z23 Q23_1 Q23_2 (own_wide (by rw [h_lo]; exact own_bd_min p1 p2 : OBd 2147483648 lo) (by decide)) (own_wide (by rw [h_hi]; exact own_bd_max p1 p2 : OBd 2147483648 hi) (by decide)) (own_wide (by rw [h_lo]; exact own_bd_min p1 p2 : OBd 2147483648 lo) (by decide))) hZ (hw _ (List.mem_of_getElem? (i := 47) rfl)) (hw _ (List.mem_of_getElem? (i := 9) rfl)) (by decide) (by decide)) q33a q33c (g := (mkF m 149 #[.val (.int p1), .val (.int p2), .val (.int p3), .val (.int p4), .val (.long lo), .second, .val (.long hi), .second, .val (.int (p4 &&& (7 : Int32))), .val (.long lo), .second, .val (.ref a10), .val (.int (1 : Int32))] [(.double (FP.l2d lo)), (.ref a10)])) rfl (by rw [hml]; rfl) (Steps.refl _) (argsL := [(.double (FP.l2d lo))]) (rest := []) (lenOf pd_oDcZ rfl) rfl (by show 2 * 0 + _ ≤ _; exact Nat.le_of_eq rfl) (hb hby at_149) (fun _ _ => ⟨rfl, e23, (by decide : 3 + 0 ≤ _), (by decide : 11 + 0 ≤ _)⟩)
      dsimp only [Pt.U, Pt.locs, Pt.cells, Pt.slots] at X33 l33 y33 z33 st33 hQ33
      subst l33 y33 z33
      obtain ⟨rfl, N33a, eh33⟩ := hQ33
      have N33 := Fr.app N23 N33a
      have e33 : T33.heap = T23.heap := eh33
      have cn34 : ∀ t, Steps p.tables e below (T33.setTop (mkF m 152 #[.val (.int p1), .val (.int p2), .val (.int p3), .val (.int p4), .val (.long lo), .second, .val (.long hi), .second, .val (.int (p4 &&& (7 : Int32))), .val (.long lo), .second, .val (.ref a10), .val (.int (1 : Int32))] [(.int (if ¬ lo < lo ∧ ¬ hi < lo then (1 : Int32) else 0))])) t → Steps p.tables e below (s₁.setTop (entryFrame m #[(.int p1), (.int p2), (.int p3), (.int p4)] maxLocals)) t := fun t k => cn32 t (st33.trans k)
      have cn35 : ∀ t, Steps p.tables e below (T33.setTop (mkF m 162 #[.val (.int p1), .val (.int p2), .val (.int p3), .val (.int p4), .val (.long lo), .second, .val (.long hi), .second, .val (.int (p4 &&& (7 : Int32))), .val (.long lo), .second, .val (.ref a10), .val (.int (1 : Int32))] [(.int (1 : Int32))])) t → Steps p.tables e below (s₁.setTop (entryFrame m #[(.int p1), (.int p2), (.int p3), (.int p4)] maxLocals)) t := by
        intro t k
        refine cn34 t ?_
        refine o_iload X33.here hx (hb hby at_152) rfl ?_
        show Steps p.tables e below (T33.setTop (mkF m 154 #[.val (.int p1), .val (.int p2), .val (.int p3), .val (.int p4), .val (.long lo), .second, .val (.long hi), .second, .val (.int (p4 &&& (7 : Int32))), .val (.long lo), .second, .val (.ref a10), .val (.int (1 : Int32))] [(.int (1 : Int32)), (.int (if ¬ lo < lo ∧ ¬ hi < lo then (1 : Int32) else 0))])) _
        refine o_icmpNo X33.here hx (hb hby at_154) (XT.ii_ne_f (by simp [h134_27])) ?_
        refine o_iconstV X33.here hx (1 : Int32) (hb hby at_157) rfl ?_
        show Steps p.tables e below (T33.setTop (mkF m 158 #[.val (.int p1), .val (.int p2), .val (.int p3), .val (.int p4), .val (.long lo), .second, .val (.long hi), .second, .val (.int (p4 &&& (7 : Int32))), .val (.long lo), .second, .val (.ref a10), .val (.int (1 : Int32))] [(.int (1 : Int32))])) _
        refine o_goto X33.here hx (pc' := 162) (hb hby at_158) (by decide) (by decide) ?_
        exact k
      obtain ⟨fs, hr, hrun, hended, hend⟩ := X33.leaveW hS (by rw [e33]; exact (Nat.le_trans hkS K23.1)) (v := some (.int (1 : Int32))) (fun h => by rw [Bd.returns] at h; cases h)
      refine ⟨_, _, cn35 _ ?_, hrun, hended, _, _, rfl, ?_, hend.1, hend.2.1, hend.2.2.1, hend.2.2.2.mono (by decide) (by decide)⟩
      · exact retN X33 hx (t := .boolean) Bd.returns (by simp) (hb hby at_162) hr
      · show Q0 Z p1 p2 p3 p4 h0 n0 _ T33.heap _
        rw [e33]
        exact ⟨rfl, N33⟩
  · -- pc 27 taken
    have cn36 : ∀ t, Steps p.tables e below (T5.setTop (mkF m 40 #[.val (.int p1), .val (.int p2), .val (.int p3), .val (.int p4), .val (.long lo), .second, .val (.long hi), .second, .val (.int (p4 &&& (7 : Int32))), .unset, .unset, .unset, .unset] [(.int (2 : Int32)), (.int (p4 &&& (7 : Int32)))])) t → Steps p.tables e below (s₁.setTop (entryFrame m #[(.int p1), (.int p2), (.int p3), (.int p4)] maxLocals)) t := by
      intro t k
      refine cn7 t ?_
      refine o_icmpYes X5.here hx (pc' := 37) (hb hby at_27) (XT.ii_ne_t h27_8) (by decide) (by decide) ?_
      refine o_iload X5.here hx (hb hby at_37) rfl ?_
      refine o_iconstV X5.here hx (2 : Int32) (hb hby at_39) rfl ?_
      exact k
    by_cases h40_37 : (p4 &&& (7 : Int32)) = (2 : Int32)
    · -- pc 40 not taken
      have cn38 : ∀ t, Steps p.tables e below (T5.setTop (mkF m 104 #[.val (.int p1), .val (.int p2), .val (.int p3), .val (.int p4), .val (.long lo), .second, .val (.long hi), .second, .val (.int (p4 &&& (7 : Int32))), .val (.long hi), .second, .unset, .unset] [])) t → Steps p.tables e below (s₁.setTop (entryFrame m #[(.int p1), (.int p2), (.int p3), (.int p4)] maxLocals)) t := by
        intro t k
        refine cn36 t ?_
        refine o_icmpNo X5.here hx (hb hby at_40) (XT.ii_ne_f h40_37) ?_
        refine o_lload X5.here hx (hb hby at_43) rfl ?_
        refine o_lstore X5.here hx (hb hby at_45) (l' := #[.val (.int p1), .val (.int p2), .val (.int p3), .val (.int p4), .val (.long lo), .second, .val (.long hi), .second, .val (.int (p4 &&& (7 : Int32))), .val (.long hi), .second, .unset, .unset]) rfl ?_
        show Steps p.tables e below (T5.setTop (mkF m 47 #[.val (.int p1), .val (.int p2), .val (.int p3), .val (.int p4), .val (.long lo), .second, .val (.long hi), .second, .val (.int (p4 &&& (7 : Int32))), .val (.long hi), .second, .unset, .unset] [])) _
        refine o_goto X5.here hx (pc' := 104) (hb hby at_47) (by decide) (by decide) ?_
        exact k
      obtain ⟨T39, h39, X39, e39, E39, A39, D39, -, st39⟩ := newO X5 hx hZ hown (hw _ (List.mem_of_getElem? (i := 7) rfl)) (hw _ (List.mem_of_getElem? (i := 8) rfl)) (hw _ (List.mem_of_getElem? (i := 9) rfl)) e5 (g := (mkF m 104 #[.val (.int p1), .val (.int p2), .val (.int p3), .val (.int p4), .val (.long lo), .second, .val (.long hi), .second, .val (.int (p4 &&& (7 : Int32))), .val (.long hi), .second, .unset, .unset] [])) rfl (hb hby at_104) (by decide) (by decide)
      obtain ⟨a39, g39⟩ : ∃ z, z = h0.size := ⟨_, rfl⟩
      rw [← g39] at A39 D39 st39
      have Z39 : n0 ≤ h39.size := (Nat.le_trans Z0 E39.1)
      have G39 : n0 ≤ a39 := (Nat.le_trans Z0 (Nat.le_of_eq g39.symm))
      have F40 : Fld Z h39 a39 "com/example/diotima/diotima/kb/Feature" "name" "Ljava/lang/String;" .null := (D39 (Or.inr (hw _ (List.mem_of_getElem? (i := 38) rfl))) (ty := (.object "java/lang/String")) (by decide))
      have F41 : Fld Z h39 a39 "com/example/diotima/diotima/kb/Feature" "low" "D" (.double (0 : UInt64)) := (D39 (Or.inr (hw _ (List.mem_of_getElem? (i := 40) rfl))) (ty := .double) (by decide))
      have F42 : Fld Z h39 a39 "com/example/diotima/diotima/kb/Feature" "high" "D" (.double (0 : UInt64)) := (D39 (Or.inr (hw _ (List.mem_of_getElem? (i := 42) rfl))) (ty := .double) (by decide))
      have cn43 : ∀ t, Steps p.tables e below (T39.setTop (mkF m 107 #[.val (.int p1), .val (.int p2), .val (.int p3), .val (.int p4), .val (.long lo), .second, .val (.long hi), .second, .val (.int (p4 &&& (7 : Int32))), .val (.long hi), .second, .unset, .unset] [(.ref a39)])) t → Steps p.tables e below (s₁.setTop (entryFrame m #[(.int p1), (.int p2), (.int p3), (.int p4)] maxLocals)) t := fun t k => cn38 t (st39 _ k)
      have cn44 : ∀ t, Steps p.tables e below (T39.setTop (mkF m 108 #[.val (.int p1), .val (.int p2), .val (.int p3), .val (.int p4), .val (.long lo), .second, .val (.long hi), .second, .val (.int (p4 &&& (7 : Int32))), .val (.long hi), .second, .unset, .unset] [(.ref a39), (.ref a39)])) t → Steps p.tables e below (s₁.setTop (entryFrame m #[(.int p1), (.int p2), (.int p3), (.int p4)] maxLocals)) t := by
        intro t k
        refine cn43 t ?_
        refine o_dup X39.here hx (hb hby at_107) rfl ?_
        exact k
      obtain ⟨a45, T45, h45, ks45, X45, e45, E45, hS, hkS, hZ, hown, st45⟩ := ldcS X39 hx hZ hown (hw _ (List.mem_of_getElem? (i := 10) rfl)) (fun d hd => hw d (own_strAtoms d hd)) e39 hS (Nat.le_trans hkS E39.1) (g := (mkF m 108 #[.val (.int p1), .val (.int p2), .val (.int p3), .val (.int p4), .val (.long lo), .second, .val (.long hi), .second, .val (.int (p4 &&& (7 : Int32))), .val (.long hi), .second, .unset, .unset] [(.ref a39), (.ref a39)])) rfl (hb hby at_108) (n := 4) (by decide) (by decide) (by decide) (by decide)
      have Z45 : n0 ≤ h45.size := (Nat.le_trans Z39 E45.1)
      have E46 : Exa Z h45 a39 "com/example/diotima/diotima/kb/Feature" := (Exa.ext E45 A39)
      have F47 : Fld Z h45 a39 "com/example/diotima/diotima/kb/Feature" "name" "Ljava/lang/String;" .null := (Fld.ext E45 F40)
      have F48 : Fld Z h45 a39 "com/example/diotima/diotima/kb/Feature" "low" "D" (.double (0 : UInt64)) := (Fld.ext E45 F41)
      have F49 : Fld Z h45 a39 "com/example/diotima/diotima/kb/Feature" "high" "D" (.double (0 : UInt64)) := (Fld.ext E45 F42)
      have cn50 : ∀ t, Steps p.tables e below (T45.setTop (mkF m 110 #[.val (.int p1), .val (.int p2), .val (.int p3), .val (.int p4), .val (.long lo), .second, .val (.long hi), .second, .val (.int (p4 &&& (7 : Int32))), .val (.long hi), .second, .unset, .unset] [(.ref a45), (.ref a39), (.ref a39)])) t → Steps p.tables e below (s₁.setTop (entryFrame m #[(.int p1), (.int p2), (.int p3), (.int p4)] maxLocals)) t := fun t k => cn44 t (st45 _ k)
      have cn51 : ∀ t, Steps p.tables e below (T45.setTop (mkF m 116 #[.val (.int p1), .val (.int p2), .val (.int p3), .val (.int p4), .val (.long lo), .second, .val (.long hi), .second, .val (.int (p4 &&& (7 : Int32))), .val (.long hi), .second, .unset, .unset] [(.double (FP.l2d hi)), (.double (FP.l2d lo)), (.ref a45), (.ref a39), (.ref a39)])) t → Steps p.tables e below (s₁.setTop (entryFrame m #[(.int p1), (.int p2), (.int p3), (.int p4)] maxLocals)) t := by
        intro t k
        refine cn50 t ?_
        refine o_lload X45.here hx (hb hby at_110) rfl ?_
        refine o_l2dS X45.here hx (hb hby at_112) (v := FP.l2d lo) rfl ?_
        refine o_lload X45.here hx (hb hby at_113) rfl ?_
        refine o_l2dS X45.here hx (hb hby at_115) (v := FP.l2d hi) rfl ?_
        exact k
      obtain ⟨_, _, ⟨T52, L52, c52, n52⟩, -, X52, ⟨Lc52, hQ52, l52, y52, z52⟩, st52⟩ := X45.specialBack hx (y := (⟨"com/example/diotima/diotima/kb/Feature", "<init>", "(Ljava/lang/String;DD)V"⟩ : MethodName)) rfl hown (mvT hZ (hw _ (List.mem_of_getElem? (i := 18) rfl))) (mvT hZ (hw _ (List.mem_of_getElem? (i := 19) rfl))) (mvT hZ (hw _ (List.mem_of_getElem? (i := 20) rfl))) (by decide) (backOf (W := 1) (rmC l Z a0 hw [] a39 a45 lo hi h45 n0 Z45 E46 G39 F47 F48 F49 (own_wide (by rw [h_lo]; exact own_bd_min p1 p2 : OBd 2147483648 lo) (by decide)) (own_wide (by rw [h_hi]; exact own_bd_max p1 p2 : OBd 2147483648 hi) (by decide)) (by rw [h_lo, h_hi]; exact own_min_max _ _)) hZ (hw _ (List.mem_of_getElem? (i := 20) rfl)) (hw _ (List.mem_of_getElem? (i := 9) rfl)) (by decide) (by decide)) (g := (mkF m 116 #[.val (.int p1), .val (.int p2), .val (.int p3), .val (.int p4), .val (.long lo), .second, .val (.long hi), .second, .val (.int (p4 &&& (7 : Int32))), .val (.long hi), .second, .unset, .unset] [(.double (FP.l2d hi)), (.double (FP.l2d lo)), (.ref a45), (.ref a39), (.ref a39)])) rfl (by rw [hml]; rfl) (Steps.refl _) (a := a39) (argsL := [(.ref a45), (.double (FP.l2d lo)), (.double (FP.l2d hi))]) (rest := [(.ref a39)]) (lenOf pd_oLjava_lang_StringsDDcV rfl) rfl (by show 2 * 0 + _ ≤ _; exact Nat.le_of_eq rfl) (hb hby at_116) (fun _ _ => ⟨rfl, e45, (by decide : 3 + 0 ≤ _), (by decide : 11 + 0 ≤ _)⟩)
      dsimp only [Pt.U, Pt.locs, Pt.cells, Pt.slots] at X52 l52 y52 z52 st52 hQ52
      subst l52 y52 z52
      obtain ⟨rfl, N52a, K52, Q52_0, Q52_1, Q52_2⟩ := hQ52
      have N52 := Fr.app N5 N52a
      have e52 : T52.heap = T52.heap := rfl
      have Z52 : n0 ≤ T52.heap.size := (Nat.le_trans Z45 K52.1)
      have E53 : Exa Z T52.heap a39 "com/example/diotima/diotima/kb/Feature" := (E46.keep K52)
      have cn54 : ∀ t, Steps p.tables e below (T52.setTop (mkF m 119 #[.val (.int p1), .val (.int p2), .val (.int p3), .val (.int p4), .val (.long lo), .second, .val (.long hi), .second, .val (.int (p4 &&& (7 : Int32))), .val (.long hi), .second, .unset, .unset] [(.ref a39)])) t → Steps p.tables e below (s₁.setTop (entryFrame m #[(.int p1), (.int p2), (.int p3), (.int p4)] maxLocals)) t := fun t k => cn51 t (st52.trans k)
      have cn55 : ∀ t, Steps p.tables e below (T52.setTop (mkF m 126 #[.val (.int p1), .val (.int p2), .val (.int p3), .val (.int p4), .val (.long lo), .second, .val (.long hi), .second, .val (.int (p4 &&& (7 : Int32))), .val (.long hi), .second, .val (.ref a39), .unset] [(.int (XT.cmpL lo hi))])) t → Steps p.tables e below (s₁.setTop (entryFrame m #[(.int p1), (.int p2), (.int p3), (.int p4)] maxLocals)) t := by
        intro t k
        refine cn54 t ?_
        refine o_astore X52.here hx (hb hby at_119) rfl (l' := #[.val (.int p1), .val (.int p2), .val (.int p3), .val (.int p4), .val (.long lo), .second, .val (.long hi), .second, .val (.int (p4 &&& (7 : Int32))), .val (.long hi), .second, .val (.ref a39), .unset]) rfl ?_
        refine o_lload X52.here hx (hb hby at_121) rfl ?_
        refine o_lload X52.here hx (hb hby at_123) rfl ?_
        refine o_lcmp X52.here hx (hb hby at_125) ?_
        exact k
      by_cases h126_56 : hi < lo
      · -- pc 126 taken
        have cn57 : ∀ t, Steps p.tables e below (T52.setTop (mkF m 149 #[.val (.int p1), .val (.int p2), .val (.int p3), .val (.int p4), .val (.long lo), .second, .val (.long hi), .second, .val (.int (p4 &&& (7 : Int32))), .val (.long hi), .second, .val (.ref a39), .val (.int (0 : Int32))] [(.double (FP.l2d hi)), (.ref a39)])) t → Steps p.tables e below (s₁.setTop (entryFrame m #[(.int p1), (.int p2), (.int p3), (.int p4)] maxLocals)) t := by
          intro t k
          refine cn55 t ?_
          refine o_ifYes X52.here hx (pc' := 141) (hb hby at_126) (XT.ll_gt_t h126_56) (by decide) (by decide) ?_
          refine o_iconstV X52.here hx (0 : Int32) (hb hby at_141) rfl ?_
          refine o_istore X52.here hx (hb hby at_142) (l' := #[.val (.int p1), .val (.int p2), .val (.int p3), .val (.int p4), .val (.long lo), .second, .val (.long hi), .second, .val (.int (p4 &&& (7 : Int32))), .val (.long hi), .second, .val (.ref a39), .val (.int (0 : Int32))]) rfl ?_
          refine o_aload X52.here hx (hb hby at_144) rfl rfl ?_
          refine o_lload X52.here hx (hb hby at_146) rfl ?_
          refine o_l2dS X52.here hx (hb hby at_148) (v := FP.l2d hi) rfl ?_
          exact k
        obtain ⟨cq58, kq58, q58a, q58b, q58c⟩ := isOf hZ e52 Q52_0
        obtain ⟨_, _, ⟨T58, L58, c58, n58⟩, -, X58, ⟨Lc58, hQ58, l58, y58, z58⟩, st58⟩ := X52.virtualBack hx (y := (⟨"com/example/diotima/diotima/kb/Feature", "holds", "(D)Z"⟩ : MethodName)) (z := (⟨"com/example/diotima/diotima/kb/Feature", "holds", "(D)Z"⟩ : MethodName)) hown (mvT hZ (hw _ (List.mem_of_getElem? (i := 43) rfl))) (mvT hZ (hw _ (List.mem_of_getElem? (i := 44) rfl))) (notFace_of_selects (args := #[]) (mvT hZ (hw _ (List.mem_of_getElem? (i := 46) rfl)))) (mvT hZ (hw _ (List.mem_of_getElem? (i := 46) rfl))) (mvT hZ (hw _ (List.mem_of_getElem? (i := 45) rfl))) (by decide) (backOf (W := 0) (rmH l Z a0 hw [] a39 lo hi hi T52.heap n0 Z52 Q52_1 Q52_2 (own_wide (by rw [h_lo]; exact own_bd_min p1 p2 : OBd 2147483648 lo) (by decide)) (own_wide (by rw [h_hi]; exact own_bd_max p1 p2 : OBd 2147483648 hi) (by decide)) (own_wide (by rw [h_hi]; exact own_bd_max p1 p2 : OBd 2147483648 hi) (by decide))) hZ (hw _ (List.mem_of_getElem? (i := 47) rfl)) (hw _ (List.mem_of_getElem? (i := 9) rfl)) (by decide) (by decide)) q58a q58c (g := (mkF m 149 #[.val (.int p1), .val (.int p2), .val (.int p3), .val (.int p4), .val (.long lo), .second, .val (.long hi), .second, .val (.int (p4 &&& (7 : Int32))), .val (.long hi), .second, .val (.ref a39), .val (.int (0 : Int32))] [(.double (FP.l2d hi)), (.ref a39)])) rfl (by rw [hml]; rfl) (Steps.refl _) (argsL := [(.double (FP.l2d hi))]) (rest := []) (lenOf pd_oDcZ rfl) rfl (by show 2 * 0 + _ ≤ _; exact Nat.le_of_eq rfl) (hb hby at_149) (fun _ _ => ⟨rfl, e52, (by decide : 3 + 0 ≤ _), (by decide : 11 + 0 ≤ _)⟩)
        dsimp only [Pt.U, Pt.locs, Pt.cells, Pt.slots] at X58 l58 y58 z58 st58 hQ58
        subst l58 y58 z58
        obtain ⟨rfl, N58a, eh58⟩ := hQ58
        have N58 := Fr.app N52 N58a
        have e58 : T58.heap = T52.heap := eh58
        have cn59 : ∀ t, Steps p.tables e below (T58.setTop (mkF m 152 #[.val (.int p1), .val (.int p2), .val (.int p3), .val (.int p4), .val (.long lo), .second, .val (.long hi), .second, .val (.int (p4 &&& (7 : Int32))), .val (.long hi), .second, .val (.ref a39), .val (.int (0 : Int32))] [(.int (if ¬ hi < lo ∧ ¬ hi < hi then (1 : Int32) else 0))])) t → Steps p.tables e below (s₁.setTop (entryFrame m #[(.int p1), (.int p2), (.int p3), (.int p4)] maxLocals)) t := fun t k => cn57 t (st58.trans k)
        have cn60 : ∀ t, Steps p.tables e below (T58.setTop (mkF m 162 #[.val (.int p1), .val (.int p2), .val (.int p3), .val (.int p4), .val (.long lo), .second, .val (.long hi), .second, .val (.int (p4 &&& (7 : Int32))), .val (.long hi), .second, .val (.ref a39), .val (.int (0 : Int32))] [(.int (1 : Int32))])) t → Steps p.tables e below (s₁.setTop (entryFrame m #[(.int p1), (.int p2), (.int p3), (.int p4)] maxLocals)) t := by
          intro t k
          refine cn59 t ?_
          refine o_iload X58.here hx (hb hby at_152) rfl ?_
          show Steps p.tables e below (T58.setTop (mkF m 154 #[.val (.int p1), .val (.int p2), .val (.int p3), .val (.int p4), .val (.long lo), .second, .val (.long hi), .second, .val (.int (p4 &&& (7 : Int32))), .val (.long hi), .second, .val (.ref a39), .val (.int (0 : Int32))] [(.int (0 : Int32)), (.int (if ¬ hi < lo ∧ ¬ hi < hi then (1 : Int32) else 0))])) _
          refine o_icmpNo X58.here hx (hb hby at_154) (XT.ii_ne_f (by simp [h126_56])) ?_
          refine o_iconstV X58.here hx (1 : Int32) (hb hby at_157) rfl ?_
          show Steps p.tables e below (T58.setTop (mkF m 158 #[.val (.int p1), .val (.int p2), .val (.int p3), .val (.int p4), .val (.long lo), .second, .val (.long hi), .second, .val (.int (p4 &&& (7 : Int32))), .val (.long hi), .second, .val (.ref a39), .val (.int (0 : Int32))] [(.int (1 : Int32))])) _
          refine o_goto X58.here hx (pc' := 162) (hb hby at_158) (by decide) (by decide) ?_
          exact k
        obtain ⟨fs, hr, hrun, hended, hend⟩ := X58.leaveW hS (by rw [e58]; exact (Nat.le_trans hkS K52.1)) (v := some (.int (1 : Int32))) (fun h => by rw [Bd.returns] at h; cases h)
        refine ⟨_, _, cn60 _ ?_, hrun, hended, _, _, rfl, ?_, hend.1, hend.2.1, hend.2.2.1, hend.2.2.2.mono (by decide) (by decide)⟩
        · exact retN X58 hx (t := .boolean) Bd.returns (by simp) (hb hby at_162) hr
        · show Q0 Z p1 p2 p3 p4 h0 n0 _ T58.heap _
          rw [e58]
          exact ⟨rfl, N58⟩
      · -- pc 126 not taken
        have cn61 : ∀ t, Steps p.tables e below (T52.setTop (mkF m 149 #[.val (.int p1), .val (.int p2), .val (.int p3), .val (.int p4), .val (.long lo), .second, .val (.long hi), .second, .val (.int (p4 &&& (7 : Int32))), .val (.long hi), .second, .val (.ref a39), .val (.int (1 : Int32))] [(.double (FP.l2d hi)), (.ref a39)])) t → Steps p.tables e below (s₁.setTop (entryFrame m #[(.int p1), (.int p2), (.int p3), (.int p4)] maxLocals)) t := by
          intro t k
          refine cn55 t ?_
          refine o_ifNo X52.here hx (hb hby at_126) (XT.ll_gt_f h126_56) ?_
          refine o_lload X52.here hx (hb hby at_129) rfl ?_
          refine o_lload X52.here hx (hb hby at_131) rfl ?_
          refine o_lcmp X52.here hx (hb hby at_133) ?_
          show Steps p.tables e below (T52.setTop (mkF m 134 #[.val (.int p1), .val (.int p2), .val (.int p3), .val (.int p4), .val (.long lo), .second, .val (.long hi), .second, .val (.int (p4 &&& (7 : Int32))), .val (.long hi), .second, .val (.ref a39), .unset] [(.int (XT.cmpL hi hi))])) _
          refine o_ifNo X52.here hx (hb hby at_134) (XT.ll_gt_f (own_irr _)) ?_
          refine o_iconstV X52.here hx (1 : Int32) (hb hby at_137) rfl ?_
          show Steps p.tables e below (T52.setTop (mkF m 138 #[.val (.int p1), .val (.int p2), .val (.int p3), .val (.int p4), .val (.long lo), .second, .val (.long hi), .second, .val (.int (p4 &&& (7 : Int32))), .val (.long hi), .second, .val (.ref a39), .unset] [(.int (1 : Int32))])) _
          refine o_goto X52.here hx (pc' := 142) (hb hby at_138) (by decide) (by decide) ?_
          refine o_istore X52.here hx (hb hby at_142) (l' := #[.val (.int p1), .val (.int p2), .val (.int p3), .val (.int p4), .val (.long lo), .second, .val (.long hi), .second, .val (.int (p4 &&& (7 : Int32))), .val (.long hi), .second, .val (.ref a39), .val (.int (1 : Int32))]) rfl ?_
          refine o_aload X52.here hx (hb hby at_144) rfl rfl ?_
          refine o_lload X52.here hx (hb hby at_146) rfl ?_
          refine o_l2dS X52.here hx (hb hby at_148) (v := FP.l2d hi) rfl ?_
          exact k
        obtain ⟨cq62, kq62, q62a, q62b, q62c⟩ := isOf hZ e52 Q52_0
        obtain ⟨_, _, ⟨T62, L62, c62, n62⟩, -, X62, ⟨Lc62, hQ62, l62, y62, z62⟩, st62⟩ := X52.virtualBack hx (y := (⟨"com/example/diotima/diotima/kb/Feature", "holds", "(D)Z"⟩ : MethodName)) (z := (⟨"com/example/diotima/diotima/kb/Feature", "holds", "(D)Z"⟩ : MethodName)) hown (mvT hZ (hw _ (List.mem_of_getElem? (i := 43) rfl))) (mvT hZ (hw _ (List.mem_of_getElem? (i := 44) rfl))) (notFace_of_selects (args := #[]) (mvT hZ (hw _ (List.mem_of_getElem? (i := 46) rfl)))) (mvT hZ (hw _ (List.mem_of_getElem? (i := 46) rfl))) (mvT hZ (hw _ (List.mem_of_getElem? (i := 45) rfl))) (by decide) (backOf (W := 0) (rmH l Z a0 hw [] a39 lo hi hi T52.heap n0 Z52 Q52_1 Q52_2 (own_wide (by rw [h_lo]; exact own_bd_min p1 p2 : OBd 2147483648 lo) (by decide)) (own_wide (by rw [h_hi]; exact own_bd_max p1 p2 : OBd 2147483648 hi) (by decide)) (own_wide (by rw [h_hi]; exact own_bd_max p1 p2 : OBd 2147483648 hi) (by decide))) hZ (hw _ (List.mem_of_getElem? (i := 47) rfl)) (hw _ (List.mem_of_getElem? (i := 9) rfl)) (by decide) (by decide)) q62a q62c (g := (mkF m 149 #[.val (.int p1), .val (.int p2), .val (.int p3), .val (.int p4), .val (.long lo), .second, .val (.long hi), .second, .val (.int (p4 &&& (7 : Int32))), .val (.long hi), .second, .val (.ref a39), .val (.int (1 : Int32))] [(.double (FP.l2d hi)), (.ref a39)])) rfl (by rw [hml]; rfl) (Steps.refl _) (argsL := [(.double (FP.l2d hi))]) (rest := []) (lenOf pd_oDcZ rfl) rfl (by show 2 * 0 + _ ≤ _; exact Nat.le_of_eq rfl) (hb hby at_149) (fun _ _ => ⟨rfl, e52, (by decide : 3 + 0 ≤ _), (by decide : 11 + 0 ≤ _)⟩)
        dsimp only [Pt.U, Pt.locs, Pt.cells, Pt.slots] at X62 l62 y62 z62 st62 hQ62
        subst l62 y62 z62
        obtain ⟨rfl, N62a, eh62⟩ := hQ62
        have N62 := Fr.app N52 N62a
        have e62 : T62.heap = T52.heap := eh62
        have cn63 : ∀ t, Steps p.tables e below (T62.setTop (mkF m 152 #[.val (.int p1), .val (.int p2), .val (.int p3), .val (.int p4), .val (.long lo), .second, .val (.long hi), .second, .val (.int (p4 &&& (7 : Int32))), .val (.long hi), .second, .val (.ref a39), .val (.int (1 : Int32))] [(.int (if ¬ hi < lo ∧ ¬ hi < hi then (1 : Int32) else 0))])) t → Steps p.tables e below (s₁.setTop (entryFrame m #[(.int p1), (.int p2), (.int p3), (.int p4)] maxLocals)) t := fun t k => cn61 t (st62.trans k)
        have cn64 : ∀ t, Steps p.tables e below (T62.setTop (mkF m 162 #[.val (.int p1), .val (.int p2), .val (.int p3), .val (.int p4), .val (.long lo), .second, .val (.long hi), .second, .val (.int (p4 &&& (7 : Int32))), .val (.long hi), .second, .val (.ref a39), .val (.int (1 : Int32))] [(.int (1 : Int32))])) t → Steps p.tables e below (s₁.setTop (entryFrame m #[(.int p1), (.int p2), (.int p3), (.int p4)] maxLocals)) t := by
          intro t k
          refine cn63 t ?_
          refine o_iload X62.here hx (hb hby at_152) rfl ?_
          show Steps p.tables e below (T62.setTop (mkF m 154 #[.val (.int p1), .val (.int p2), .val (.int p3), .val (.int p4), .val (.long lo), .second, .val (.long hi), .second, .val (.int (p4 &&& (7 : Int32))), .val (.long hi), .second, .val (.ref a39), .val (.int (1 : Int32))] [(.int (1 : Int32)), (.int (if ¬ hi < lo ∧ ¬ hi < hi then (1 : Int32) else 0))])) _
          refine o_icmpNo X62.here hx (hb hby at_154) (XT.ii_ne_f (by simp [h126_56])) ?_
          refine o_iconstV X62.here hx (1 : Int32) (hb hby at_157) rfl ?_
          show Steps p.tables e below (T62.setTop (mkF m 158 #[.val (.int p1), .val (.int p2), .val (.int p3), .val (.int p4), .val (.long lo), .second, .val (.long hi), .second, .val (.int (p4 &&& (7 : Int32))), .val (.long hi), .second, .val (.ref a39), .val (.int (1 : Int32))] [(.int (1 : Int32))])) _
          refine o_goto X62.here hx (pc' := 162) (hb hby at_158) (by decide) (by decide) ?_
          exact k
        obtain ⟨fs, hr, hrun, hended, hend⟩ := X62.leaveW hS (by rw [e62]; exact (Nat.le_trans hkS K52.1)) (v := some (.int (1 : Int32))) (fun h => by rw [Bd.returns] at h; cases h)
        refine ⟨_, _, cn64 _ ?_, hrun, hended, _, _, rfl, ?_, hend.1, hend.2.1, hend.2.2.1, hend.2.2.2.mono (by decide) (by decide)⟩
        · exact retN X62 hx (t := .boolean) Bd.returns (by simp) (hb hby at_162) hr
        · show Q0 Z p1 p2 p3 p4 h0 n0 _ T62.heap _
          rw [e62]
          exact ⟨rfl, N62⟩
    · -- pc 40 taken
      have cn65 : ∀ t, Steps p.tables e below (T5.setTop (mkF m 53 #[.val (.int p1), .val (.int p2), .val (.int p3), .val (.int p4), .val (.long lo), .second, .val (.long hi), .second, .val (.int (p4 &&& (7 : Int32))), .unset, .unset, .unset, .unset] [(.int (3 : Int32)), (.int (p4 &&& (7 : Int32)))])) t → Steps p.tables e below (s₁.setTop (entryFrame m #[(.int p1), (.int p2), (.int p3), (.int p4)] maxLocals)) t := by
        intro t k
        refine cn36 t ?_
        refine o_icmpYes X5.here hx (pc' := 50) (hb hby at_40) (XT.ii_ne_t h40_37) (by decide) (by decide) ?_
        refine o_iload X5.here hx (hb hby at_50) rfl ?_
        refine o_iconstV X5.here hx (3 : Int32) (hb hby at_52) rfl ?_
        exact k
      by_cases h53_66 : (p4 &&& (7 : Int32)) = (3 : Int32)
      · -- pc 53 not taken
        have cn67 : ∀ t, Steps p.tables e below (T5.setTop (mkF m 104 #[.val (.int p1), .val (.int p2), .val (.int p3), .val (.int p4), .val (.long lo), .second, .val (.long hi), .second, .val (.int (p4 &&& (7 : Int32))), .val (.long (lo - (1 : Int64))), .second, .unset, .unset] [])) t → Steps p.tables e below (s₁.setTop (entryFrame m #[(.int p1), (.int p2), (.int p3), (.int p4)] maxLocals)) t := by
          intro t k
          refine cn65 t ?_
          refine o_icmpNo X5.here hx (hb hby at_53) (XT.ii_ne_f h53_66) ?_
          refine o_lload X5.here hx (hb hby at_56) rfl ?_
          refine o_lconstV X5.here hx (1 : Int64) (hb hby at_58) rfl ?_
          refine o_lsub X5.here hx (hb hby at_59) ?_
          refine o_lstore X5.here hx (hb hby at_60) (l' := #[.val (.int p1), .val (.int p2), .val (.int p3), .val (.int p4), .val (.long lo), .second, .val (.long hi), .second, .val (.int (p4 &&& (7 : Int32))), .val (.long (lo - (1 : Int64))), .second, .unset, .unset]) rfl ?_
          show Steps p.tables e below (T5.setTop (mkF m 62 #[.val (.int p1), .val (.int p2), .val (.int p3), .val (.int p4), .val (.long lo), .second, .val (.long hi), .second, .val (.int (p4 &&& (7 : Int32))), .val (.long (lo - (1 : Int64))), .second, .unset, .unset] [])) _
          refine o_goto X5.here hx (pc' := 104) (hb hby at_62) (by decide) (by decide) ?_
          exact k
        obtain ⟨T68, h68, X68, e68, E68, A68, D68, -, st68⟩ := newO X5 hx hZ hown (hw _ (List.mem_of_getElem? (i := 7) rfl)) (hw _ (List.mem_of_getElem? (i := 8) rfl)) (hw _ (List.mem_of_getElem? (i := 9) rfl)) e5 (g := (mkF m 104 #[.val (.int p1), .val (.int p2), .val (.int p3), .val (.int p4), .val (.long lo), .second, .val (.long hi), .second, .val (.int (p4 &&& (7 : Int32))), .val (.long (lo - (1 : Int64))), .second, .unset, .unset] [])) rfl (hb hby at_104) (by decide) (by decide)
        obtain ⟨a68, g68⟩ : ∃ z, z = h0.size := ⟨_, rfl⟩
        rw [← g68] at A68 D68 st68
        have Z68 : n0 ≤ h68.size := (Nat.le_trans Z0 E68.1)
        have G68 : n0 ≤ a68 := (Nat.le_trans Z0 (Nat.le_of_eq g68.symm))
        have F69 : Fld Z h68 a68 "com/example/diotima/diotima/kb/Feature" "name" "Ljava/lang/String;" .null := (D68 (Or.inr (hw _ (List.mem_of_getElem? (i := 38) rfl))) (ty := (.object "java/lang/String")) (by decide))
        have F70 : Fld Z h68 a68 "com/example/diotima/diotima/kb/Feature" "low" "D" (.double (0 : UInt64)) := (D68 (Or.inr (hw _ (List.mem_of_getElem? (i := 40) rfl))) (ty := .double) (by decide))
        have F71 : Fld Z h68 a68 "com/example/diotima/diotima/kb/Feature" "high" "D" (.double (0 : UInt64)) := (D68 (Or.inr (hw _ (List.mem_of_getElem? (i := 42) rfl))) (ty := .double) (by decide))
        have cn72 : ∀ t, Steps p.tables e below (T68.setTop (mkF m 107 #[.val (.int p1), .val (.int p2), .val (.int p3), .val (.int p4), .val (.long lo), .second, .val (.long hi), .second, .val (.int (p4 &&& (7 : Int32))), .val (.long (lo - (1 : Int64))), .second, .unset, .unset] [(.ref a68)])) t → Steps p.tables e below (s₁.setTop (entryFrame m #[(.int p1), (.int p2), (.int p3), (.int p4)] maxLocals)) t := fun t k => cn67 t (st68 _ k)
        have cn73 : ∀ t, Steps p.tables e below (T68.setTop (mkF m 108 #[.val (.int p1), .val (.int p2), .val (.int p3), .val (.int p4), .val (.long lo), .second, .val (.long hi), .second, .val (.int (p4 &&& (7 : Int32))), .val (.long (lo - (1 : Int64))), .second, .unset, .unset] [(.ref a68), (.ref a68)])) t → Steps p.tables e below (s₁.setTop (entryFrame m #[(.int p1), (.int p2), (.int p3), (.int p4)] maxLocals)) t := by
          intro t k
          refine cn72 t ?_
          refine o_dup X68.here hx (hb hby at_107) rfl ?_
          exact k
        obtain ⟨a74, T74, h74, ks74, X74, e74, E74, hS, hkS, hZ, hown, st74⟩ := ldcS X68 hx hZ hown (hw _ (List.mem_of_getElem? (i := 10) rfl)) (fun d hd => hw d (own_strAtoms d hd)) e68 hS (Nat.le_trans hkS E68.1) (g := (mkF m 108 #[.val (.int p1), .val (.int p2), .val (.int p3), .val (.int p4), .val (.long lo), .second, .val (.long hi), .second, .val (.int (p4 &&& (7 : Int32))), .val (.long (lo - (1 : Int64))), .second, .unset, .unset] [(.ref a68), (.ref a68)])) rfl (hb hby at_108) (n := 4) (by decide) (by decide) (by decide) (by decide)
        have Z74 : n0 ≤ h74.size := (Nat.le_trans Z68 E74.1)
        have E75 : Exa Z h74 a68 "com/example/diotima/diotima/kb/Feature" := (Exa.ext E74 A68)
        have F76 : Fld Z h74 a68 "com/example/diotima/diotima/kb/Feature" "name" "Ljava/lang/String;" .null := (Fld.ext E74 F69)
        have F77 : Fld Z h74 a68 "com/example/diotima/diotima/kb/Feature" "low" "D" (.double (0 : UInt64)) := (Fld.ext E74 F70)
        have F78 : Fld Z h74 a68 "com/example/diotima/diotima/kb/Feature" "high" "D" (.double (0 : UInt64)) := (Fld.ext E74 F71)
        have cn79 : ∀ t, Steps p.tables e below (T74.setTop (mkF m 110 #[.val (.int p1), .val (.int p2), .val (.int p3), .val (.int p4), .val (.long lo), .second, .val (.long hi), .second, .val (.int (p4 &&& (7 : Int32))), .val (.long (lo - (1 : Int64))), .second, .unset, .unset] [(.ref a74), (.ref a68), (.ref a68)])) t → Steps p.tables e below (s₁.setTop (entryFrame m #[(.int p1), (.int p2), (.int p3), (.int p4)] maxLocals)) t := fun t k => cn73 t (st74 _ k)
        have cn80 : ∀ t, Steps p.tables e below (T74.setTop (mkF m 116 #[.val (.int p1), .val (.int p2), .val (.int p3), .val (.int p4), .val (.long lo), .second, .val (.long hi), .second, .val (.int (p4 &&& (7 : Int32))), .val (.long (lo - (1 : Int64))), .second, .unset, .unset] [(.double (FP.l2d hi)), (.double (FP.l2d lo)), (.ref a74), (.ref a68), (.ref a68)])) t → Steps p.tables e below (s₁.setTop (entryFrame m #[(.int p1), (.int p2), (.int p3), (.int p4)] maxLocals)) t := by
          intro t k
          refine cn79 t ?_
          refine o_lload X74.here hx (hb hby at_110) rfl ?_
          refine o_l2dS X74.here hx (hb hby at_112) (v := FP.l2d lo) rfl ?_
          refine o_lload X74.here hx (hb hby at_113) rfl ?_
          refine o_l2dS X74.here hx (hb hby at_115) (v := FP.l2d hi) rfl ?_
          exact k
        obtain ⟨_, _, ⟨T81, L81, c81, n81⟩, -, X81, ⟨Lc81, hQ81, l81, y81, z81⟩, st81⟩ := X74.specialBack hx (y := (⟨"com/example/diotima/diotima/kb/Feature", "<init>", "(Ljava/lang/String;DD)V"⟩ : MethodName)) rfl hown (mvT hZ (hw _ (List.mem_of_getElem? (i := 18) rfl))) (mvT hZ (hw _ (List.mem_of_getElem? (i := 19) rfl))) (mvT hZ (hw _ (List.mem_of_getElem? (i := 20) rfl))) (by decide) (backOf (W := 1) (rmC l Z a0 hw [] a68 a74 lo hi h74 n0 Z74 E75 G68 F76 F77 F78 (own_wide (by rw [h_lo]; exact own_bd_min p1 p2 : OBd 2147483648 lo) (by decide)) (own_wide (by rw [h_hi]; exact own_bd_max p1 p2 : OBd 2147483648 hi) (by decide)) (by rw [h_lo, h_hi]; exact own_min_max _ _)) hZ (hw _ (List.mem_of_getElem? (i := 20) rfl)) (hw _ (List.mem_of_getElem? (i := 9) rfl)) (by decide) (by decide)) (g := (mkF m 116 #[.val (.int p1), .val (.int p2), .val (.int p3), .val (.int p4), .val (.long lo), .second, .val (.long hi), .second, .val (.int (p4 &&& (7 : Int32))), .val (.long (lo - (1 : Int64))), .second, .unset, .unset] [(.double (FP.l2d hi)), (.double (FP.l2d lo)), (.ref a74), (.ref a68), (.ref a68)])) rfl (by rw [hml]; rfl) (Steps.refl _) (a := a68) (argsL := [(.ref a74), (.double (FP.l2d lo)), (.double (FP.l2d hi))]) (rest := [(.ref a68)]) (lenOf pd_oLjava_lang_StringsDDcV rfl) rfl (by show 2 * 0 + _ ≤ _; exact Nat.le_of_eq rfl) (hb hby at_116) (fun _ _ => ⟨rfl, e74, (by decide : 3 + 0 ≤ _), (by decide : 11 + 0 ≤ _)⟩)
        dsimp only [Pt.U, Pt.locs, Pt.cells, Pt.slots] at X81 l81 y81 z81 st81 hQ81
        subst l81 y81 z81
        obtain ⟨rfl, N81a, K81, Q81_0, Q81_1, Q81_2⟩ := hQ81
        have N81 := Fr.app N5 N81a
        have e81 : T81.heap = T81.heap := rfl
        have Z81 : n0 ≤ T81.heap.size := (Nat.le_trans Z74 K81.1)
        have E82 : Exa Z T81.heap a68 "com/example/diotima/diotima/kb/Feature" := (E75.keep K81)
        have cn83 : ∀ t, Steps p.tables e below (T81.setTop (mkF m 119 #[.val (.int p1), .val (.int p2), .val (.int p3), .val (.int p4), .val (.long lo), .second, .val (.long hi), .second, .val (.int (p4 &&& (7 : Int32))), .val (.long (lo - (1 : Int64))), .second, .unset, .unset] [(.ref a68)])) t → Steps p.tables e below (s₁.setTop (entryFrame m #[(.int p1), (.int p2), (.int p3), (.int p4)] maxLocals)) t := fun t k => cn80 t (st81.trans k)
        have cn84 : ∀ t, Steps p.tables e below (T81.setTop (mkF m 126 #[.val (.int p1), .val (.int p2), .val (.int p3), .val (.int p4), .val (.long lo), .second, .val (.long hi), .second, .val (.int (p4 &&& (7 : Int32))), .val (.long (lo - (1 : Int64))), .second, .val (.ref a68), .unset] [(.int (XT.cmpL lo (lo - (1 : Int64))))])) t → Steps p.tables e below (s₁.setTop (entryFrame m #[(.int p1), (.int p2), (.int p3), (.int p4)] maxLocals)) t := by
          intro t k
          refine cn83 t ?_
          refine o_astore X81.here hx (hb hby at_119) rfl (l' := #[.val (.int p1), .val (.int p2), .val (.int p3), .val (.int p4), .val (.long lo), .second, .val (.long hi), .second, .val (.int (p4 &&& (7 : Int32))), .val (.long (lo - (1 : Int64))), .second, .val (.ref a68), .unset]) rfl ?_
          refine o_lload X81.here hx (hb hby at_121) rfl ?_
          refine o_lload X81.here hx (hb hby at_123) rfl ?_
          refine o_lcmp X81.here hx (hb hby at_125) ?_
          exact k
        by_cases h126_85 : (lo - (1 : Int64)) < lo
        · -- pc 126 taken
          have cn86 : ∀ t, Steps p.tables e below (T81.setTop (mkF m 149 #[.val (.int p1), .val (.int p2), .val (.int p3), .val (.int p4), .val (.long lo), .second, .val (.long hi), .second, .val (.int (p4 &&& (7 : Int32))), .val (.long (lo - (1 : Int64))), .second, .val (.ref a68), .val (.int (0 : Int32))] [(.double (FP.l2d (lo - (1 : Int64)))), (.ref a68)])) t → Steps p.tables e below (s₁.setTop (entryFrame m #[(.int p1), (.int p2), (.int p3), (.int p4)] maxLocals)) t := by
            intro t k
            refine cn84 t ?_
            refine o_ifYes X81.here hx (pc' := 141) (hb hby at_126) (XT.ll_gt_t h126_85) (by decide) (by decide) ?_
            refine o_iconstV X81.here hx (0 : Int32) (hb hby at_141) rfl ?_
            refine o_istore X81.here hx (hb hby at_142) (l' := #[.val (.int p1), .val (.int p2), .val (.int p3), .val (.int p4), .val (.long lo), .second, .val (.long hi), .second, .val (.int (p4 &&& (7 : Int32))), .val (.long (lo - (1 : Int64))), .second, .val (.ref a68), .val (.int (0 : Int32))]) rfl ?_
            refine o_aload X81.here hx (hb hby at_144) rfl rfl ?_
            refine o_lload X81.here hx (hb hby at_146) rfl ?_
            refine o_l2dS X81.here hx (hb hby at_148) (v := FP.l2d (lo - (1 : Int64))) rfl ?_
            exact k
          obtain ⟨cq87, kq87, q87a, q87b, q87c⟩ := isOf hZ e81 Q81_0
          obtain ⟨_, _, ⟨T87, L87, c87, n87⟩, -, X87, ⟨Lc87, hQ87, l87, y87, z87⟩, st87⟩ := X81.virtualBack hx (y := (⟨"com/example/diotima/diotima/kb/Feature", "holds", "(D)Z"⟩ : MethodName)) (z := (⟨"com/example/diotima/diotima/kb/Feature", "holds", "(D)Z"⟩ : MethodName)) hown (mvT hZ (hw _ (List.mem_of_getElem? (i := 43) rfl))) (mvT hZ (hw _ (List.mem_of_getElem? (i := 44) rfl))) (notFace_of_selects (args := #[]) (mvT hZ (hw _ (List.mem_of_getElem? (i := 46) rfl)))) (mvT hZ (hw _ (List.mem_of_getElem? (i := 46) rfl))) (mvT hZ (hw _ (List.mem_of_getElem? (i := 45) rfl))) (by decide) (backOf (W := 0) (rmH l Z a0 hw [] a68 lo hi (lo - (1 : Int64)) T81.heap n0 Z81 Q81_1 Q81_2 (own_wide (by rw [h_lo]; exact own_bd_min p1 p2 : OBd 2147483648 lo) (by decide)) (own_wide (by rw [h_hi]; exact own_bd_max p1 p2 : OBd 2147483648 hi) (by decide)) (own_wide (own_bd_sub (by rw [h_lo]; exact own_bd_min p1 p2 : OBd 2147483648 lo) own_bd_lit1 (by decide)) (by decide))) hZ (hw _ (List.mem_of_getElem? (i := 47) rfl)) (hw _ (List.mem_of_getElem? (i := 9) rfl)) (by decide) (by decide)) q87a q87c (g := (mkF m 149 #[.val (.int p1), .val (.int p2), .val (.int p3), .val (.int p4), .val (.long lo), .second, .val (.long hi), .second, .val (.int (p4 &&& (7 : Int32))), .val (.long (lo - (1 : Int64))), .second, .val (.ref a68), .val (.int (0 : Int32))] [(.double (FP.l2d (lo - (1 : Int64)))), (.ref a68)])) rfl (by rw [hml]; rfl) (Steps.refl _) (argsL := [(.double (FP.l2d (lo - (1 : Int64))))]) (rest := []) (lenOf pd_oDcZ rfl) rfl (by show 2 * 0 + _ ≤ _; exact Nat.le_of_eq rfl) (hb hby at_149) (fun _ _ => ⟨rfl, e81, (by decide : 3 + 0 ≤ _), (by decide : 11 + 0 ≤ _)⟩)
          dsimp only [Pt.U, Pt.locs, Pt.cells, Pt.slots] at X87 l87 y87 z87 st87 hQ87
          subst l87 y87 z87
          obtain ⟨rfl, N87a, eh87⟩ := hQ87
          have N87 := Fr.app N81 N87a
          have e87 : T87.heap = T81.heap := eh87
          have cn88 : ∀ t, Steps p.tables e below (T87.setTop (mkF m 152 #[.val (.int p1), .val (.int p2), .val (.int p3), .val (.int p4), .val (.long lo), .second, .val (.long hi), .second, .val (.int (p4 &&& (7 : Int32))), .val (.long (lo - (1 : Int64))), .second, .val (.ref a68), .val (.int (0 : Int32))] [(.int (if ¬ (lo - (1 : Int64)) < lo ∧ ¬ hi < (lo - (1 : Int64)) then (1 : Int32) else 0))])) t → Steps p.tables e below (s₁.setTop (entryFrame m #[(.int p1), (.int p2), (.int p3), (.int p4)] maxLocals)) t := fun t k => cn86 t (st87.trans k)
          have cn89 : ∀ t, Steps p.tables e below (T87.setTop (mkF m 162 #[.val (.int p1), .val (.int p2), .val (.int p3), .val (.int p4), .val (.long lo), .second, .val (.long hi), .second, .val (.int (p4 &&& (7 : Int32))), .val (.long (lo - (1 : Int64))), .second, .val (.ref a68), .val (.int (0 : Int32))] [(.int (1 : Int32))])) t → Steps p.tables e below (s₁.setTop (entryFrame m #[(.int p1), (.int p2), (.int p3), (.int p4)] maxLocals)) t := by
            intro t k
            refine cn88 t ?_
            refine o_iload X87.here hx (hb hby at_152) rfl ?_
            show Steps p.tables e below (T87.setTop (mkF m 154 #[.val (.int p1), .val (.int p2), .val (.int p3), .val (.int p4), .val (.long lo), .second, .val (.long hi), .second, .val (.int (p4 &&& (7 : Int32))), .val (.long (lo - (1 : Int64))), .second, .val (.ref a68), .val (.int (0 : Int32))] [(.int (0 : Int32)), (.int (if ¬ (lo - (1 : Int64)) < lo ∧ ¬ hi < (lo - (1 : Int64)) then (1 : Int32) else 0))])) _
            refine o_icmpNo X87.here hx (hb hby at_154) (XT.ii_ne_f (by simp [h126_85])) ?_
            refine o_iconstV X87.here hx (1 : Int32) (hb hby at_157) rfl ?_
            show Steps p.tables e below (T87.setTop (mkF m 158 #[.val (.int p1), .val (.int p2), .val (.int p3), .val (.int p4), .val (.long lo), .second, .val (.long hi), .second, .val (.int (p4 &&& (7 : Int32))), .val (.long (lo - (1 : Int64))), .second, .val (.ref a68), .val (.int (0 : Int32))] [(.int (1 : Int32))])) _
            refine o_goto X87.here hx (pc' := 162) (hb hby at_158) (by decide) (by decide) ?_
            exact k
          obtain ⟨fs, hr, hrun, hended, hend⟩ := X87.leaveW hS (by rw [e87]; exact (Nat.le_trans hkS K81.1)) (v := some (.int (1 : Int32))) (fun h => by rw [Bd.returns] at h; cases h)
          refine ⟨_, _, cn89 _ ?_, hrun, hended, _, _, rfl, ?_, hend.1, hend.2.1, hend.2.2.1, hend.2.2.2.mono (by decide) (by decide)⟩
          · exact retN X87 hx (t := .boolean) Bd.returns (by simp) (hb hby at_162) hr
          · show Q0 Z p1 p2 p3 p4 h0 n0 _ T87.heap _
            rw [e87]
            exact ⟨rfl, N87⟩
        · -- pc 126 not taken
          have cn90 : ∀ t, Steps p.tables e below (T81.setTop (mkF m 134 #[.val (.int p1), .val (.int p2), .val (.int p3), .val (.int p4), .val (.long lo), .second, .val (.long hi), .second, .val (.int (p4 &&& (7 : Int32))), .val (.long (lo - (1 : Int64))), .second, .val (.ref a68), .unset] [(.int (XT.cmpL (lo - (1 : Int64)) hi))])) t → Steps p.tables e below (s₁.setTop (entryFrame m #[(.int p1), (.int p2), (.int p3), (.int p4)] maxLocals)) t := by
            intro t k
            refine cn84 t ?_
            refine o_ifNo X81.here hx (hb hby at_126) (XT.ll_gt_f h126_85) ?_
            refine o_lload X81.here hx (hb hby at_129) rfl ?_
            refine o_lload X81.here hx (hb hby at_131) rfl ?_
            refine o_lcmp X81.here hx (hb hby at_133) ?_
            exact k
          by_cases h134_91 : hi < (lo - (1 : Int64))
          · -- pc 134 taken
            have cn92 : ∀ t, Steps p.tables e below (T81.setTop (mkF m 149 #[.val (.int p1), .val (.int p2), .val (.int p3), .val (.int p4), .val (.long lo), .second, .val (.long hi), .second, .val (.int (p4 &&& (7 : Int32))), .val (.long (lo - (1 : Int64))), .second, .val (.ref a68), .val (.int (0 : Int32))] [(.double (FP.l2d (lo - (1 : Int64)))), (.ref a68)])) t → Steps p.tables e below (s₁.setTop (entryFrame m #[(.int p1), (.int p2), (.int p3), (.int p4)] maxLocals)) t := by
              intro t k
              refine cn90 t ?_
              refine o_ifYes X81.here hx (pc' := 141) (hb hby at_134) (XT.ll_gt_t h134_91) (by decide) (by decide) ?_
              refine o_iconstV X81.here hx (0 : Int32) (hb hby at_141) rfl ?_
              refine o_istore X81.here hx (hb hby at_142) (l' := #[.val (.int p1), .val (.int p2), .val (.int p3), .val (.int p4), .val (.long lo), .second, .val (.long hi), .second, .val (.int (p4 &&& (7 : Int32))), .val (.long (lo - (1 : Int64))), .second, .val (.ref a68), .val (.int (0 : Int32))]) rfl ?_
              refine o_aload X81.here hx (hb hby at_144) rfl rfl ?_
              refine o_lload X81.here hx (hb hby at_146) rfl ?_
              refine o_l2dS X81.here hx (hb hby at_148) (v := FP.l2d (lo - (1 : Int64))) rfl ?_
              exact k
            obtain ⟨cq93, kq93, q93a, q93b, q93c⟩ := isOf hZ e81 Q81_0
            obtain ⟨_, _, ⟨T93, L93, c93, n93⟩, -, X93, ⟨Lc93, hQ93, l93, y93, z93⟩, st93⟩ := X81.virtualBack hx (y := (⟨"com/example/diotima/diotima/kb/Feature", "holds", "(D)Z"⟩ : MethodName)) (z := (⟨"com/example/diotima/diotima/kb/Feature", "holds", "(D)Z"⟩ : MethodName)) hown (mvT hZ (hw _ (List.mem_of_getElem? (i := 43) rfl))) (mvT hZ (hw _ (List.mem_of_getElem? (i := 44) rfl))) (notFace_of_selects (args := #[]) (mvT hZ (hw _ (List.mem_of_getElem? (i := 46) rfl)))) (mvT hZ (hw _ (List.mem_of_getElem? (i := 46) rfl))) (mvT hZ (hw _ (List.mem_of_getElem? (i := 45) rfl))) (by decide) (backOf (W := 0) (rmH l Z a0 hw [] a68 lo hi (lo - (1 : Int64)) T81.heap n0 Z81 Q81_1 Q81_2 (own_wide (by rw [h_lo]; exact own_bd_min p1 p2 : OBd 2147483648 lo) (by decide)) (own_wide (by rw [h_hi]; exact own_bd_max p1 p2 : OBd 2147483648 hi) (by decide)) (own_wide (own_bd_sub (by rw [h_lo]; exact own_bd_min p1 p2 : OBd 2147483648 lo) own_bd_lit1 (by decide)) (by decide))) hZ (hw _ (List.mem_of_getElem? (i := 47) rfl)) (hw _ (List.mem_of_getElem? (i := 9) rfl)) (by decide) (by decide)) q93a q93c (g := (mkF m 149 #[.val (.int p1), .val (.int p2), .val (.int p3), .val (.int p4), .val (.long lo), .second, .val (.long hi), .second, .val (.int (p4 &&& (7 : Int32))), .val (.long (lo - (1 : Int64))), .second, .val (.ref a68), .val (.int (0 : Int32))] [(.double (FP.l2d (lo - (1 : Int64)))), (.ref a68)])) rfl (by rw [hml]; rfl) (Steps.refl _) (argsL := [(.double (FP.l2d (lo - (1 : Int64))))]) (rest := []) (lenOf pd_oDcZ rfl) rfl (by show 2 * 0 + _ ≤ _; exact Nat.le_of_eq rfl) (hb hby at_149) (fun _ _ => ⟨rfl, e81, (by decide : 3 + 0 ≤ _), (by decide : 11 + 0 ≤ _)⟩)
            dsimp only [Pt.U, Pt.locs, Pt.cells, Pt.slots] at X93 l93 y93 z93 st93 hQ93
            subst l93 y93 z93
            obtain ⟨rfl, N93a, eh93⟩ := hQ93
            have N93 := Fr.app N81 N93a
            have e93 : T93.heap = T81.heap := eh93
            have cn94 : ∀ t, Steps p.tables e below (T93.setTop (mkF m 152 #[.val (.int p1), .val (.int p2), .val (.int p3), .val (.int p4), .val (.long lo), .second, .val (.long hi), .second, .val (.int (p4 &&& (7 : Int32))), .val (.long (lo - (1 : Int64))), .second, .val (.ref a68), .val (.int (0 : Int32))] [(.int (if ¬ (lo - (1 : Int64)) < lo ∧ ¬ hi < (lo - (1 : Int64)) then (1 : Int32) else 0))])) t → Steps p.tables e below (s₁.setTop (entryFrame m #[(.int p1), (.int p2), (.int p3), (.int p4)] maxLocals)) t := fun t k => cn92 t (st93.trans k)
            have cn95 : ∀ t, Steps p.tables e below (T93.setTop (mkF m 162 #[.val (.int p1), .val (.int p2), .val (.int p3), .val (.int p4), .val (.long lo), .second, .val (.long hi), .second, .val (.int (p4 &&& (7 : Int32))), .val (.long (lo - (1 : Int64))), .second, .val (.ref a68), .val (.int (0 : Int32))] [(.int (1 : Int32))])) t → Steps p.tables e below (s₁.setTop (entryFrame m #[(.int p1), (.int p2), (.int p3), (.int p4)] maxLocals)) t := by
              intro t k
              refine cn94 t ?_
              refine o_iload X93.here hx (hb hby at_152) rfl ?_
              show Steps p.tables e below (T93.setTop (mkF m 154 #[.val (.int p1), .val (.int p2), .val (.int p3), .val (.int p4), .val (.long lo), .second, .val (.long hi), .second, .val (.int (p4 &&& (7 : Int32))), .val (.long (lo - (1 : Int64))), .second, .val (.ref a68), .val (.int (0 : Int32))] [(.int (0 : Int32)), (.int (if ¬ (lo - (1 : Int64)) < lo ∧ ¬ hi < (lo - (1 : Int64)) then (1 : Int32) else 0))])) _
              refine o_icmpNo X93.here hx (hb hby at_154) (XT.ii_ne_f (by simp [h126_85, h134_91])) ?_
              refine o_iconstV X93.here hx (1 : Int32) (hb hby at_157) rfl ?_
              show Steps p.tables e below (T93.setTop (mkF m 158 #[.val (.int p1), .val (.int p2), .val (.int p3), .val (.int p4), .val (.long lo), .second, .val (.long hi), .second, .val (.int (p4 &&& (7 : Int32))), .val (.long (lo - (1 : Int64))), .second, .val (.ref a68), .val (.int (0 : Int32))] [(.int (1 : Int32))])) _
              refine o_goto X93.here hx (pc' := 162) (hb hby at_158) (by decide) (by decide) ?_
              exact k
            obtain ⟨fs, hr, hrun, hended, hend⟩ := X93.leaveW hS (by rw [e93]; exact (Nat.le_trans hkS K81.1)) (v := some (.int (1 : Int32))) (fun h => by rw [Bd.returns] at h; cases h)
            refine ⟨_, _, cn95 _ ?_, hrun, hended, _, _, rfl, ?_, hend.1, hend.2.1, hend.2.2.1, hend.2.2.2.mono (by decide) (by decide)⟩
            · exact retN X93 hx (t := .boolean) Bd.returns (by simp) (hb hby at_162) hr
            · show Q0 Z p1 p2 p3 p4 h0 n0 _ T93.heap _
              rw [e93]
              exact ⟨rfl, N93⟩
          · -- pc 134 not taken
            have cn96 : ∀ t, Steps p.tables e below (T81.setTop (mkF m 149 #[.val (.int p1), .val (.int p2), .val (.int p3), .val (.int p4), .val (.long lo), .second, .val (.long hi), .second, .val (.int (p4 &&& (7 : Int32))), .val (.long (lo - (1 : Int64))), .second, .val (.ref a68), .val (.int (1 : Int32))] [(.double (FP.l2d (lo - (1 : Int64)))), (.ref a68)])) t → Steps p.tables e below (s₁.setTop (entryFrame m #[(.int p1), (.int p2), (.int p3), (.int p4)] maxLocals)) t := by
              intro t k
              refine cn90 t ?_
              refine o_ifNo X81.here hx (hb hby at_134) (XT.ll_gt_f h134_91) ?_
              refine o_iconstV X81.here hx (1 : Int32) (hb hby at_137) rfl ?_
              show Steps p.tables e below (T81.setTop (mkF m 138 #[.val (.int p1), .val (.int p2), .val (.int p3), .val (.int p4), .val (.long lo), .second, .val (.long hi), .second, .val (.int (p4 &&& (7 : Int32))), .val (.long (lo - (1 : Int64))), .second, .val (.ref a68), .unset] [(.int (1 : Int32))])) _
              refine o_goto X81.here hx (pc' := 142) (hb hby at_138) (by decide) (by decide) ?_
              refine o_istore X81.here hx (hb hby at_142) (l' := #[.val (.int p1), .val (.int p2), .val (.int p3), .val (.int p4), .val (.long lo), .second, .val (.long hi), .second, .val (.int (p4 &&& (7 : Int32))), .val (.long (lo - (1 : Int64))), .second, .val (.ref a68), .val (.int (1 : Int32))]) rfl ?_
              refine o_aload X81.here hx (hb hby at_144) rfl rfl ?_
              refine o_lload X81.here hx (hb hby at_146) rfl ?_
              refine o_l2dS X81.here hx (hb hby at_148) (v := FP.l2d (lo - (1 : Int64))) rfl ?_
              exact k
            obtain ⟨cq97, kq97, q97a, q97b, q97c⟩ := isOf hZ e81 Q81_0
            obtain ⟨_, _, ⟨T97, L97, c97, n97⟩, -, X97, ⟨Lc97, hQ97, l97, y97, z97⟩, st97⟩ := X81.virtualBack hx (y := (⟨"com/example/diotima/diotima/kb/Feature", "holds", "(D)Z"⟩ : MethodName)) (z := (⟨"com/example/diotima/diotima/kb/Feature", "holds", "(D)Z"⟩ : MethodName)) hown (mvT hZ (hw _ (List.mem_of_getElem? (i := 43) rfl))) (mvT hZ (hw _ (List.mem_of_getElem? (i := 44) rfl))) (notFace_of_selects (args := #[]) (mvT hZ (hw _ (List.mem_of_getElem? (i := 46) rfl)))) (mvT hZ (hw _ (List.mem_of_getElem? (i := 46) rfl))) (mvT hZ (hw _ (List.mem_of_getElem? (i := 45) rfl))) (by decide) (backOf (W := 0) (rmH l Z a0 hw [] a68 lo hi (lo - (1 : Int64)) T81.heap n0 Z81 Q81_1 Q81_2 (own_wide (by rw [h_lo]; exact own_bd_min p1 p2 : OBd 2147483648 lo) (by decide)) (own_wide (by rw [h_hi]; exact own_bd_max p1 p2 : OBd 2147483648 hi) (by decide)) (own_wide (own_bd_sub (by rw [h_lo]; exact own_bd_min p1 p2 : OBd 2147483648 lo) own_bd_lit1 (by decide)) (by decide))) hZ (hw _ (List.mem_of_getElem? (i := 47) rfl)) (hw _ (List.mem_of_getElem? (i := 9) rfl)) (by decide) (by decide)) q97a q97c (g := (mkF m 149 #[.val (.int p1), .val (.int p2), .val (.int p3), .val (.int p4), .val (.long lo), .second, .val (.long hi), .second, .val (.int (p4 &&& (7 : Int32))), .val (.long (lo - (1 : Int64))), .second, .val (.ref a68), .val (.int (1 : Int32))] [(.double (FP.l2d (lo - (1 : Int64)))), (.ref a68)])) rfl (by rw [hml]; rfl) (Steps.refl _) (argsL := [(.double (FP.l2d (lo - (1 : Int64))))]) (rest := []) (lenOf pd_oDcZ rfl) rfl (by show 2 * 0 + _ ≤ _; exact Nat.le_of_eq rfl) (hb hby at_149) (fun _ _ => ⟨rfl, e81, (by decide : 3 + 0 ≤ _), (by decide : 11 + 0 ≤ _)⟩)
            dsimp only [Pt.U, Pt.locs, Pt.cells, Pt.slots] at X97 l97 y97 z97 st97 hQ97
            subst l97 y97 z97
            obtain ⟨rfl, N97a, eh97⟩ := hQ97
            have N97 := Fr.app N81 N97a
            have e97 : T97.heap = T81.heap := eh97
            have cn98 : ∀ t, Steps p.tables e below (T97.setTop (mkF m 152 #[.val (.int p1), .val (.int p2), .val (.int p3), .val (.int p4), .val (.long lo), .second, .val (.long hi), .second, .val (.int (p4 &&& (7 : Int32))), .val (.long (lo - (1 : Int64))), .second, .val (.ref a68), .val (.int (1 : Int32))] [(.int (if ¬ (lo - (1 : Int64)) < lo ∧ ¬ hi < (lo - (1 : Int64)) then (1 : Int32) else 0))])) t → Steps p.tables e below (s₁.setTop (entryFrame m #[(.int p1), (.int p2), (.int p3), (.int p4)] maxLocals)) t := fun t k => cn96 t (st97.trans k)
            have cn99 : ∀ t, Steps p.tables e below (T97.setTop (mkF m 162 #[.val (.int p1), .val (.int p2), .val (.int p3), .val (.int p4), .val (.long lo), .second, .val (.long hi), .second, .val (.int (p4 &&& (7 : Int32))), .val (.long (lo - (1 : Int64))), .second, .val (.ref a68), .val (.int (1 : Int32))] [(.int (1 : Int32))])) t → Steps p.tables e below (s₁.setTop (entryFrame m #[(.int p1), (.int p2), (.int p3), (.int p4)] maxLocals)) t := by
              intro t k
              refine cn98 t ?_
              refine o_iload X97.here hx (hb hby at_152) rfl ?_
              show Steps p.tables e below (T97.setTop (mkF m 154 #[.val (.int p1), .val (.int p2), .val (.int p3), .val (.int p4), .val (.long lo), .second, .val (.long hi), .second, .val (.int (p4 &&& (7 : Int32))), .val (.long (lo - (1 : Int64))), .second, .val (.ref a68), .val (.int (1 : Int32))] [(.int (1 : Int32)), (.int (if ¬ (lo - (1 : Int64)) < lo ∧ ¬ hi < (lo - (1 : Int64)) then (1 : Int32) else 0))])) _
              refine o_icmpNo X97.here hx (hb hby at_154) (XT.ii_ne_f (by simp [h126_85, h134_91])) ?_
              refine o_iconstV X97.here hx (1 : Int32) (hb hby at_157) rfl ?_
              show Steps p.tables e below (T97.setTop (mkF m 158 #[.val (.int p1), .val (.int p2), .val (.int p3), .val (.int p4), .val (.long lo), .second, .val (.long hi), .second, .val (.int (p4 &&& (7 : Int32))), .val (.long (lo - (1 : Int64))), .second, .val (.ref a68), .val (.int (1 : Int32))] [(.int (1 : Int32))])) _
              refine o_goto X97.here hx (pc' := 162) (hb hby at_158) (by decide) (by decide) ?_
              exact k
            obtain ⟨fs, hr, hrun, hended, hend⟩ := X97.leaveW hS (by rw [e97]; exact (Nat.le_trans hkS K81.1)) (v := some (.int (1 : Int32))) (fun h => by rw [Bd.returns] at h; cases h)
            refine ⟨_, _, cn99 _ ?_, hrun, hended, _, _, rfl, ?_, hend.1, hend.2.1, hend.2.2.1, hend.2.2.2.mono (by decide) (by decide)⟩
            · exact retN X97 hx (t := .boolean) Bd.returns (by simp) (hb hby at_162) hr
            · show Q0 Z p1 p2 p3 p4 h0 n0 _ T97.heap _
              rw [e97]
              exact ⟨rfl, N97⟩
      · -- pc 53 taken
        have cn100 : ∀ t, Steps p.tables e below (T5.setTop (mkF m 68 #[.val (.int p1), .val (.int p2), .val (.int p3), .val (.int p4), .val (.long lo), .second, .val (.long hi), .second, .val (.int (p4 &&& (7 : Int32))), .unset, .unset, .unset, .unset] [(.int (4 : Int32)), (.int (p4 &&& (7 : Int32)))])) t → Steps p.tables e below (s₁.setTop (entryFrame m #[(.int p1), (.int p2), (.int p3), (.int p4)] maxLocals)) t := by
          intro t k
          refine cn65 t ?_
          refine o_icmpYes X5.here hx (pc' := 65) (hb hby at_53) (XT.ii_ne_t h53_66) (by decide) (by decide) ?_
          refine o_iload X5.here hx (hb hby at_65) rfl ?_
          refine o_iconstV X5.here hx (4 : Int32) (hb hby at_67) rfl ?_
          exact k
        by_cases h68_101 : (p4 &&& (7 : Int32)) = (4 : Int32)
        · -- pc 68 not taken
          have cn102 : ∀ t, Steps p.tables e below (T5.setTop (mkF m 104 #[.val (.int p1), .val (.int p2), .val (.int p3), .val (.int p4), .val (.long lo), .second, .val (.long hi), .second, .val (.int (p4 &&& (7 : Int32))), .val (.long (hi + (1 : Int64))), .second, .unset, .unset] [])) t → Steps p.tables e below (s₁.setTop (entryFrame m #[(.int p1), (.int p2), (.int p3), (.int p4)] maxLocals)) t := by
            intro t k
            refine cn100 t ?_
            refine o_icmpNo X5.here hx (hb hby at_68) (XT.ii_ne_f h68_101) ?_
            refine o_lload X5.here hx (hb hby at_71) rfl ?_
            refine o_lconstV X5.here hx (1 : Int64) (hb hby at_73) rfl ?_
            refine o_ladd X5.here hx (hb hby at_74) ?_
            refine o_lstore X5.here hx (hb hby at_75) (l' := #[.val (.int p1), .val (.int p2), .val (.int p3), .val (.int p4), .val (.long lo), .second, .val (.long hi), .second, .val (.int (p4 &&& (7 : Int32))), .val (.long (hi + (1 : Int64))), .second, .unset, .unset]) rfl ?_
            show Steps p.tables e below (T5.setTop (mkF m 77 #[.val (.int p1), .val (.int p2), .val (.int p3), .val (.int p4), .val (.long lo), .second, .val (.long hi), .second, .val (.int (p4 &&& (7 : Int32))), .val (.long (hi + (1 : Int64))), .second, .unset, .unset] [])) _
            refine o_goto X5.here hx (pc' := 104) (hb hby at_77) (by decide) (by decide) ?_
            exact k
          obtain ⟨T103, h103, X103, e103, E103, A103, D103, -, st103⟩ := newO X5 hx hZ hown (hw _ (List.mem_of_getElem? (i := 7) rfl)) (hw _ (List.mem_of_getElem? (i := 8) rfl)) (hw _ (List.mem_of_getElem? (i := 9) rfl)) e5 (g := (mkF m 104 #[.val (.int p1), .val (.int p2), .val (.int p3), .val (.int p4), .val (.long lo), .second, .val (.long hi), .second, .val (.int (p4 &&& (7 : Int32))), .val (.long (hi + (1 : Int64))), .second, .unset, .unset] [])) rfl (hb hby at_104) (by decide) (by decide)
          obtain ⟨a103, g103⟩ : ∃ z, z = h0.size := ⟨_, rfl⟩
          rw [← g103] at A103 D103 st103
          have Z103 : n0 ≤ h103.size := (Nat.le_trans Z0 E103.1)
          have G103 : n0 ≤ a103 := (Nat.le_trans Z0 (Nat.le_of_eq g103.symm))
          have F104 : Fld Z h103 a103 "com/example/diotima/diotima/kb/Feature" "name" "Ljava/lang/String;" .null := (D103 (Or.inr (hw _ (List.mem_of_getElem? (i := 38) rfl))) (ty := (.object "java/lang/String")) (by decide))
          have F105 : Fld Z h103 a103 "com/example/diotima/diotima/kb/Feature" "low" "D" (.double (0 : UInt64)) := (D103 (Or.inr (hw _ (List.mem_of_getElem? (i := 40) rfl))) (ty := .double) (by decide))
          have F106 : Fld Z h103 a103 "com/example/diotima/diotima/kb/Feature" "high" "D" (.double (0 : UInt64)) := (D103 (Or.inr (hw _ (List.mem_of_getElem? (i := 42) rfl))) (ty := .double) (by decide))
          have cn107 : ∀ t, Steps p.tables e below (T103.setTop (mkF m 107 #[.val (.int p1), .val (.int p2), .val (.int p3), .val (.int p4), .val (.long lo), .second, .val (.long hi), .second, .val (.int (p4 &&& (7 : Int32))), .val (.long (hi + (1 : Int64))), .second, .unset, .unset] [(.ref a103)])) t → Steps p.tables e below (s₁.setTop (entryFrame m #[(.int p1), (.int p2), (.int p3), (.int p4)] maxLocals)) t := fun t k => cn102 t (st103 _ k)
          have cn108 : ∀ t, Steps p.tables e below (T103.setTop (mkF m 108 #[.val (.int p1), .val (.int p2), .val (.int p3), .val (.int p4), .val (.long lo), .second, .val (.long hi), .second, .val (.int (p4 &&& (7 : Int32))), .val (.long (hi + (1 : Int64))), .second, .unset, .unset] [(.ref a103), (.ref a103)])) t → Steps p.tables e below (s₁.setTop (entryFrame m #[(.int p1), (.int p2), (.int p3), (.int p4)] maxLocals)) t := by
            intro t k
            refine cn107 t ?_
            refine o_dup X103.here hx (hb hby at_107) rfl ?_
            exact k
          obtain ⟨a109, T109, h109, ks109, X109, e109, E109, hS, hkS, hZ, hown, st109⟩ := ldcS X103 hx hZ hown (hw _ (List.mem_of_getElem? (i := 10) rfl)) (fun d hd => hw d (own_strAtoms d hd)) e103 hS (Nat.le_trans hkS E103.1) (g := (mkF m 108 #[.val (.int p1), .val (.int p2), .val (.int p3), .val (.int p4), .val (.long lo), .second, .val (.long hi), .second, .val (.int (p4 &&& (7 : Int32))), .val (.long (hi + (1 : Int64))), .second, .unset, .unset] [(.ref a103), (.ref a103)])) rfl (hb hby at_108) (n := 4) (by decide) (by decide) (by decide) (by decide)
          have Z109 : n0 ≤ h109.size := (Nat.le_trans Z103 E109.1)
          have E110 : Exa Z h109 a103 "com/example/diotima/diotima/kb/Feature" := (Exa.ext E109 A103)
          have F111 : Fld Z h109 a103 "com/example/diotima/diotima/kb/Feature" "name" "Ljava/lang/String;" .null := (Fld.ext E109 F104)
          have F112 : Fld Z h109 a103 "com/example/diotima/diotima/kb/Feature" "low" "D" (.double (0 : UInt64)) := (Fld.ext E109 F105)
          have F113 : Fld Z h109 a103 "com/example/diotima/diotima/kb/Feature" "high" "D" (.double (0 : UInt64)) := (Fld.ext E109 F106)
          have cn114 : ∀ t, Steps p.tables e below (T109.setTop (mkF m 110 #[.val (.int p1), .val (.int p2), .val (.int p3), .val (.int p4), .val (.long lo), .second, .val (.long hi), .second, .val (.int (p4 &&& (7 : Int32))), .val (.long (hi + (1 : Int64))), .second, .unset, .unset] [(.ref a109), (.ref a103), (.ref a103)])) t → Steps p.tables e below (s₁.setTop (entryFrame m #[(.int p1), (.int p2), (.int p3), (.int p4)] maxLocals)) t := fun t k => cn108 t (st109 _ k)
          have cn115 : ∀ t, Steps p.tables e below (T109.setTop (mkF m 116 #[.val (.int p1), .val (.int p2), .val (.int p3), .val (.int p4), .val (.long lo), .second, .val (.long hi), .second, .val (.int (p4 &&& (7 : Int32))), .val (.long (hi + (1 : Int64))), .second, .unset, .unset] [(.double (FP.l2d hi)), (.double (FP.l2d lo)), (.ref a109), (.ref a103), (.ref a103)])) t → Steps p.tables e below (s₁.setTop (entryFrame m #[(.int p1), (.int p2), (.int p3), (.int p4)] maxLocals)) t := by
            intro t k
            refine cn114 t ?_
            refine o_lload X109.here hx (hb hby at_110) rfl ?_
            refine o_l2dS X109.here hx (hb hby at_112) (v := FP.l2d lo) rfl ?_
            refine o_lload X109.here hx (hb hby at_113) rfl ?_
            refine o_l2dS X109.here hx (hb hby at_115) (v := FP.l2d hi) rfl ?_
            exact k
          obtain ⟨_, _, ⟨T116, L116, c116, n116⟩, -, X116, ⟨Lc116, hQ116, l116, y116, z116⟩, st116⟩ := X109.specialBack hx (y := (⟨"com/example/diotima/diotima/kb/Feature", "<init>", "(Ljava/lang/String;DD)V"⟩ : MethodName)) rfl hown (mvT hZ (hw _ (List.mem_of_getElem? (i := 18) rfl))) (mvT hZ (hw _ (List.mem_of_getElem? (i := 19) rfl))) (mvT hZ (hw _ (List.mem_of_getElem? (i := 20) rfl))) (by decide) (backOf (W := 1) (rmC l Z a0 hw [] a103 a109 lo hi h109 n0 Z109 E110 G103 F111 F112 F113 (own_wide (by rw [h_lo]; exact own_bd_min p1 p2 : OBd 2147483648 lo) (by decide)) (own_wide (by rw [h_hi]; exact own_bd_max p1 p2 : OBd 2147483648 hi) (by decide)) (by rw [h_lo, h_hi]; exact own_min_max _ _)) hZ (hw _ (List.mem_of_getElem? (i := 20) rfl)) (hw _ (List.mem_of_getElem? (i := 9) rfl)) (by decide) (by decide)) (g := (mkF m 116 #[.val (.int p1), .val (.int p2), .val (.int p3), .val (.int p4), .val (.long lo), .second, .val (.long hi), .second, .val (.int (p4 &&& (7 : Int32))), .val (.long (hi + (1 : Int64))), .second, .unset, .unset] [(.double (FP.l2d hi)), (.double (FP.l2d lo)), (.ref a109), (.ref a103), (.ref a103)])) rfl (by rw [hml]; rfl) (Steps.refl _) (a := a103) (argsL := [(.ref a109), (.double (FP.l2d lo)), (.double (FP.l2d hi))]) (rest := [(.ref a103)]) (lenOf pd_oLjava_lang_StringsDDcV rfl) rfl (by show 2 * 0 + _ ≤ _; exact Nat.le_of_eq rfl) (hb hby at_116) (fun _ _ => ⟨rfl, e109, (by decide : 3 + 0 ≤ _), (by decide : 11 + 0 ≤ _)⟩)
          dsimp only [Pt.U, Pt.locs, Pt.cells, Pt.slots] at X116 l116 y116 z116 st116 hQ116
          subst l116 y116 z116
          obtain ⟨rfl, N116a, K116, Q116_0, Q116_1, Q116_2⟩ := hQ116
          have N116 := Fr.app N5 N116a
          have e116 : T116.heap = T116.heap := rfl
          have Z116 : n0 ≤ T116.heap.size := (Nat.le_trans Z109 K116.1)
          have E117 : Exa Z T116.heap a103 "com/example/diotima/diotima/kb/Feature" := (E110.keep K116)
          have cn118 : ∀ t, Steps p.tables e below (T116.setTop (mkF m 119 #[.val (.int p1), .val (.int p2), .val (.int p3), .val (.int p4), .val (.long lo), .second, .val (.long hi), .second, .val (.int (p4 &&& (7 : Int32))), .val (.long (hi + (1 : Int64))), .second, .unset, .unset] [(.ref a103)])) t → Steps p.tables e below (s₁.setTop (entryFrame m #[(.int p1), (.int p2), (.int p3), (.int p4)] maxLocals)) t := fun t k => cn115 t (st116.trans k)
          have cn119 : ∀ t, Steps p.tables e below (T116.setTop (mkF m 126 #[.val (.int p1), .val (.int p2), .val (.int p3), .val (.int p4), .val (.long lo), .second, .val (.long hi), .second, .val (.int (p4 &&& (7 : Int32))), .val (.long (hi + (1 : Int64))), .second, .val (.ref a103), .unset] [(.int (XT.cmpL lo (hi + (1 : Int64))))])) t → Steps p.tables e below (s₁.setTop (entryFrame m #[(.int p1), (.int p2), (.int p3), (.int p4)] maxLocals)) t := by
            intro t k
            refine cn118 t ?_
            refine o_astore X116.here hx (hb hby at_119) rfl (l' := #[.val (.int p1), .val (.int p2), .val (.int p3), .val (.int p4), .val (.long lo), .second, .val (.long hi), .second, .val (.int (p4 &&& (7 : Int32))), .val (.long (hi + (1 : Int64))), .second, .val (.ref a103), .unset]) rfl ?_
            refine o_lload X116.here hx (hb hby at_121) rfl ?_
            refine o_lload X116.here hx (hb hby at_123) rfl ?_
            refine o_lcmp X116.here hx (hb hby at_125) ?_
            exact k
          by_cases h126_120 : (hi + (1 : Int64)) < lo
          · -- pc 126 taken
            have cn121 : ∀ t, Steps p.tables e below (T116.setTop (mkF m 149 #[.val (.int p1), .val (.int p2), .val (.int p3), .val (.int p4), .val (.long lo), .second, .val (.long hi), .second, .val (.int (p4 &&& (7 : Int32))), .val (.long (hi + (1 : Int64))), .second, .val (.ref a103), .val (.int (0 : Int32))] [(.double (FP.l2d (hi + (1 : Int64)))), (.ref a103)])) t → Steps p.tables e below (s₁.setTop (entryFrame m #[(.int p1), (.int p2), (.int p3), (.int p4)] maxLocals)) t := by
              intro t k
              refine cn119 t ?_
              refine o_ifYes X116.here hx (pc' := 141) (hb hby at_126) (XT.ll_gt_t h126_120) (by decide) (by decide) ?_
              refine o_iconstV X116.here hx (0 : Int32) (hb hby at_141) rfl ?_
              refine o_istore X116.here hx (hb hby at_142) (l' := #[.val (.int p1), .val (.int p2), .val (.int p3), .val (.int p4), .val (.long lo), .second, .val (.long hi), .second, .val (.int (p4 &&& (7 : Int32))), .val (.long (hi + (1 : Int64))), .second, .val (.ref a103), .val (.int (0 : Int32))]) rfl ?_
              refine o_aload X116.here hx (hb hby at_144) rfl rfl ?_
              refine o_lload X116.here hx (hb hby at_146) rfl ?_
              refine o_l2dS X116.here hx (hb hby at_148) (v := FP.l2d (hi + (1 : Int64))) rfl ?_
              exact k
            obtain ⟨cq122, kq122, q122a, q122b, q122c⟩ := isOf hZ e116 Q116_0
            obtain ⟨_, _, ⟨T122, L122, c122, n122⟩, -, X122, ⟨Lc122, hQ122, l122, y122, z122⟩, st122⟩ := X116.virtualBack hx (y := (⟨"com/example/diotima/diotima/kb/Feature", "holds", "(D)Z"⟩ : MethodName)) (z := (⟨"com/example/diotima/diotima/kb/Feature", "holds", "(D)Z"⟩ : MethodName)) hown (mvT hZ (hw _ (List.mem_of_getElem? (i := 43) rfl))) (mvT hZ (hw _ (List.mem_of_getElem? (i := 44) rfl))) (notFace_of_selects (args := #[]) (mvT hZ (hw _ (List.mem_of_getElem? (i := 46) rfl)))) (mvT hZ (hw _ (List.mem_of_getElem? (i := 46) rfl))) (mvT hZ (hw _ (List.mem_of_getElem? (i := 45) rfl))) (by decide) (backOf (W := 0) (rmH l Z a0 hw [] a103 lo hi (hi + (1 : Int64)) T116.heap n0 Z116 Q116_1 Q116_2 (own_wide (by rw [h_lo]; exact own_bd_min p1 p2 : OBd 2147483648 lo) (by decide)) (own_wide (by rw [h_hi]; exact own_bd_max p1 p2 : OBd 2147483648 hi) (by decide)) (own_wide (own_bd_add (by rw [h_hi]; exact own_bd_max p1 p2 : OBd 2147483648 hi) own_bd_lit1 (by decide)) (by decide))) hZ (hw _ (List.mem_of_getElem? (i := 47) rfl)) (hw _ (List.mem_of_getElem? (i := 9) rfl)) (by decide) (by decide)) q122a q122c (g := (mkF m 149 #[.val (.int p1), .val (.int p2), .val (.int p3), .val (.int p4), .val (.long lo), .second, .val (.long hi), .second, .val (.int (p4 &&& (7 : Int32))), .val (.long (hi + (1 : Int64))), .second, .val (.ref a103), .val (.int (0 : Int32))] [(.double (FP.l2d (hi + (1 : Int64)))), (.ref a103)])) rfl (by rw [hml]; rfl) (Steps.refl _) (argsL := [(.double (FP.l2d (hi + (1 : Int64))))]) (rest := []) (lenOf pd_oDcZ rfl) rfl (by show 2 * 0 + _ ≤ _; exact Nat.le_of_eq rfl) (hb hby at_149) (fun _ _ => ⟨rfl, e116, (by decide : 3 + 0 ≤ _), (by decide : 11 + 0 ≤ _)⟩)
            dsimp only [Pt.U, Pt.locs, Pt.cells, Pt.slots] at X122 l122 y122 z122 st122 hQ122
            subst l122 y122 z122
            obtain ⟨rfl, N122a, eh122⟩ := hQ122
            have N122 := Fr.app N116 N122a
            have e122 : T122.heap = T116.heap := eh122
            have cn123 : ∀ t, Steps p.tables e below (T122.setTop (mkF m 152 #[.val (.int p1), .val (.int p2), .val (.int p3), .val (.int p4), .val (.long lo), .second, .val (.long hi), .second, .val (.int (p4 &&& (7 : Int32))), .val (.long (hi + (1 : Int64))), .second, .val (.ref a103), .val (.int (0 : Int32))] [(.int (if ¬ (hi + (1 : Int64)) < lo ∧ ¬ hi < (hi + (1 : Int64)) then (1 : Int32) else 0))])) t → Steps p.tables e below (s₁.setTop (entryFrame m #[(.int p1), (.int p2), (.int p3), (.int p4)] maxLocals)) t := fun t k => cn121 t (st122.trans k)
            have cn124 : ∀ t, Steps p.tables e below (T122.setTop (mkF m 162 #[.val (.int p1), .val (.int p2), .val (.int p3), .val (.int p4), .val (.long lo), .second, .val (.long hi), .second, .val (.int (p4 &&& (7 : Int32))), .val (.long (hi + (1 : Int64))), .second, .val (.ref a103), .val (.int (0 : Int32))] [(.int (1 : Int32))])) t → Steps p.tables e below (s₁.setTop (entryFrame m #[(.int p1), (.int p2), (.int p3), (.int p4)] maxLocals)) t := by
              intro t k
              refine cn123 t ?_
              refine o_iload X122.here hx (hb hby at_152) rfl ?_
              show Steps p.tables e below (T122.setTop (mkF m 154 #[.val (.int p1), .val (.int p2), .val (.int p3), .val (.int p4), .val (.long lo), .second, .val (.long hi), .second, .val (.int (p4 &&& (7 : Int32))), .val (.long (hi + (1 : Int64))), .second, .val (.ref a103), .val (.int (0 : Int32))] [(.int (0 : Int32)), (.int (if ¬ (hi + (1 : Int64)) < lo ∧ ¬ hi < (hi + (1 : Int64)) then (1 : Int32) else 0))])) _
              refine o_icmpNo X122.here hx (hb hby at_154) (XT.ii_ne_f (by simp [h126_120])) ?_
              refine o_iconstV X122.here hx (1 : Int32) (hb hby at_157) rfl ?_
              show Steps p.tables e below (T122.setTop (mkF m 158 #[.val (.int p1), .val (.int p2), .val (.int p3), .val (.int p4), .val (.long lo), .second, .val (.long hi), .second, .val (.int (p4 &&& (7 : Int32))), .val (.long (hi + (1 : Int64))), .second, .val (.ref a103), .val (.int (0 : Int32))] [(.int (1 : Int32))])) _
              refine o_goto X122.here hx (pc' := 162) (hb hby at_158) (by decide) (by decide) ?_
              exact k
            obtain ⟨fs, hr, hrun, hended, hend⟩ := X122.leaveW hS (by rw [e122]; exact (Nat.le_trans hkS K116.1)) (v := some (.int (1 : Int32))) (fun h => by rw [Bd.returns] at h; cases h)
            refine ⟨_, _, cn124 _ ?_, hrun, hended, _, _, rfl, ?_, hend.1, hend.2.1, hend.2.2.1, hend.2.2.2.mono (by decide) (by decide)⟩
            · exact retN X122 hx (t := .boolean) Bd.returns (by simp) (hb hby at_162) hr
            · show Q0 Z p1 p2 p3 p4 h0 n0 _ T122.heap _
              rw [e122]
              exact ⟨rfl, N122⟩
          · -- pc 126 not taken
            have cn125 : ∀ t, Steps p.tables e below (T116.setTop (mkF m 134 #[.val (.int p1), .val (.int p2), .val (.int p3), .val (.int p4), .val (.long lo), .second, .val (.long hi), .second, .val (.int (p4 &&& (7 : Int32))), .val (.long (hi + (1 : Int64))), .second, .val (.ref a103), .unset] [(.int (XT.cmpL (hi + (1 : Int64)) hi))])) t → Steps p.tables e below (s₁.setTop (entryFrame m #[(.int p1), (.int p2), (.int p3), (.int p4)] maxLocals)) t := by
              intro t k
              refine cn119 t ?_
              refine o_ifNo X116.here hx (hb hby at_126) (XT.ll_gt_f h126_120) ?_
              refine o_lload X116.here hx (hb hby at_129) rfl ?_
              refine o_lload X116.here hx (hb hby at_131) rfl ?_
              refine o_lcmp X116.here hx (hb hby at_133) ?_
              exact k
            by_cases h134_126 : hi < (hi + (1 : Int64))
            · -- pc 134 taken
              have cn127 : ∀ t, Steps p.tables e below (T116.setTop (mkF m 149 #[.val (.int p1), .val (.int p2), .val (.int p3), .val (.int p4), .val (.long lo), .second, .val (.long hi), .second, .val (.int (p4 &&& (7 : Int32))), .val (.long (hi + (1 : Int64))), .second, .val (.ref a103), .val (.int (0 : Int32))] [(.double (FP.l2d (hi + (1 : Int64)))), (.ref a103)])) t → Steps p.tables e below (s₁.setTop (entryFrame m #[(.int p1), (.int p2), (.int p3), (.int p4)] maxLocals)) t := by
                intro t k
                refine cn125 t ?_
                refine o_ifYes X116.here hx (pc' := 141) (hb hby at_134) (XT.ll_gt_t h134_126) (by decide) (by decide) ?_
                refine o_iconstV X116.here hx (0 : Int32) (hb hby at_141) rfl ?_
                refine o_istore X116.here hx (hb hby at_142) (l' := #[.val (.int p1), .val (.int p2), .val (.int p3), .val (.int p4), .val (.long lo), .second, .val (.long hi), .second, .val (.int (p4 &&& (7 : Int32))), .val (.long (hi + (1 : Int64))), .second, .val (.ref a103), .val (.int (0 : Int32))]) rfl ?_
                refine o_aload X116.here hx (hb hby at_144) rfl rfl ?_
                refine o_lload X116.here hx (hb hby at_146) rfl ?_
                refine o_l2dS X116.here hx (hb hby at_148) (v := FP.l2d (hi + (1 : Int64))) rfl ?_
                exact k
              obtain ⟨cq128, kq128, q128a, q128b, q128c⟩ := isOf hZ e116 Q116_0
              obtain ⟨_, _, ⟨T128, L128, c128, n128⟩, -, X128, ⟨Lc128, hQ128, l128, y128, z128⟩, st128⟩ := X116.virtualBack hx (y := (⟨"com/example/diotima/diotima/kb/Feature", "holds", "(D)Z"⟩ : MethodName)) (z := (⟨"com/example/diotima/diotima/kb/Feature", "holds", "(D)Z"⟩ : MethodName)) hown (mvT hZ (hw _ (List.mem_of_getElem? (i := 43) rfl))) (mvT hZ (hw _ (List.mem_of_getElem? (i := 44) rfl))) (notFace_of_selects (args := #[]) (mvT hZ (hw _ (List.mem_of_getElem? (i := 46) rfl)))) (mvT hZ (hw _ (List.mem_of_getElem? (i := 46) rfl))) (mvT hZ (hw _ (List.mem_of_getElem? (i := 45) rfl))) (by decide) (backOf (W := 0) (rmH l Z a0 hw [] a103 lo hi (hi + (1 : Int64)) T116.heap n0 Z116 Q116_1 Q116_2 (own_wide (by rw [h_lo]; exact own_bd_min p1 p2 : OBd 2147483648 lo) (by decide)) (own_wide (by rw [h_hi]; exact own_bd_max p1 p2 : OBd 2147483648 hi) (by decide)) (own_wide (own_bd_add (by rw [h_hi]; exact own_bd_max p1 p2 : OBd 2147483648 hi) own_bd_lit1 (by decide)) (by decide))) hZ (hw _ (List.mem_of_getElem? (i := 47) rfl)) (hw _ (List.mem_of_getElem? (i := 9) rfl)) (by decide) (by decide)) q128a q128c (g := (mkF m 149 #[.val (.int p1), .val (.int p2), .val (.int p3), .val (.int p4), .val (.long lo), .second, .val (.long hi), .second, .val (.int (p4 &&& (7 : Int32))), .val (.long (hi + (1 : Int64))), .second, .val (.ref a103), .val (.int (0 : Int32))] [(.double (FP.l2d (hi + (1 : Int64)))), (.ref a103)])) rfl (by rw [hml]; rfl) (Steps.refl _) (argsL := [(.double (FP.l2d (hi + (1 : Int64))))]) (rest := []) (lenOf pd_oDcZ rfl) rfl (by show 2 * 0 + _ ≤ _; exact Nat.le_of_eq rfl) (hb hby at_149) (fun _ _ => ⟨rfl, e116, (by decide : 3 + 0 ≤ _), (by decide : 11 + 0 ≤ _)⟩)
              dsimp only [Pt.U, Pt.locs, Pt.cells, Pt.slots] at X128 l128 y128 z128 st128 hQ128
              subst l128 y128 z128
              obtain ⟨rfl, N128a, eh128⟩ := hQ128
              have N128 := Fr.app N116 N128a
              have e128 : T128.heap = T116.heap := eh128
              have cn129 : ∀ t, Steps p.tables e below (T128.setTop (mkF m 152 #[.val (.int p1), .val (.int p2), .val (.int p3), .val (.int p4), .val (.long lo), .second, .val (.long hi), .second, .val (.int (p4 &&& (7 : Int32))), .val (.long (hi + (1 : Int64))), .second, .val (.ref a103), .val (.int (0 : Int32))] [(.int (if ¬ (hi + (1 : Int64)) < lo ∧ ¬ hi < (hi + (1 : Int64)) then (1 : Int32) else 0))])) t → Steps p.tables e below (s₁.setTop (entryFrame m #[(.int p1), (.int p2), (.int p3), (.int p4)] maxLocals)) t := fun t k => cn127 t (st128.trans k)
              have cn130 : ∀ t, Steps p.tables e below (T128.setTop (mkF m 162 #[.val (.int p1), .val (.int p2), .val (.int p3), .val (.int p4), .val (.long lo), .second, .val (.long hi), .second, .val (.int (p4 &&& (7 : Int32))), .val (.long (hi + (1 : Int64))), .second, .val (.ref a103), .val (.int (0 : Int32))] [(.int (1 : Int32))])) t → Steps p.tables e below (s₁.setTop (entryFrame m #[(.int p1), (.int p2), (.int p3), (.int p4)] maxLocals)) t := by
                intro t k
                refine cn129 t ?_
                refine o_iload X128.here hx (hb hby at_152) rfl ?_
                show Steps p.tables e below (T128.setTop (mkF m 154 #[.val (.int p1), .val (.int p2), .val (.int p3), .val (.int p4), .val (.long lo), .second, .val (.long hi), .second, .val (.int (p4 &&& (7 : Int32))), .val (.long (hi + (1 : Int64))), .second, .val (.ref a103), .val (.int (0 : Int32))] [(.int (0 : Int32)), (.int (if ¬ (hi + (1 : Int64)) < lo ∧ ¬ hi < (hi + (1 : Int64)) then (1 : Int32) else 0))])) _
                refine o_icmpNo X128.here hx (hb hby at_154) (XT.ii_ne_f (by simp [h126_120, h134_126])) ?_
                refine o_iconstV X128.here hx (1 : Int32) (hb hby at_157) rfl ?_
                show Steps p.tables e below (T128.setTop (mkF m 158 #[.val (.int p1), .val (.int p2), .val (.int p3), .val (.int p4), .val (.long lo), .second, .val (.long hi), .second, .val (.int (p4 &&& (7 : Int32))), .val (.long (hi + (1 : Int64))), .second, .val (.ref a103), .val (.int (0 : Int32))] [(.int (1 : Int32))])) _
                refine o_goto X128.here hx (pc' := 162) (hb hby at_158) (by decide) (by decide) ?_
                exact k
              obtain ⟨fs, hr, hrun, hended, hend⟩ := X128.leaveW hS (by rw [e128]; exact (Nat.le_trans hkS K116.1)) (v := some (.int (1 : Int32))) (fun h => by rw [Bd.returns] at h; cases h)
              refine ⟨_, _, cn130 _ ?_, hrun, hended, _, _, rfl, ?_, hend.1, hend.2.1, hend.2.2.1, hend.2.2.2.mono (by decide) (by decide)⟩
              · exact retN X128 hx (t := .boolean) Bd.returns (by simp) (hb hby at_162) hr
              · show Q0 Z p1 p2 p3 p4 h0 n0 _ T128.heap _
                rw [e128]
                exact ⟨rfl, N128⟩
            · -- pc 134 not taken
              have cn131 : ∀ t, Steps p.tables e below (T116.setTop (mkF m 149 #[.val (.int p1), .val (.int p2), .val (.int p3), .val (.int p4), .val (.long lo), .second, .val (.long hi), .second, .val (.int (p4 &&& (7 : Int32))), .val (.long (hi + (1 : Int64))), .second, .val (.ref a103), .val (.int (1 : Int32))] [(.double (FP.l2d (hi + (1 : Int64)))), (.ref a103)])) t → Steps p.tables e below (s₁.setTop (entryFrame m #[(.int p1), (.int p2), (.int p3), (.int p4)] maxLocals)) t := by
                intro t k
                refine cn125 t ?_
                refine o_ifNo X116.here hx (hb hby at_134) (XT.ll_gt_f h134_126) ?_
                refine o_iconstV X116.here hx (1 : Int32) (hb hby at_137) rfl ?_
                show Steps p.tables e below (T116.setTop (mkF m 138 #[.val (.int p1), .val (.int p2), .val (.int p3), .val (.int p4), .val (.long lo), .second, .val (.long hi), .second, .val (.int (p4 &&& (7 : Int32))), .val (.long (hi + (1 : Int64))), .second, .val (.ref a103), .unset] [(.int (1 : Int32))])) _
                refine o_goto X116.here hx (pc' := 142) (hb hby at_138) (by decide) (by decide) ?_
                refine o_istore X116.here hx (hb hby at_142) (l' := #[.val (.int p1), .val (.int p2), .val (.int p3), .val (.int p4), .val (.long lo), .second, .val (.long hi), .second, .val (.int (p4 &&& (7 : Int32))), .val (.long (hi + (1 : Int64))), .second, .val (.ref a103), .val (.int (1 : Int32))]) rfl ?_
                refine o_aload X116.here hx (hb hby at_144) rfl rfl ?_
                refine o_lload X116.here hx (hb hby at_146) rfl ?_
                refine o_l2dS X116.here hx (hb hby at_148) (v := FP.l2d (hi + (1 : Int64))) rfl ?_
                exact k
              obtain ⟨cq132, kq132, q132a, q132b, q132c⟩ := isOf hZ e116 Q116_0
              obtain ⟨_, _, ⟨T132, L132, c132, n132⟩, -, X132, ⟨Lc132, hQ132, l132, y132, z132⟩, st132⟩ := X116.virtualBack hx (y := (⟨"com/example/diotima/diotima/kb/Feature", "holds", "(D)Z"⟩ : MethodName)) (z := (⟨"com/example/diotima/diotima/kb/Feature", "holds", "(D)Z"⟩ : MethodName)) hown (mvT hZ (hw _ (List.mem_of_getElem? (i := 43) rfl))) (mvT hZ (hw _ (List.mem_of_getElem? (i := 44) rfl))) (notFace_of_selects (args := #[]) (mvT hZ (hw _ (List.mem_of_getElem? (i := 46) rfl)))) (mvT hZ (hw _ (List.mem_of_getElem? (i := 46) rfl))) (mvT hZ (hw _ (List.mem_of_getElem? (i := 45) rfl))) (by decide) (backOf (W := 0) (rmH l Z a0 hw [] a103 lo hi (hi + (1 : Int64)) T116.heap n0 Z116 Q116_1 Q116_2 (own_wide (by rw [h_lo]; exact own_bd_min p1 p2 : OBd 2147483648 lo) (by decide)) (own_wide (by rw [h_hi]; exact own_bd_max p1 p2 : OBd 2147483648 hi) (by decide)) (own_wide (own_bd_add (by rw [h_hi]; exact own_bd_max p1 p2 : OBd 2147483648 hi) own_bd_lit1 (by decide)) (by decide))) hZ (hw _ (List.mem_of_getElem? (i := 47) rfl)) (hw _ (List.mem_of_getElem? (i := 9) rfl)) (by decide) (by decide)) q132a q132c (g := (mkF m 149 #[.val (.int p1), .val (.int p2), .val (.int p3), .val (.int p4), .val (.long lo), .second, .val (.long hi), .second, .val (.int (p4 &&& (7 : Int32))), .val (.long (hi + (1 : Int64))), .second, .val (.ref a103), .val (.int (1 : Int32))] [(.double (FP.l2d (hi + (1 : Int64)))), (.ref a103)])) rfl (by rw [hml]; rfl) (Steps.refl _) (argsL := [(.double (FP.l2d (hi + (1 : Int64))))]) (rest := []) (lenOf pd_oDcZ rfl) rfl (by show 2 * 0 + _ ≤ _; exact Nat.le_of_eq rfl) (hb hby at_149) (fun _ _ => ⟨rfl, e116, (by decide : 3 + 0 ≤ _), (by decide : 11 + 0 ≤ _)⟩)
              dsimp only [Pt.U, Pt.locs, Pt.cells, Pt.slots] at X132 l132 y132 z132 st132 hQ132
              subst l132 y132 z132
              obtain ⟨rfl, N132a, eh132⟩ := hQ132
              have N132 := Fr.app N116 N132a
              have e132 : T132.heap = T116.heap := eh132
              have cn133 : ∀ t, Steps p.tables e below (T132.setTop (mkF m 152 #[.val (.int p1), .val (.int p2), .val (.int p3), .val (.int p4), .val (.long lo), .second, .val (.long hi), .second, .val (.int (p4 &&& (7 : Int32))), .val (.long (hi + (1 : Int64))), .second, .val (.ref a103), .val (.int (1 : Int32))] [(.int (if ¬ (hi + (1 : Int64)) < lo ∧ ¬ hi < (hi + (1 : Int64)) then (1 : Int32) else 0))])) t → Steps p.tables e below (s₁.setTop (entryFrame m #[(.int p1), (.int p2), (.int p3), (.int p4)] maxLocals)) t := fun t k => cn131 t (st132.trans k)
              have cn134 : ∀ t, Steps p.tables e below (T132.setTop (mkF m 162 #[.val (.int p1), .val (.int p2), .val (.int p3), .val (.int p4), .val (.long lo), .second, .val (.long hi), .second, .val (.int (p4 &&& (7 : Int32))), .val (.long (hi + (1 : Int64))), .second, .val (.ref a103), .val (.int (1 : Int32))] [(.int (1 : Int32))])) t → Steps p.tables e below (s₁.setTop (entryFrame m #[(.int p1), (.int p2), (.int p3), (.int p4)] maxLocals)) t := by
                intro t k
                refine cn133 t ?_
                refine o_iload X132.here hx (hb hby at_152) rfl ?_
                show Steps p.tables e below (T132.setTop (mkF m 154 #[.val (.int p1), .val (.int p2), .val (.int p3), .val (.int p4), .val (.long lo), .second, .val (.long hi), .second, .val (.int (p4 &&& (7 : Int32))), .val (.long (hi + (1 : Int64))), .second, .val (.ref a103), .val (.int (1 : Int32))] [(.int (1 : Int32)), (.int (if ¬ (hi + (1 : Int64)) < lo ∧ ¬ hi < (hi + (1 : Int64)) then (1 : Int32) else 0))])) _
                refine o_icmpNo X132.here hx (hb hby at_154) (XT.ii_ne_f (by simp [h126_120, h134_126])) ?_
                refine o_iconstV X132.here hx (1 : Int32) (hb hby at_157) rfl ?_
                show Steps p.tables e below (T132.setTop (mkF m 158 #[.val (.int p1), .val (.int p2), .val (.int p3), .val (.int p4), .val (.long lo), .second, .val (.long hi), .second, .val (.int (p4 &&& (7 : Int32))), .val (.long (hi + (1 : Int64))), .second, .val (.ref a103), .val (.int (1 : Int32))] [(.int (1 : Int32))])) _
                refine o_goto X132.here hx (pc' := 162) (hb hby at_158) (by decide) (by decide) ?_
                exact k
              obtain ⟨fs, hr, hrun, hended, hend⟩ := X132.leaveW hS (by rw [e132]; exact (Nat.le_trans hkS K116.1)) (v := some (.int (1 : Int32))) (fun h => by rw [Bd.returns] at h; cases h)
              refine ⟨_, _, cn134 _ ?_, hrun, hended, _, _, rfl, ?_, hend.1, hend.2.1, hend.2.2.1, hend.2.2.2.mono (by decide) (by decide)⟩
              · exact retN X132 hx (t := .boolean) Bd.returns (by simp) (hb hby at_162) hr
              · show Q0 Z p1 p2 p3 p4 h0 n0 _ T132.heap _
                rw [e132]
                exact ⟨rfl, N132⟩
        · -- pc 68 taken
          have cn135 : ∀ t, Steps p.tables e below (T5.setTop (mkF m 83 #[.val (.int p1), .val (.int p2), .val (.int p3), .val (.int p4), .val (.long lo), .second, .val (.long hi), .second, .val (.int (p4 &&& (7 : Int32))), .unset, .unset, .unset, .unset] [(.int (5 : Int32)), (.int (p4 &&& (7 : Int32)))])) t → Steps p.tables e below (s₁.setTop (entryFrame m #[(.int p1), (.int p2), (.int p3), (.int p4)] maxLocals)) t := by
            intro t k
            refine cn100 t ?_
            refine o_icmpYes X5.here hx (pc' := 80) (hb hby at_68) (XT.ii_ne_t h68_101) (by decide) (by decide) ?_
            refine o_iload X5.here hx (hb hby at_80) rfl ?_
            refine o_iconstV X5.here hx (5 : Int32) (hb hby at_82) rfl ?_
            exact k
          by_cases h83_136 : (p4 &&& (7 : Int32)) = (5 : Int32)
          · -- pc 83 not taken
            have cn137 : ∀ t, Steps p.tables e below (T5.setTop (mkF m 104 #[.val (.int p1), .val (.int p2), .val (.int p3), .val (.int p4), .val (.long lo), .second, .val (.long hi), .second, .val (.int (p4 &&& (7 : Int32))), .val (.long ((lo + hi) / (2 : Int64))), .second, .unset, .unset] [])) t → Steps p.tables e below (s₁.setTop (entryFrame m #[(.int p1), (.int p2), (.int p3), (.int p4)] maxLocals)) t := by
              intro t k
              refine cn135 t ?_
              refine o_icmpNo X5.here hx (hb hby at_83) (XT.ii_ne_f h83_136) ?_
              refine o_lload X5.here hx (hb hby at_86) rfl ?_
              refine o_lload X5.here hx (hb hby at_88) rfl ?_
              refine o_ladd X5.here hx (hb hby at_90) ?_
              refine X5.ldc2J hx hown (mvT hZ (hw _ (List.mem_of_getElem? (i := 48) rfl))) rfl (hb hby at_91) ?_
              show Steps p.tables e below (T5.setTop (mkF m 94 #[.val (.int p1), .val (.int p2), .val (.int p3), .val (.int p4), .val (.long lo), .second, .val (.long hi), .second, .val (.int (p4 &&& (7 : Int32))), .unset, .unset, .unset, .unset] [(.long (2 : Int64)), (.long (lo + hi))])) _
              refine o_ldiv X5.here hx (hb hby at_94) (by decide) ?_
              refine o_lstore X5.here hx (hb hby at_95) (l' := #[.val (.int p1), .val (.int p2), .val (.int p3), .val (.int p4), .val (.long lo), .second, .val (.long hi), .second, .val (.int (p4 &&& (7 : Int32))), .val (.long ((lo + hi) / (2 : Int64))), .second, .unset, .unset]) rfl ?_
              show Steps p.tables e below (T5.setTop (mkF m 97 #[.val (.int p1), .val (.int p2), .val (.int p3), .val (.int p4), .val (.long lo), .second, .val (.long hi), .second, .val (.int (p4 &&& (7 : Int32))), .val (.long ((lo + hi) / (2 : Int64))), .second, .unset, .unset] [])) _
              refine o_goto X5.here hx (pc' := 104) (hb hby at_97) (by decide) (by decide) ?_
              exact k
            obtain ⟨T138, h138, X138, e138, E138, A138, D138, -, st138⟩ := newO X5 hx hZ hown (hw _ (List.mem_of_getElem? (i := 7) rfl)) (hw _ (List.mem_of_getElem? (i := 8) rfl)) (hw _ (List.mem_of_getElem? (i := 9) rfl)) e5 (g := (mkF m 104 #[.val (.int p1), .val (.int p2), .val (.int p3), .val (.int p4), .val (.long lo), .second, .val (.long hi), .second, .val (.int (p4 &&& (7 : Int32))), .val (.long ((lo + hi) / (2 : Int64))), .second, .unset, .unset] [])) rfl (hb hby at_104) (by decide) (by decide)
            obtain ⟨a138, g138⟩ : ∃ z, z = h0.size := ⟨_, rfl⟩
            rw [← g138] at A138 D138 st138
            have Z138 : n0 ≤ h138.size := (Nat.le_trans Z0 E138.1)
            have G138 : n0 ≤ a138 := (Nat.le_trans Z0 (Nat.le_of_eq g138.symm))
            have F139 : Fld Z h138 a138 "com/example/diotima/diotima/kb/Feature" "name" "Ljava/lang/String;" .null := (D138 (Or.inr (hw _ (List.mem_of_getElem? (i := 38) rfl))) (ty := (.object "java/lang/String")) (by decide))
            have F140 : Fld Z h138 a138 "com/example/diotima/diotima/kb/Feature" "low" "D" (.double (0 : UInt64)) := (D138 (Or.inr (hw _ (List.mem_of_getElem? (i := 40) rfl))) (ty := .double) (by decide))
            have F141 : Fld Z h138 a138 "com/example/diotima/diotima/kb/Feature" "high" "D" (.double (0 : UInt64)) := (D138 (Or.inr (hw _ (List.mem_of_getElem? (i := 42) rfl))) (ty := .double) (by decide))
            have cn142 : ∀ t, Steps p.tables e below (T138.setTop (mkF m 107 #[.val (.int p1), .val (.int p2), .val (.int p3), .val (.int p4), .val (.long lo), .second, .val (.long hi), .second, .val (.int (p4 &&& (7 : Int32))), .val (.long ((lo + hi) / (2 : Int64))), .second, .unset, .unset] [(.ref a138)])) t → Steps p.tables e below (s₁.setTop (entryFrame m #[(.int p1), (.int p2), (.int p3), (.int p4)] maxLocals)) t := fun t k => cn137 t (st138 _ k)
            have cn143 : ∀ t, Steps p.tables e below (T138.setTop (mkF m 108 #[.val (.int p1), .val (.int p2), .val (.int p3), .val (.int p4), .val (.long lo), .second, .val (.long hi), .second, .val (.int (p4 &&& (7 : Int32))), .val (.long ((lo + hi) / (2 : Int64))), .second, .unset, .unset] [(.ref a138), (.ref a138)])) t → Steps p.tables e below (s₁.setTop (entryFrame m #[(.int p1), (.int p2), (.int p3), (.int p4)] maxLocals)) t := by
              intro t k
              refine cn142 t ?_
              refine o_dup X138.here hx (hb hby at_107) rfl ?_
              exact k
            obtain ⟨a144, T144, h144, ks144, X144, e144, E144, hS, hkS, hZ, hown, st144⟩ := ldcS X138 hx hZ hown (hw _ (List.mem_of_getElem? (i := 10) rfl)) (fun d hd => hw d (own_strAtoms d hd)) e138 hS (Nat.le_trans hkS E138.1) (g := (mkF m 108 #[.val (.int p1), .val (.int p2), .val (.int p3), .val (.int p4), .val (.long lo), .second, .val (.long hi), .second, .val (.int (p4 &&& (7 : Int32))), .val (.long ((lo + hi) / (2 : Int64))), .second, .unset, .unset] [(.ref a138), (.ref a138)])) rfl (hb hby at_108) (n := 4) (by decide) (by decide) (by decide) (by decide)
            have Z144 : n0 ≤ h144.size := (Nat.le_trans Z138 E144.1)
            have E145 : Exa Z h144 a138 "com/example/diotima/diotima/kb/Feature" := (Exa.ext E144 A138)
            have F146 : Fld Z h144 a138 "com/example/diotima/diotima/kb/Feature" "name" "Ljava/lang/String;" .null := (Fld.ext E144 F139)
            have F147 : Fld Z h144 a138 "com/example/diotima/diotima/kb/Feature" "low" "D" (.double (0 : UInt64)) := (Fld.ext E144 F140)
            have F148 : Fld Z h144 a138 "com/example/diotima/diotima/kb/Feature" "high" "D" (.double (0 : UInt64)) := (Fld.ext E144 F141)
            have cn149 : ∀ t, Steps p.tables e below (T144.setTop (mkF m 110 #[.val (.int p1), .val (.int p2), .val (.int p3), .val (.int p4), .val (.long lo), .second, .val (.long hi), .second, .val (.int (p4 &&& (7 : Int32))), .val (.long ((lo + hi) / (2 : Int64))), .second, .unset, .unset] [(.ref a144), (.ref a138), (.ref a138)])) t → Steps p.tables e below (s₁.setTop (entryFrame m #[(.int p1), (.int p2), (.int p3), (.int p4)] maxLocals)) t := fun t k => cn143 t (st144 _ k)
            have cn150 : ∀ t, Steps p.tables e below (T144.setTop (mkF m 116 #[.val (.int p1), .val (.int p2), .val (.int p3), .val (.int p4), .val (.long lo), .second, .val (.long hi), .second, .val (.int (p4 &&& (7 : Int32))), .val (.long ((lo + hi) / (2 : Int64))), .second, .unset, .unset] [(.double (FP.l2d hi)), (.double (FP.l2d lo)), (.ref a144), (.ref a138), (.ref a138)])) t → Steps p.tables e below (s₁.setTop (entryFrame m #[(.int p1), (.int p2), (.int p3), (.int p4)] maxLocals)) t := by
              intro t k
              refine cn149 t ?_
              refine o_lload X144.here hx (hb hby at_110) rfl ?_
              refine o_l2dS X144.here hx (hb hby at_112) (v := FP.l2d lo) rfl ?_
              refine o_lload X144.here hx (hb hby at_113) rfl ?_
              refine o_l2dS X144.here hx (hb hby at_115) (v := FP.l2d hi) rfl ?_
              exact k
            obtain ⟨_, _, ⟨T151, L151, c151, n151⟩, -, X151, ⟨Lc151, hQ151, l151, y151, z151⟩, st151⟩ := X144.specialBack hx (y := (⟨"com/example/diotima/diotima/kb/Feature", "<init>", "(Ljava/lang/String;DD)V"⟩ : MethodName)) rfl hown (mvT hZ (hw _ (List.mem_of_getElem? (i := 18) rfl))) (mvT hZ (hw _ (List.mem_of_getElem? (i := 19) rfl))) (mvT hZ (hw _ (List.mem_of_getElem? (i := 20) rfl))) (by decide) (backOf (W := 1) (rmC l Z a0 hw [] a138 a144 lo hi h144 n0 Z144 E145 G138 F146 F147 F148 (own_wide (by rw [h_lo]; exact own_bd_min p1 p2 : OBd 2147483648 lo) (by decide)) (own_wide (by rw [h_hi]; exact own_bd_max p1 p2 : OBd 2147483648 hi) (by decide)) (by rw [h_lo, h_hi]; exact own_min_max _ _)) hZ (hw _ (List.mem_of_getElem? (i := 20) rfl)) (hw _ (List.mem_of_getElem? (i := 9) rfl)) (by decide) (by decide)) (g := (mkF m 116 #[.val (.int p1), .val (.int p2), .val (.int p3), .val (.int p4), .val (.long lo), .second, .val (.long hi), .second, .val (.int (p4 &&& (7 : Int32))), .val (.long ((lo + hi) / (2 : Int64))), .second, .unset, .unset] [(.double (FP.l2d hi)), (.double (FP.l2d lo)), (.ref a144), (.ref a138), (.ref a138)])) rfl (by rw [hml]; rfl) (Steps.refl _) (a := a138) (argsL := [(.ref a144), (.double (FP.l2d lo)), (.double (FP.l2d hi))]) (rest := [(.ref a138)]) (lenOf pd_oLjava_lang_StringsDDcV rfl) rfl (by show 2 * 0 + _ ≤ _; exact Nat.le_of_eq rfl) (hb hby at_116) (fun _ _ => ⟨rfl, e144, (by decide : 3 + 0 ≤ _), (by decide : 11 + 0 ≤ _)⟩)
            dsimp only [Pt.U, Pt.locs, Pt.cells, Pt.slots] at X151 l151 y151 z151 st151 hQ151
            subst l151 y151 z151
            obtain ⟨rfl, N151a, K151, Q151_0, Q151_1, Q151_2⟩ := hQ151
            have N151 := Fr.app N5 N151a
            have e151 : T151.heap = T151.heap := rfl
            have Z151 : n0 ≤ T151.heap.size := (Nat.le_trans Z144 K151.1)
            have E152 : Exa Z T151.heap a138 "com/example/diotima/diotima/kb/Feature" := (E145.keep K151)
            have cn153 : ∀ t, Steps p.tables e below (T151.setTop (mkF m 119 #[.val (.int p1), .val (.int p2), .val (.int p3), .val (.int p4), .val (.long lo), .second, .val (.long hi), .second, .val (.int (p4 &&& (7 : Int32))), .val (.long ((lo + hi) / (2 : Int64))), .second, .unset, .unset] [(.ref a138)])) t → Steps p.tables e below (s₁.setTop (entryFrame m #[(.int p1), (.int p2), (.int p3), (.int p4)] maxLocals)) t := fun t k => cn150 t (st151.trans k)
            have cn154 : ∀ t, Steps p.tables e below (T151.setTop (mkF m 126 #[.val (.int p1), .val (.int p2), .val (.int p3), .val (.int p4), .val (.long lo), .second, .val (.long hi), .second, .val (.int (p4 &&& (7 : Int32))), .val (.long ((lo + hi) / (2 : Int64))), .second, .val (.ref a138), .unset] [(.int (XT.cmpL lo ((lo + hi) / (2 : Int64))))])) t → Steps p.tables e below (s₁.setTop (entryFrame m #[(.int p1), (.int p2), (.int p3), (.int p4)] maxLocals)) t := by
              intro t k
              refine cn153 t ?_
              refine o_astore X151.here hx (hb hby at_119) rfl (l' := #[.val (.int p1), .val (.int p2), .val (.int p3), .val (.int p4), .val (.long lo), .second, .val (.long hi), .second, .val (.int (p4 &&& (7 : Int32))), .val (.long ((lo + hi) / (2 : Int64))), .second, .val (.ref a138), .unset]) rfl ?_
              refine o_lload X151.here hx (hb hby at_121) rfl ?_
              refine o_lload X151.here hx (hb hby at_123) rfl ?_
              refine o_lcmp X151.here hx (hb hby at_125) ?_
              exact k
            by_cases h126_155 : ((lo + hi) / (2 : Int64)) < lo
            · -- pc 126 taken
              have cn156 : ∀ t, Steps p.tables e below (T151.setTop (mkF m 149 #[.val (.int p1), .val (.int p2), .val (.int p3), .val (.int p4), .val (.long lo), .second, .val (.long hi), .second, .val (.int (p4 &&& (7 : Int32))), .val (.long ((lo + hi) / (2 : Int64))), .second, .val (.ref a138), .val (.int (0 : Int32))] [(.double (FP.l2d ((lo + hi) / (2 : Int64)))), (.ref a138)])) t → Steps p.tables e below (s₁.setTop (entryFrame m #[(.int p1), (.int p2), (.int p3), (.int p4)] maxLocals)) t := by
                intro t k
                refine cn154 t ?_
                refine o_ifYes X151.here hx (pc' := 141) (hb hby at_126) (XT.ll_gt_t h126_155) (by decide) (by decide) ?_
                refine o_iconstV X151.here hx (0 : Int32) (hb hby at_141) rfl ?_
                refine o_istore X151.here hx (hb hby at_142) (l' := #[.val (.int p1), .val (.int p2), .val (.int p3), .val (.int p4), .val (.long lo), .second, .val (.long hi), .second, .val (.int (p4 &&& (7 : Int32))), .val (.long ((lo + hi) / (2 : Int64))), .second, .val (.ref a138), .val (.int (0 : Int32))]) rfl ?_
                refine o_aload X151.here hx (hb hby at_144) rfl rfl ?_
                refine o_lload X151.here hx (hb hby at_146) rfl ?_
                refine o_l2dS X151.here hx (hb hby at_148) (v := FP.l2d ((lo + hi) / (2 : Int64))) rfl ?_
                exact k
              obtain ⟨cq157, kq157, q157a, q157b, q157c⟩ := isOf hZ e151 Q151_0
              obtain ⟨_, _, ⟨T157, L157, c157, n157⟩, -, X157, ⟨Lc157, hQ157, l157, y157, z157⟩, st157⟩ := X151.virtualBack hx (y := (⟨"com/example/diotima/diotima/kb/Feature", "holds", "(D)Z"⟩ : MethodName)) (z := (⟨"com/example/diotima/diotima/kb/Feature", "holds", "(D)Z"⟩ : MethodName)) hown (mvT hZ (hw _ (List.mem_of_getElem? (i := 43) rfl))) (mvT hZ (hw _ (List.mem_of_getElem? (i := 44) rfl))) (notFace_of_selects (args := #[]) (mvT hZ (hw _ (List.mem_of_getElem? (i := 46) rfl)))) (mvT hZ (hw _ (List.mem_of_getElem? (i := 46) rfl))) (mvT hZ (hw _ (List.mem_of_getElem? (i := 45) rfl))) (by decide) (backOf (W := 0) (rmH l Z a0 hw [] a138 lo hi ((lo + hi) / (2 : Int64)) T151.heap n0 Z151 Q151_1 Q151_2 (own_wide (by rw [h_lo]; exact own_bd_min p1 p2 : OBd 2147483648 lo) (by decide)) (own_wide (by rw [h_hi]; exact own_bd_max p1 p2 : OBd 2147483648 hi) (by decide)) (own_wide (own_bd_half (own_bd_add (by rw [h_lo]; exact own_bd_min p1 p2 : OBd 2147483648 lo) (by rw [h_hi]; exact own_bd_max p1 p2 : OBd 2147483648 hi) (by decide))) (by decide))) hZ (hw _ (List.mem_of_getElem? (i := 47) rfl)) (hw _ (List.mem_of_getElem? (i := 9) rfl)) (by decide) (by decide)) q157a q157c (g := (mkF m 149 #[.val (.int p1), .val (.int p2), .val (.int p3), .val (.int p4), .val (.long lo), .second, .val (.long hi), .second, .val (.int (p4 &&& (7 : Int32))), .val (.long ((lo + hi) / (2 : Int64))), .second, .val (.ref a138), .val (.int (0 : Int32))] [(.double (FP.l2d ((lo + hi) / (2 : Int64)))), (.ref a138)])) rfl (by rw [hml]; rfl) (Steps.refl _) (argsL := [(.double (FP.l2d ((lo + hi) / (2 : Int64))))]) (rest := []) (lenOf pd_oDcZ rfl) rfl (by show 2 * 0 + _ ≤ _; exact Nat.le_of_eq rfl) (hb hby at_149) (fun _ _ => ⟨rfl, e151, (by decide : 3 + 0 ≤ _), (by decide : 11 + 0 ≤ _)⟩)
              dsimp only [Pt.U, Pt.locs, Pt.cells, Pt.slots] at X157 l157 y157 z157 st157 hQ157
              subst l157 y157 z157
              obtain ⟨rfl, N157a, eh157⟩ := hQ157
              have N157 := Fr.app N151 N157a
              have e157 : T157.heap = T151.heap := eh157
              have cn158 : ∀ t, Steps p.tables e below (T157.setTop (mkF m 152 #[.val (.int p1), .val (.int p2), .val (.int p3), .val (.int p4), .val (.long lo), .second, .val (.long hi), .second, .val (.int (p4 &&& (7 : Int32))), .val (.long ((lo + hi) / (2 : Int64))), .second, .val (.ref a138), .val (.int (0 : Int32))] [(.int (if ¬ ((lo + hi) / (2 : Int64)) < lo ∧ ¬ hi < ((lo + hi) / (2 : Int64)) then (1 : Int32) else 0))])) t → Steps p.tables e below (s₁.setTop (entryFrame m #[(.int p1), (.int p2), (.int p3), (.int p4)] maxLocals)) t := fun t k => cn156 t (st157.trans k)
              have cn159 : ∀ t, Steps p.tables e below (T157.setTop (mkF m 162 #[.val (.int p1), .val (.int p2), .val (.int p3), .val (.int p4), .val (.long lo), .second, .val (.long hi), .second, .val (.int (p4 &&& (7 : Int32))), .val (.long ((lo + hi) / (2 : Int64))), .second, .val (.ref a138), .val (.int (0 : Int32))] [(.int (1 : Int32))])) t → Steps p.tables e below (s₁.setTop (entryFrame m #[(.int p1), (.int p2), (.int p3), (.int p4)] maxLocals)) t := by
                intro t k
                refine cn158 t ?_
                refine o_iload X157.here hx (hb hby at_152) rfl ?_
                show Steps p.tables e below (T157.setTop (mkF m 154 #[.val (.int p1), .val (.int p2), .val (.int p3), .val (.int p4), .val (.long lo), .second, .val (.long hi), .second, .val (.int (p4 &&& (7 : Int32))), .val (.long ((lo + hi) / (2 : Int64))), .second, .val (.ref a138), .val (.int (0 : Int32))] [(.int (0 : Int32)), (.int (if ¬ ((lo + hi) / (2 : Int64)) < lo ∧ ¬ hi < ((lo + hi) / (2 : Int64)) then (1 : Int32) else 0))])) _
                refine o_icmpNo X157.here hx (hb hby at_154) (XT.ii_ne_f (by simp [h126_155])) ?_
                refine o_iconstV X157.here hx (1 : Int32) (hb hby at_157) rfl ?_
                show Steps p.tables e below (T157.setTop (mkF m 158 #[.val (.int p1), .val (.int p2), .val (.int p3), .val (.int p4), .val (.long lo), .second, .val (.long hi), .second, .val (.int (p4 &&& (7 : Int32))), .val (.long ((lo + hi) / (2 : Int64))), .second, .val (.ref a138), .val (.int (0 : Int32))] [(.int (1 : Int32))])) _
                refine o_goto X157.here hx (pc' := 162) (hb hby at_158) (by decide) (by decide) ?_
                exact k
              obtain ⟨fs, hr, hrun, hended, hend⟩ := X157.leaveW hS (by rw [e157]; exact (Nat.le_trans hkS K151.1)) (v := some (.int (1 : Int32))) (fun h => by rw [Bd.returns] at h; cases h)
              refine ⟨_, _, cn159 _ ?_, hrun, hended, _, _, rfl, ?_, hend.1, hend.2.1, hend.2.2.1, hend.2.2.2.mono (by decide) (by decide)⟩
              · exact retN X157 hx (t := .boolean) Bd.returns (by simp) (hb hby at_162) hr
              · show Q0 Z p1 p2 p3 p4 h0 n0 _ T157.heap _
                rw [e157]
                exact ⟨rfl, N157⟩
            · -- pc 126 not taken
              have cn160 : ∀ t, Steps p.tables e below (T151.setTop (mkF m 134 #[.val (.int p1), .val (.int p2), .val (.int p3), .val (.int p4), .val (.long lo), .second, .val (.long hi), .second, .val (.int (p4 &&& (7 : Int32))), .val (.long ((lo + hi) / (2 : Int64))), .second, .val (.ref a138), .unset] [(.int (XT.cmpL ((lo + hi) / (2 : Int64)) hi))])) t → Steps p.tables e below (s₁.setTop (entryFrame m #[(.int p1), (.int p2), (.int p3), (.int p4)] maxLocals)) t := by
                intro t k
                refine cn154 t ?_
                refine o_ifNo X151.here hx (hb hby at_126) (XT.ll_gt_f h126_155) ?_
                refine o_lload X151.here hx (hb hby at_129) rfl ?_
                refine o_lload X151.here hx (hb hby at_131) rfl ?_
                refine o_lcmp X151.here hx (hb hby at_133) ?_
                exact k
              by_cases h134_161 : hi < ((lo + hi) / (2 : Int64))
              · -- pc 134 taken
                have cn162 : ∀ t, Steps p.tables e below (T151.setTop (mkF m 149 #[.val (.int p1), .val (.int p2), .val (.int p3), .val (.int p4), .val (.long lo), .second, .val (.long hi), .second, .val (.int (p4 &&& (7 : Int32))), .val (.long ((lo + hi) / (2 : Int64))), .second, .val (.ref a138), .val (.int (0 : Int32))] [(.double (FP.l2d ((lo + hi) / (2 : Int64)))), (.ref a138)])) t → Steps p.tables e below (s₁.setTop (entryFrame m #[(.int p1), (.int p2), (.int p3), (.int p4)] maxLocals)) t := by
                  intro t k
                  refine cn160 t ?_
                  refine o_ifYes X151.here hx (pc' := 141) (hb hby at_134) (XT.ll_gt_t h134_161) (by decide) (by decide) ?_
                  refine o_iconstV X151.here hx (0 : Int32) (hb hby at_141) rfl ?_
                  refine o_istore X151.here hx (hb hby at_142) (l' := #[.val (.int p1), .val (.int p2), .val (.int p3), .val (.int p4), .val (.long lo), .second, .val (.long hi), .second, .val (.int (p4 &&& (7 : Int32))), .val (.long ((lo + hi) / (2 : Int64))), .second, .val (.ref a138), .val (.int (0 : Int32))]) rfl ?_
                  refine o_aload X151.here hx (hb hby at_144) rfl rfl ?_
                  refine o_lload X151.here hx (hb hby at_146) rfl ?_
                  refine o_l2dS X151.here hx (hb hby at_148) (v := FP.l2d ((lo + hi) / (2 : Int64))) rfl ?_
                  exact k
                obtain ⟨cq163, kq163, q163a, q163b, q163c⟩ := isOf hZ e151 Q151_0
                obtain ⟨_, _, ⟨T163, L163, c163, n163⟩, -, X163, ⟨Lc163, hQ163, l163, y163, z163⟩, st163⟩ := X151.virtualBack hx (y := (⟨"com/example/diotima/diotima/kb/Feature", "holds", "(D)Z"⟩ : MethodName)) (z := (⟨"com/example/diotima/diotima/kb/Feature", "holds", "(D)Z"⟩ : MethodName)) hown (mvT hZ (hw _ (List.mem_of_getElem? (i := 43) rfl))) (mvT hZ (hw _ (List.mem_of_getElem? (i := 44) rfl))) (notFace_of_selects (args := #[]) (mvT hZ (hw _ (List.mem_of_getElem? (i := 46) rfl)))) (mvT hZ (hw _ (List.mem_of_getElem? (i := 46) rfl))) (mvT hZ (hw _ (List.mem_of_getElem? (i := 45) rfl))) (by decide) (backOf (W := 0) (rmH l Z a0 hw [] a138 lo hi ((lo + hi) / (2 : Int64)) T151.heap n0 Z151 Q151_1 Q151_2 (own_wide (by rw [h_lo]; exact own_bd_min p1 p2 : OBd 2147483648 lo) (by decide)) (own_wide (by rw [h_hi]; exact own_bd_max p1 p2 : OBd 2147483648 hi) (by decide)) (own_wide (own_bd_half (own_bd_add (by rw [h_lo]; exact own_bd_min p1 p2 : OBd 2147483648 lo) (by rw [h_hi]; exact own_bd_max p1 p2 : OBd 2147483648 hi) (by decide))) (by decide))) hZ (hw _ (List.mem_of_getElem? (i := 47) rfl)) (hw _ (List.mem_of_getElem? (i := 9) rfl)) (by decide) (by decide)) q163a q163c (g := (mkF m 149 #[.val (.int p1), .val (.int p2), .val (.int p3), .val (.int p4), .val (.long lo), .second, .val (.long hi), .second, .val (.int (p4 &&& (7 : Int32))), .val (.long ((lo + hi) / (2 : Int64))), .second, .val (.ref a138), .val (.int (0 : Int32))] [(.double (FP.l2d ((lo + hi) / (2 : Int64)))), (.ref a138)])) rfl (by rw [hml]; rfl) (Steps.refl _) (argsL := [(.double (FP.l2d ((lo + hi) / (2 : Int64))))]) (rest := []) (lenOf pd_oDcZ rfl) rfl (by show 2 * 0 + _ ≤ _; exact Nat.le_of_eq rfl) (hb hby at_149) (fun _ _ => ⟨rfl, e151, (by decide : 3 + 0 ≤ _), (by decide : 11 + 0 ≤ _)⟩)
                dsimp only [Pt.U, Pt.locs, Pt.cells, Pt.slots] at X163 l163 y163 z163 st163 hQ163
                subst l163 y163 z163
                obtain ⟨rfl, N163a, eh163⟩ := hQ163
                have N163 := Fr.app N151 N163a
                have e163 : T163.heap = T151.heap := eh163
                have cn164 : ∀ t, Steps p.tables e below (T163.setTop (mkF m 152 #[.val (.int p1), .val (.int p2), .val (.int p3), .val (.int p4), .val (.long lo), .second, .val (.long hi), .second, .val (.int (p4 &&& (7 : Int32))), .val (.long ((lo + hi) / (2 : Int64))), .second, .val (.ref a138), .val (.int (0 : Int32))] [(.int (if ¬ ((lo + hi) / (2 : Int64)) < lo ∧ ¬ hi < ((lo + hi) / (2 : Int64)) then (1 : Int32) else 0))])) t → Steps p.tables e below (s₁.setTop (entryFrame m #[(.int p1), (.int p2), (.int p3), (.int p4)] maxLocals)) t := fun t k => cn162 t (st163.trans k)
                have cn165 : ∀ t, Steps p.tables e below (T163.setTop (mkF m 162 #[.val (.int p1), .val (.int p2), .val (.int p3), .val (.int p4), .val (.long lo), .second, .val (.long hi), .second, .val (.int (p4 &&& (7 : Int32))), .val (.long ((lo + hi) / (2 : Int64))), .second, .val (.ref a138), .val (.int (0 : Int32))] [(.int (1 : Int32))])) t → Steps p.tables e below (s₁.setTop (entryFrame m #[(.int p1), (.int p2), (.int p3), (.int p4)] maxLocals)) t := by
                  intro t k
                  refine cn164 t ?_
                  refine o_iload X163.here hx (hb hby at_152) rfl ?_
                  show Steps p.tables e below (T163.setTop (mkF m 154 #[.val (.int p1), .val (.int p2), .val (.int p3), .val (.int p4), .val (.long lo), .second, .val (.long hi), .second, .val (.int (p4 &&& (7 : Int32))), .val (.long ((lo + hi) / (2 : Int64))), .second, .val (.ref a138), .val (.int (0 : Int32))] [(.int (0 : Int32)), (.int (if ¬ ((lo + hi) / (2 : Int64)) < lo ∧ ¬ hi < ((lo + hi) / (2 : Int64)) then (1 : Int32) else 0))])) _
                  refine o_icmpNo X163.here hx (hb hby at_154) (XT.ii_ne_f (by simp [h126_155, h134_161])) ?_
                  refine o_iconstV X163.here hx (1 : Int32) (hb hby at_157) rfl ?_
                  show Steps p.tables e below (T163.setTop (mkF m 158 #[.val (.int p1), .val (.int p2), .val (.int p3), .val (.int p4), .val (.long lo), .second, .val (.long hi), .second, .val (.int (p4 &&& (7 : Int32))), .val (.long ((lo + hi) / (2 : Int64))), .second, .val (.ref a138), .val (.int (0 : Int32))] [(.int (1 : Int32))])) _
                  refine o_goto X163.here hx (pc' := 162) (hb hby at_158) (by decide) (by decide) ?_
                  exact k
                obtain ⟨fs, hr, hrun, hended, hend⟩ := X163.leaveW hS (by rw [e163]; exact (Nat.le_trans hkS K151.1)) (v := some (.int (1 : Int32))) (fun h => by rw [Bd.returns] at h; cases h)
                refine ⟨_, _, cn165 _ ?_, hrun, hended, _, _, rfl, ?_, hend.1, hend.2.1, hend.2.2.1, hend.2.2.2.mono (by decide) (by decide)⟩
                · exact retN X163 hx (t := .boolean) Bd.returns (by simp) (hb hby at_162) hr
                · show Q0 Z p1 p2 p3 p4 h0 n0 _ T163.heap _
                  rw [e163]
                  exact ⟨rfl, N163⟩
              · -- pc 134 not taken
                have cn166 : ∀ t, Steps p.tables e below (T151.setTop (mkF m 149 #[.val (.int p1), .val (.int p2), .val (.int p3), .val (.int p4), .val (.long lo), .second, .val (.long hi), .second, .val (.int (p4 &&& (7 : Int32))), .val (.long ((lo + hi) / (2 : Int64))), .second, .val (.ref a138), .val (.int (1 : Int32))] [(.double (FP.l2d ((lo + hi) / (2 : Int64)))), (.ref a138)])) t → Steps p.tables e below (s₁.setTop (entryFrame m #[(.int p1), (.int p2), (.int p3), (.int p4)] maxLocals)) t := by
                  intro t k
                  refine cn160 t ?_
                  refine o_ifNo X151.here hx (hb hby at_134) (XT.ll_gt_f h134_161) ?_
                  refine o_iconstV X151.here hx (1 : Int32) (hb hby at_137) rfl ?_
                  show Steps p.tables e below (T151.setTop (mkF m 138 #[.val (.int p1), .val (.int p2), .val (.int p3), .val (.int p4), .val (.long lo), .second, .val (.long hi), .second, .val (.int (p4 &&& (7 : Int32))), .val (.long ((lo + hi) / (2 : Int64))), .second, .val (.ref a138), .unset] [(.int (1 : Int32))])) _
                  refine o_goto X151.here hx (pc' := 142) (hb hby at_138) (by decide) (by decide) ?_
                  refine o_istore X151.here hx (hb hby at_142) (l' := #[.val (.int p1), .val (.int p2), .val (.int p3), .val (.int p4), .val (.long lo), .second, .val (.long hi), .second, .val (.int (p4 &&& (7 : Int32))), .val (.long ((lo + hi) / (2 : Int64))), .second, .val (.ref a138), .val (.int (1 : Int32))]) rfl ?_
                  refine o_aload X151.here hx (hb hby at_144) rfl rfl ?_
                  refine o_lload X151.here hx (hb hby at_146) rfl ?_
                  refine o_l2dS X151.here hx (hb hby at_148) (v := FP.l2d ((lo + hi) / (2 : Int64))) rfl ?_
                  exact k
                obtain ⟨cq167, kq167, q167a, q167b, q167c⟩ := isOf hZ e151 Q151_0
                obtain ⟨_, _, ⟨T167, L167, c167, n167⟩, -, X167, ⟨Lc167, hQ167, l167, y167, z167⟩, st167⟩ := X151.virtualBack hx (y := (⟨"com/example/diotima/diotima/kb/Feature", "holds", "(D)Z"⟩ : MethodName)) (z := (⟨"com/example/diotima/diotima/kb/Feature", "holds", "(D)Z"⟩ : MethodName)) hown (mvT hZ (hw _ (List.mem_of_getElem? (i := 43) rfl))) (mvT hZ (hw _ (List.mem_of_getElem? (i := 44) rfl))) (notFace_of_selects (args := #[]) (mvT hZ (hw _ (List.mem_of_getElem? (i := 46) rfl)))) (mvT hZ (hw _ (List.mem_of_getElem? (i := 46) rfl))) (mvT hZ (hw _ (List.mem_of_getElem? (i := 45) rfl))) (by decide) (backOf (W := 0) (rmH l Z a0 hw [] a138 lo hi ((lo + hi) / (2 : Int64)) T151.heap n0 Z151 Q151_1 Q151_2 (own_wide (by rw [h_lo]; exact own_bd_min p1 p2 : OBd 2147483648 lo) (by decide)) (own_wide (by rw [h_hi]; exact own_bd_max p1 p2 : OBd 2147483648 hi) (by decide)) (own_wide (own_bd_half (own_bd_add (by rw [h_lo]; exact own_bd_min p1 p2 : OBd 2147483648 lo) (by rw [h_hi]; exact own_bd_max p1 p2 : OBd 2147483648 hi) (by decide))) (by decide))) hZ (hw _ (List.mem_of_getElem? (i := 47) rfl)) (hw _ (List.mem_of_getElem? (i := 9) rfl)) (by decide) (by decide)) q167a q167c (g := (mkF m 149 #[.val (.int p1), .val (.int p2), .val (.int p3), .val (.int p4), .val (.long lo), .second, .val (.long hi), .second, .val (.int (p4 &&& (7 : Int32))), .val (.long ((lo + hi) / (2 : Int64))), .second, .val (.ref a138), .val (.int (1 : Int32))] [(.double (FP.l2d ((lo + hi) / (2 : Int64)))), (.ref a138)])) rfl (by rw [hml]; rfl) (Steps.refl _) (argsL := [(.double (FP.l2d ((lo + hi) / (2 : Int64))))]) (rest := []) (lenOf pd_oDcZ rfl) rfl (by show 2 * 0 + _ ≤ _; exact Nat.le_of_eq rfl) (hb hby at_149) (fun _ _ => ⟨rfl, e151, (by decide : 3 + 0 ≤ _), (by decide : 11 + 0 ≤ _)⟩)
                dsimp only [Pt.U, Pt.locs, Pt.cells, Pt.slots] at X167 l167 y167 z167 st167 hQ167
                subst l167 y167 z167
                obtain ⟨rfl, N167a, eh167⟩ := hQ167
                have N167 := Fr.app N151 N167a
                have e167 : T167.heap = T151.heap := eh167
                have cn168 : ∀ t, Steps p.tables e below (T167.setTop (mkF m 152 #[.val (.int p1), .val (.int p2), .val (.int p3), .val (.int p4), .val (.long lo), .second, .val (.long hi), .second, .val (.int (p4 &&& (7 : Int32))), .val (.long ((lo + hi) / (2 : Int64))), .second, .val (.ref a138), .val (.int (1 : Int32))] [(.int (if ¬ ((lo + hi) / (2 : Int64)) < lo ∧ ¬ hi < ((lo + hi) / (2 : Int64)) then (1 : Int32) else 0))])) t → Steps p.tables e below (s₁.setTop (entryFrame m #[(.int p1), (.int p2), (.int p3), (.int p4)] maxLocals)) t := fun t k => cn166 t (st167.trans k)
                have cn169 : ∀ t, Steps p.tables e below (T167.setTop (mkF m 162 #[.val (.int p1), .val (.int p2), .val (.int p3), .val (.int p4), .val (.long lo), .second, .val (.long hi), .second, .val (.int (p4 &&& (7 : Int32))), .val (.long ((lo + hi) / (2 : Int64))), .second, .val (.ref a138), .val (.int (1 : Int32))] [(.int (1 : Int32))])) t → Steps p.tables e below (s₁.setTop (entryFrame m #[(.int p1), (.int p2), (.int p3), (.int p4)] maxLocals)) t := by
                  intro t k
                  refine cn168 t ?_
                  refine o_iload X167.here hx (hb hby at_152) rfl ?_
                  show Steps p.tables e below (T167.setTop (mkF m 154 #[.val (.int p1), .val (.int p2), .val (.int p3), .val (.int p4), .val (.long lo), .second, .val (.long hi), .second, .val (.int (p4 &&& (7 : Int32))), .val (.long ((lo + hi) / (2 : Int64))), .second, .val (.ref a138), .val (.int (1 : Int32))] [(.int (1 : Int32)), (.int (if ¬ ((lo + hi) / (2 : Int64)) < lo ∧ ¬ hi < ((lo + hi) / (2 : Int64)) then (1 : Int32) else 0))])) _
                  refine o_icmpNo X167.here hx (hb hby at_154) (XT.ii_ne_f (by simp [h126_155, h134_161])) ?_
                  refine o_iconstV X167.here hx (1 : Int32) (hb hby at_157) rfl ?_
                  show Steps p.tables e below (T167.setTop (mkF m 158 #[.val (.int p1), .val (.int p2), .val (.int p3), .val (.int p4), .val (.long lo), .second, .val (.long hi), .second, .val (.int (p4 &&& (7 : Int32))), .val (.long ((lo + hi) / (2 : Int64))), .second, .val (.ref a138), .val (.int (1 : Int32))] [(.int (1 : Int32))])) _
                  refine o_goto X167.here hx (pc' := 162) (hb hby at_158) (by decide) (by decide) ?_
                  exact k
                obtain ⟨fs, hr, hrun, hended, hend⟩ := X167.leaveW hS (by rw [e167]; exact (Nat.le_trans hkS K151.1)) (v := some (.int (1 : Int32))) (fun h => by rw [Bd.returns] at h; cases h)
                refine ⟨_, _, cn169 _ ?_, hrun, hended, _, _, rfl, ?_, hend.1, hend.2.1, hend.2.2.1, hend.2.2.2.mono (by decide) (by decide)⟩
                · exact retN X167 hx (t := .boolean) Bd.returns (by simp) (hb hby at_162) hr
                · show Q0 Z p1 p2 p3 p4 h0 n0 _ T167.heap _
                  rw [e167]
                  exact ⟨rfl, N167⟩
          · -- pc 83 taken
            have cn170 : ∀ t, Steps p.tables e below (T5.setTop (mkF m 104 #[.val (.int p1), .val (.int p2), .val (.int p3), .val (.int p4), .val (.long lo), .second, .val (.long hi), .second, .val (.int (p4 &&& (7 : Int32))), .val (.long p3.toInt64), .second, .unset, .unset] [])) t → Steps p.tables e below (s₁.setTop (entryFrame m #[(.int p1), (.int p2), (.int p3), (.int p4)] maxLocals)) t := by
              intro t k
              refine cn135 t ?_
              refine o_icmpYes X5.here hx (pc' := 100) (hb hby at_83) (XT.ii_ne_t h83_136) (by decide) (by decide) ?_
              refine o_iloadN X5.here hx (hb hby at_100) rfl ?_
              refine o_i2l X5.here hx (hb hby at_101) ?_
              refine o_lstore X5.here hx (hb hby at_102) (l' := #[.val (.int p1), .val (.int p2), .val (.int p3), .val (.int p4), .val (.long lo), .second, .val (.long hi), .second, .val (.int (p4 &&& (7 : Int32))), .val (.long p3.toInt64), .second, .unset, .unset]) rfl ?_
              exact k
            obtain ⟨T171, h171, X171, e171, E171, A171, D171, -, st171⟩ := newO X5 hx hZ hown (hw _ (List.mem_of_getElem? (i := 7) rfl)) (hw _ (List.mem_of_getElem? (i := 8) rfl)) (hw _ (List.mem_of_getElem? (i := 9) rfl)) e5 (g := (mkF m 104 #[.val (.int p1), .val (.int p2), .val (.int p3), .val (.int p4), .val (.long lo), .second, .val (.long hi), .second, .val (.int (p4 &&& (7 : Int32))), .val (.long p3.toInt64), .second, .unset, .unset] [])) rfl (hb hby at_104) (by decide) (by decide)
            obtain ⟨a171, g171⟩ : ∃ z, z = h0.size := ⟨_, rfl⟩
            rw [← g171] at A171 D171 st171
            have Z171 : n0 ≤ h171.size := (Nat.le_trans Z0 E171.1)
            have G171 : n0 ≤ a171 := (Nat.le_trans Z0 (Nat.le_of_eq g171.symm))
            have F172 : Fld Z h171 a171 "com/example/diotima/diotima/kb/Feature" "name" "Ljava/lang/String;" .null := (D171 (Or.inr (hw _ (List.mem_of_getElem? (i := 38) rfl))) (ty := (.object "java/lang/String")) (by decide))
            have F173 : Fld Z h171 a171 "com/example/diotima/diotima/kb/Feature" "low" "D" (.double (0 : UInt64)) := (D171 (Or.inr (hw _ (List.mem_of_getElem? (i := 40) rfl))) (ty := .double) (by decide))
            have F174 : Fld Z h171 a171 "com/example/diotima/diotima/kb/Feature" "high" "D" (.double (0 : UInt64)) := (D171 (Or.inr (hw _ (List.mem_of_getElem? (i := 42) rfl))) (ty := .double) (by decide))
            have cn175 : ∀ t, Steps p.tables e below (T171.setTop (mkF m 107 #[.val (.int p1), .val (.int p2), .val (.int p3), .val (.int p4), .val (.long lo), .second, .val (.long hi), .second, .val (.int (p4 &&& (7 : Int32))), .val (.long p3.toInt64), .second, .unset, .unset] [(.ref a171)])) t → Steps p.tables e below (s₁.setTop (entryFrame m #[(.int p1), (.int p2), (.int p3), (.int p4)] maxLocals)) t := fun t k => cn170 t (st171 _ k)
            have cn176 : ∀ t, Steps p.tables e below (T171.setTop (mkF m 108 #[.val (.int p1), .val (.int p2), .val (.int p3), .val (.int p4), .val (.long lo), .second, .val (.long hi), .second, .val (.int (p4 &&& (7 : Int32))), .val (.long p3.toInt64), .second, .unset, .unset] [(.ref a171), (.ref a171)])) t → Steps p.tables e below (s₁.setTop (entryFrame m #[(.int p1), (.int p2), (.int p3), (.int p4)] maxLocals)) t := by
              intro t k
              refine cn175 t ?_
              refine o_dup X171.here hx (hb hby at_107) rfl ?_
              exact k
            obtain ⟨a177, T177, h177, ks177, X177, e177, E177, hS, hkS, hZ, hown, st177⟩ := ldcS X171 hx hZ hown (hw _ (List.mem_of_getElem? (i := 10) rfl)) (fun d hd => hw d (own_strAtoms d hd)) e171 hS (Nat.le_trans hkS E171.1) (g := (mkF m 108 #[.val (.int p1), .val (.int p2), .val (.int p3), .val (.int p4), .val (.long lo), .second, .val (.long hi), .second, .val (.int (p4 &&& (7 : Int32))), .val (.long p3.toInt64), .second, .unset, .unset] [(.ref a171), (.ref a171)])) rfl (hb hby at_108) (n := 4) (by decide) (by decide) (by decide) (by decide)
            have Z177 : n0 ≤ h177.size := (Nat.le_trans Z171 E177.1)
            have E178 : Exa Z h177 a171 "com/example/diotima/diotima/kb/Feature" := (Exa.ext E177 A171)
            have F179 : Fld Z h177 a171 "com/example/diotima/diotima/kb/Feature" "name" "Ljava/lang/String;" .null := (Fld.ext E177 F172)
            have F180 : Fld Z h177 a171 "com/example/diotima/diotima/kb/Feature" "low" "D" (.double (0 : UInt64)) := (Fld.ext E177 F173)
            have F181 : Fld Z h177 a171 "com/example/diotima/diotima/kb/Feature" "high" "D" (.double (0 : UInt64)) := (Fld.ext E177 F174)
            have cn182 : ∀ t, Steps p.tables e below (T177.setTop (mkF m 110 #[.val (.int p1), .val (.int p2), .val (.int p3), .val (.int p4), .val (.long lo), .second, .val (.long hi), .second, .val (.int (p4 &&& (7 : Int32))), .val (.long p3.toInt64), .second, .unset, .unset] [(.ref a177), (.ref a171), (.ref a171)])) t → Steps p.tables e below (s₁.setTop (entryFrame m #[(.int p1), (.int p2), (.int p3), (.int p4)] maxLocals)) t := fun t k => cn176 t (st177 _ k)
            have cn183 : ∀ t, Steps p.tables e below (T177.setTop (mkF m 116 #[.val (.int p1), .val (.int p2), .val (.int p3), .val (.int p4), .val (.long lo), .second, .val (.long hi), .second, .val (.int (p4 &&& (7 : Int32))), .val (.long p3.toInt64), .second, .unset, .unset] [(.double (FP.l2d hi)), (.double (FP.l2d lo)), (.ref a177), (.ref a171), (.ref a171)])) t → Steps p.tables e below (s₁.setTop (entryFrame m #[(.int p1), (.int p2), (.int p3), (.int p4)] maxLocals)) t := by
              intro t k
              refine cn182 t ?_
              refine o_lload X177.here hx (hb hby at_110) rfl ?_
              refine o_l2dS X177.here hx (hb hby at_112) (v := FP.l2d lo) rfl ?_
              refine o_lload X177.here hx (hb hby at_113) rfl ?_
              refine o_l2dS X177.here hx (hb hby at_115) (v := FP.l2d hi) rfl ?_
              exact k
            obtain ⟨_, _, ⟨T184, L184, c184, n184⟩, -, X184, ⟨Lc184, hQ184, l184, y184, z184⟩, st184⟩ := X177.specialBack hx (y := (⟨"com/example/diotima/diotima/kb/Feature", "<init>", "(Ljava/lang/String;DD)V"⟩ : MethodName)) rfl hown (mvT hZ (hw _ (List.mem_of_getElem? (i := 18) rfl))) (mvT hZ (hw _ (List.mem_of_getElem? (i := 19) rfl))) (mvT hZ (hw _ (List.mem_of_getElem? (i := 20) rfl))) (by decide) (backOf (W := 1) (rmC l Z a0 hw [] a171 a177 lo hi h177 n0 Z177 E178 G171 F179 F180 F181 (own_wide (by rw [h_lo]; exact own_bd_min p1 p2 : OBd 2147483648 lo) (by decide)) (own_wide (by rw [h_hi]; exact own_bd_max p1 p2 : OBd 2147483648 hi) (by decide)) (by rw [h_lo, h_hi]; exact own_min_max _ _)) hZ (hw _ (List.mem_of_getElem? (i := 20) rfl)) (hw _ (List.mem_of_getElem? (i := 9) rfl)) (by decide) (by decide)) (g := (mkF m 116 #[.val (.int p1), .val (.int p2), .val (.int p3), .val (.int p4), .val (.long lo), .second, .val (.long hi), .second, .val (.int (p4 &&& (7 : Int32))), .val (.long p3.toInt64), .second, .unset, .unset] [(.double (FP.l2d hi)), (.double (FP.l2d lo)), (.ref a177), (.ref a171), (.ref a171)])) rfl (by rw [hml]; rfl) (Steps.refl _) (a := a171) (argsL := [(.ref a177), (.double (FP.l2d lo)), (.double (FP.l2d hi))]) (rest := [(.ref a171)]) (lenOf pd_oLjava_lang_StringsDDcV rfl) rfl (by show 2 * 0 + _ ≤ _; exact Nat.le_of_eq rfl) (hb hby at_116) (fun _ _ => ⟨rfl, e177, (by decide : 3 + 0 ≤ _), (by decide : 11 + 0 ≤ _)⟩)
            dsimp only [Pt.U, Pt.locs, Pt.cells, Pt.slots] at X184 l184 y184 z184 st184 hQ184
            subst l184 y184 z184
            obtain ⟨rfl, N184a, K184, Q184_0, Q184_1, Q184_2⟩ := hQ184
            have N184 := Fr.app N5 N184a
            have e184 : T184.heap = T184.heap := rfl
            have Z184 : n0 ≤ T184.heap.size := (Nat.le_trans Z177 K184.1)
            have E185 : Exa Z T184.heap a171 "com/example/diotima/diotima/kb/Feature" := (E178.keep K184)
            have cn186 : ∀ t, Steps p.tables e below (T184.setTop (mkF m 119 #[.val (.int p1), .val (.int p2), .val (.int p3), .val (.int p4), .val (.long lo), .second, .val (.long hi), .second, .val (.int (p4 &&& (7 : Int32))), .val (.long p3.toInt64), .second, .unset, .unset] [(.ref a171)])) t → Steps p.tables e below (s₁.setTop (entryFrame m #[(.int p1), (.int p2), (.int p3), (.int p4)] maxLocals)) t := fun t k => cn183 t (st184.trans k)
            have cn187 : ∀ t, Steps p.tables e below (T184.setTop (mkF m 126 #[.val (.int p1), .val (.int p2), .val (.int p3), .val (.int p4), .val (.long lo), .second, .val (.long hi), .second, .val (.int (p4 &&& (7 : Int32))), .val (.long p3.toInt64), .second, .val (.ref a171), .unset] [(.int (XT.cmpL lo p3.toInt64))])) t → Steps p.tables e below (s₁.setTop (entryFrame m #[(.int p1), (.int p2), (.int p3), (.int p4)] maxLocals)) t := by
              intro t k
              refine cn186 t ?_
              refine o_astore X184.here hx (hb hby at_119) rfl (l' := #[.val (.int p1), .val (.int p2), .val (.int p3), .val (.int p4), .val (.long lo), .second, .val (.long hi), .second, .val (.int (p4 &&& (7 : Int32))), .val (.long p3.toInt64), .second, .val (.ref a171), .unset]) rfl ?_
              refine o_lload X184.here hx (hb hby at_121) rfl ?_
              refine o_lload X184.here hx (hb hby at_123) rfl ?_
              refine o_lcmp X184.here hx (hb hby at_125) ?_
              exact k
            by_cases h126_188 : p3.toInt64 < lo
            · -- pc 126 taken
              have cn189 : ∀ t, Steps p.tables e below (T184.setTop (mkF m 149 #[.val (.int p1), .val (.int p2), .val (.int p3), .val (.int p4), .val (.long lo), .second, .val (.long hi), .second, .val (.int (p4 &&& (7 : Int32))), .val (.long p3.toInt64), .second, .val (.ref a171), .val (.int (0 : Int32))] [(.double (FP.l2d p3.toInt64)), (.ref a171)])) t → Steps p.tables e below (s₁.setTop (entryFrame m #[(.int p1), (.int p2), (.int p3), (.int p4)] maxLocals)) t := by
                intro t k
                refine cn187 t ?_
                refine o_ifYes X184.here hx (pc' := 141) (hb hby at_126) (XT.ll_gt_t h126_188) (by decide) (by decide) ?_
                refine o_iconstV X184.here hx (0 : Int32) (hb hby at_141) rfl ?_
                refine o_istore X184.here hx (hb hby at_142) (l' := #[.val (.int p1), .val (.int p2), .val (.int p3), .val (.int p4), .val (.long lo), .second, .val (.long hi), .second, .val (.int (p4 &&& (7 : Int32))), .val (.long p3.toInt64), .second, .val (.ref a171), .val (.int (0 : Int32))]) rfl ?_
                refine o_aload X184.here hx (hb hby at_144) rfl rfl ?_
                refine o_lload X184.here hx (hb hby at_146) rfl ?_
                refine o_l2dS X184.here hx (hb hby at_148) (v := FP.l2d p3.toInt64) rfl ?_
                exact k
              obtain ⟨cq190, kq190, q190a, q190b, q190c⟩ := isOf hZ e184 Q184_0
              obtain ⟨_, _, ⟨T190, L190, c190, n190⟩, -, X190, ⟨Lc190, hQ190, l190, y190, z190⟩, st190⟩ := X184.virtualBack hx (y := (⟨"com/example/diotima/diotima/kb/Feature", "holds", "(D)Z"⟩ : MethodName)) (z := (⟨"com/example/diotima/diotima/kb/Feature", "holds", "(D)Z"⟩ : MethodName)) hown (mvT hZ (hw _ (List.mem_of_getElem? (i := 43) rfl))) (mvT hZ (hw _ (List.mem_of_getElem? (i := 44) rfl))) (notFace_of_selects (args := #[]) (mvT hZ (hw _ (List.mem_of_getElem? (i := 46) rfl)))) (mvT hZ (hw _ (List.mem_of_getElem? (i := 46) rfl))) (mvT hZ (hw _ (List.mem_of_getElem? (i := 45) rfl))) (by decide) (backOf (W := 0) (rmH l Z a0 hw [] a171 lo hi p3.toInt64 T184.heap n0 Z184 Q184_1 Q184_2 (own_wide (by rw [h_lo]; exact own_bd_min p1 p2 : OBd 2147483648 lo) (by decide)) (own_wide (by rw [h_hi]; exact own_bd_max p1 p2 : OBd 2147483648 hi) (by decide)) (own_wide (own_bd_i p3) (by decide))) hZ (hw _ (List.mem_of_getElem? (i := 47) rfl)) (hw _ (List.mem_of_getElem? (i := 9) rfl)) (by decide) (by decide)) q190a q190c (g := (mkF m 149 #[.val (.int p1), .val (.int p2), .val (.int p3), .val (.int p4), .val (.long lo), .second, .val (.long hi), .second, .val (.int (p4 &&& (7 : Int32))), .val (.long p3.toInt64), .second, .val (.ref a171), .val (.int (0 : Int32))] [(.double (FP.l2d p3.toInt64)), (.ref a171)])) rfl (by rw [hml]; rfl) (Steps.refl _) (argsL := [(.double (FP.l2d p3.toInt64))]) (rest := []) (lenOf pd_oDcZ rfl) rfl (by show 2 * 0 + _ ≤ _; exact Nat.le_of_eq rfl) (hb hby at_149) (fun _ _ => ⟨rfl, e184, (by decide : 3 + 0 ≤ _), (by decide : 11 + 0 ≤ _)⟩)
              dsimp only [Pt.U, Pt.locs, Pt.cells, Pt.slots] at X190 l190 y190 z190 st190 hQ190
              subst l190 y190 z190
              obtain ⟨rfl, N190a, eh190⟩ := hQ190
              have N190 := Fr.app N184 N190a
              have e190 : T190.heap = T184.heap := eh190
              have cn191 : ∀ t, Steps p.tables e below (T190.setTop (mkF m 152 #[.val (.int p1), .val (.int p2), .val (.int p3), .val (.int p4), .val (.long lo), .second, .val (.long hi), .second, .val (.int (p4 &&& (7 : Int32))), .val (.long p3.toInt64), .second, .val (.ref a171), .val (.int (0 : Int32))] [(.int (if ¬ p3.toInt64 < lo ∧ ¬ hi < p3.toInt64 then (1 : Int32) else 0))])) t → Steps p.tables e below (s₁.setTop (entryFrame m #[(.int p1), (.int p2), (.int p3), (.int p4)] maxLocals)) t := fun t k => cn189 t (st190.trans k)
              have cn192 : ∀ t, Steps p.tables e below (T190.setTop (mkF m 162 #[.val (.int p1), .val (.int p2), .val (.int p3), .val (.int p4), .val (.long lo), .second, .val (.long hi), .second, .val (.int (p4 &&& (7 : Int32))), .val (.long p3.toInt64), .second, .val (.ref a171), .val (.int (0 : Int32))] [(.int (1 : Int32))])) t → Steps p.tables e below (s₁.setTop (entryFrame m #[(.int p1), (.int p2), (.int p3), (.int p4)] maxLocals)) t := by
                intro t k
                refine cn191 t ?_
                refine o_iload X190.here hx (hb hby at_152) rfl ?_
                show Steps p.tables e below (T190.setTop (mkF m 154 #[.val (.int p1), .val (.int p2), .val (.int p3), .val (.int p4), .val (.long lo), .second, .val (.long hi), .second, .val (.int (p4 &&& (7 : Int32))), .val (.long p3.toInt64), .second, .val (.ref a171), .val (.int (0 : Int32))] [(.int (0 : Int32)), (.int (if ¬ p3.toInt64 < lo ∧ ¬ hi < p3.toInt64 then (1 : Int32) else 0))])) _
                refine o_icmpNo X190.here hx (hb hby at_154) (XT.ii_ne_f (by simp [h126_188])) ?_
                refine o_iconstV X190.here hx (1 : Int32) (hb hby at_157) rfl ?_
                show Steps p.tables e below (T190.setTop (mkF m 158 #[.val (.int p1), .val (.int p2), .val (.int p3), .val (.int p4), .val (.long lo), .second, .val (.long hi), .second, .val (.int (p4 &&& (7 : Int32))), .val (.long p3.toInt64), .second, .val (.ref a171), .val (.int (0 : Int32))] [(.int (1 : Int32))])) _
                refine o_goto X190.here hx (pc' := 162) (hb hby at_158) (by decide) (by decide) ?_
                exact k
              obtain ⟨fs, hr, hrun, hended, hend⟩ := X190.leaveW hS (by rw [e190]; exact (Nat.le_trans hkS K184.1)) (v := some (.int (1 : Int32))) (fun h => by rw [Bd.returns] at h; cases h)
              refine ⟨_, _, cn192 _ ?_, hrun, hended, _, _, rfl, ?_, hend.1, hend.2.1, hend.2.2.1, hend.2.2.2.mono (by decide) (by decide)⟩
              · exact retN X190 hx (t := .boolean) Bd.returns (by simp) (hb hby at_162) hr
              · show Q0 Z p1 p2 p3 p4 h0 n0 _ T190.heap _
                rw [e190]
                exact ⟨rfl, N190⟩
            · -- pc 126 not taken
              have cn193 : ∀ t, Steps p.tables e below (T184.setTop (mkF m 134 #[.val (.int p1), .val (.int p2), .val (.int p3), .val (.int p4), .val (.long lo), .second, .val (.long hi), .second, .val (.int (p4 &&& (7 : Int32))), .val (.long p3.toInt64), .second, .val (.ref a171), .unset] [(.int (XT.cmpL p3.toInt64 hi))])) t → Steps p.tables e below (s₁.setTop (entryFrame m #[(.int p1), (.int p2), (.int p3), (.int p4)] maxLocals)) t := by
                intro t k
                refine cn187 t ?_
                refine o_ifNo X184.here hx (hb hby at_126) (XT.ll_gt_f h126_188) ?_
                refine o_lload X184.here hx (hb hby at_129) rfl ?_
                refine o_lload X184.here hx (hb hby at_131) rfl ?_
                refine o_lcmp X184.here hx (hb hby at_133) ?_
                exact k
              by_cases h134_194 : hi < p3.toInt64
              · -- pc 134 taken
                have cn195 : ∀ t, Steps p.tables e below (T184.setTop (mkF m 149 #[.val (.int p1), .val (.int p2), .val (.int p3), .val (.int p4), .val (.long lo), .second, .val (.long hi), .second, .val (.int (p4 &&& (7 : Int32))), .val (.long p3.toInt64), .second, .val (.ref a171), .val (.int (0 : Int32))] [(.double (FP.l2d p3.toInt64)), (.ref a171)])) t → Steps p.tables e below (s₁.setTop (entryFrame m #[(.int p1), (.int p2), (.int p3), (.int p4)] maxLocals)) t := by
                  intro t k
                  refine cn193 t ?_
                  refine o_ifYes X184.here hx (pc' := 141) (hb hby at_134) (XT.ll_gt_t h134_194) (by decide) (by decide) ?_
                  refine o_iconstV X184.here hx (0 : Int32) (hb hby at_141) rfl ?_
                  refine o_istore X184.here hx (hb hby at_142) (l' := #[.val (.int p1), .val (.int p2), .val (.int p3), .val (.int p4), .val (.long lo), .second, .val (.long hi), .second, .val (.int (p4 &&& (7 : Int32))), .val (.long p3.toInt64), .second, .val (.ref a171), .val (.int (0 : Int32))]) rfl ?_
                  refine o_aload X184.here hx (hb hby at_144) rfl rfl ?_
                  refine o_lload X184.here hx (hb hby at_146) rfl ?_
                  refine o_l2dS X184.here hx (hb hby at_148) (v := FP.l2d p3.toInt64) rfl ?_
                  exact k
                obtain ⟨cq196, kq196, q196a, q196b, q196c⟩ := isOf hZ e184 Q184_0
                obtain ⟨_, _, ⟨T196, L196, c196, n196⟩, -, X196, ⟨Lc196, hQ196, l196, y196, z196⟩, st196⟩ := X184.virtualBack hx (y := (⟨"com/example/diotima/diotima/kb/Feature", "holds", "(D)Z"⟩ : MethodName)) (z := (⟨"com/example/diotima/diotima/kb/Feature", "holds", "(D)Z"⟩ : MethodName)) hown (mvT hZ (hw _ (List.mem_of_getElem? (i := 43) rfl))) (mvT hZ (hw _ (List.mem_of_getElem? (i := 44) rfl))) (notFace_of_selects (args := #[]) (mvT hZ (hw _ (List.mem_of_getElem? (i := 46) rfl)))) (mvT hZ (hw _ (List.mem_of_getElem? (i := 46) rfl))) (mvT hZ (hw _ (List.mem_of_getElem? (i := 45) rfl))) (by decide) (backOf (W := 0) (rmH l Z a0 hw [] a171 lo hi p3.toInt64 T184.heap n0 Z184 Q184_1 Q184_2 (own_wide (by rw [h_lo]; exact own_bd_min p1 p2 : OBd 2147483648 lo) (by decide)) (own_wide (by rw [h_hi]; exact own_bd_max p1 p2 : OBd 2147483648 hi) (by decide)) (own_wide (own_bd_i p3) (by decide))) hZ (hw _ (List.mem_of_getElem? (i := 47) rfl)) (hw _ (List.mem_of_getElem? (i := 9) rfl)) (by decide) (by decide)) q196a q196c (g := (mkF m 149 #[.val (.int p1), .val (.int p2), .val (.int p3), .val (.int p4), .val (.long lo), .second, .val (.long hi), .second, .val (.int (p4 &&& (7 : Int32))), .val (.long p3.toInt64), .second, .val (.ref a171), .val (.int (0 : Int32))] [(.double (FP.l2d p3.toInt64)), (.ref a171)])) rfl (by rw [hml]; rfl) (Steps.refl _) (argsL := [(.double (FP.l2d p3.toInt64))]) (rest := []) (lenOf pd_oDcZ rfl) rfl (by show 2 * 0 + _ ≤ _; exact Nat.le_of_eq rfl) (hb hby at_149) (fun _ _ => ⟨rfl, e184, (by decide : 3 + 0 ≤ _), (by decide : 11 + 0 ≤ _)⟩)
                dsimp only [Pt.U, Pt.locs, Pt.cells, Pt.slots] at X196 l196 y196 z196 st196 hQ196
                subst l196 y196 z196
                obtain ⟨rfl, N196a, eh196⟩ := hQ196
                have N196 := Fr.app N184 N196a
                have e196 : T196.heap = T184.heap := eh196
                have cn197 : ∀ t, Steps p.tables e below (T196.setTop (mkF m 152 #[.val (.int p1), .val (.int p2), .val (.int p3), .val (.int p4), .val (.long lo), .second, .val (.long hi), .second, .val (.int (p4 &&& (7 : Int32))), .val (.long p3.toInt64), .second, .val (.ref a171), .val (.int (0 : Int32))] [(.int (if ¬ p3.toInt64 < lo ∧ ¬ hi < p3.toInt64 then (1 : Int32) else 0))])) t → Steps p.tables e below (s₁.setTop (entryFrame m #[(.int p1), (.int p2), (.int p3), (.int p4)] maxLocals)) t := fun t k => cn195 t (st196.trans k)
                have cn198 : ∀ t, Steps p.tables e below (T196.setTop (mkF m 162 #[.val (.int p1), .val (.int p2), .val (.int p3), .val (.int p4), .val (.long lo), .second, .val (.long hi), .second, .val (.int (p4 &&& (7 : Int32))), .val (.long p3.toInt64), .second, .val (.ref a171), .val (.int (0 : Int32))] [(.int (1 : Int32))])) t → Steps p.tables e below (s₁.setTop (entryFrame m #[(.int p1), (.int p2), (.int p3), (.int p4)] maxLocals)) t := by
                  intro t k
                  refine cn197 t ?_
                  refine o_iload X196.here hx (hb hby at_152) rfl ?_
                  show Steps p.tables e below (T196.setTop (mkF m 154 #[.val (.int p1), .val (.int p2), .val (.int p3), .val (.int p4), .val (.long lo), .second, .val (.long hi), .second, .val (.int (p4 &&& (7 : Int32))), .val (.long p3.toInt64), .second, .val (.ref a171), .val (.int (0 : Int32))] [(.int (0 : Int32)), (.int (if ¬ p3.toInt64 < lo ∧ ¬ hi < p3.toInt64 then (1 : Int32) else 0))])) _
                  refine o_icmpNo X196.here hx (hb hby at_154) (XT.ii_ne_f (by simp [h126_188, h134_194])) ?_
                  refine o_iconstV X196.here hx (1 : Int32) (hb hby at_157) rfl ?_
                  show Steps p.tables e below (T196.setTop (mkF m 158 #[.val (.int p1), .val (.int p2), .val (.int p3), .val (.int p4), .val (.long lo), .second, .val (.long hi), .second, .val (.int (p4 &&& (7 : Int32))), .val (.long p3.toInt64), .second, .val (.ref a171), .val (.int (0 : Int32))] [(.int (1 : Int32))])) _
                  refine o_goto X196.here hx (pc' := 162) (hb hby at_158) (by decide) (by decide) ?_
                  exact k
                obtain ⟨fs, hr, hrun, hended, hend⟩ := X196.leaveW hS (by rw [e196]; exact (Nat.le_trans hkS K184.1)) (v := some (.int (1 : Int32))) (fun h => by rw [Bd.returns] at h; cases h)
                refine ⟨_, _, cn198 _ ?_, hrun, hended, _, _, rfl, ?_, hend.1, hend.2.1, hend.2.2.1, hend.2.2.2.mono (by decide) (by decide)⟩
                · exact retN X196 hx (t := .boolean) Bd.returns (by simp) (hb hby at_162) hr
                · show Q0 Z p1 p2 p3 p4 h0 n0 _ T196.heap _
                  rw [e196]
                  exact ⟨rfl, N196⟩
              · -- pc 134 not taken
                have cn199 : ∀ t, Steps p.tables e below (T184.setTop (mkF m 149 #[.val (.int p1), .val (.int p2), .val (.int p3), .val (.int p4), .val (.long lo), .second, .val (.long hi), .second, .val (.int (p4 &&& (7 : Int32))), .val (.long p3.toInt64), .second, .val (.ref a171), .val (.int (1 : Int32))] [(.double (FP.l2d p3.toInt64)), (.ref a171)])) t → Steps p.tables e below (s₁.setTop (entryFrame m #[(.int p1), (.int p2), (.int p3), (.int p4)] maxLocals)) t := by
                  intro t k
                  refine cn193 t ?_
                  refine o_ifNo X184.here hx (hb hby at_134) (XT.ll_gt_f h134_194) ?_
                  refine o_iconstV X184.here hx (1 : Int32) (hb hby at_137) rfl ?_
                  show Steps p.tables e below (T184.setTop (mkF m 138 #[.val (.int p1), .val (.int p2), .val (.int p3), .val (.int p4), .val (.long lo), .second, .val (.long hi), .second, .val (.int (p4 &&& (7 : Int32))), .val (.long p3.toInt64), .second, .val (.ref a171), .unset] [(.int (1 : Int32))])) _
                  refine o_goto X184.here hx (pc' := 142) (hb hby at_138) (by decide) (by decide) ?_
                  refine o_istore X184.here hx (hb hby at_142) (l' := #[.val (.int p1), .val (.int p2), .val (.int p3), .val (.int p4), .val (.long lo), .second, .val (.long hi), .second, .val (.int (p4 &&& (7 : Int32))), .val (.long p3.toInt64), .second, .val (.ref a171), .val (.int (1 : Int32))]) rfl ?_
                  refine o_aload X184.here hx (hb hby at_144) rfl rfl ?_
                  refine o_lload X184.here hx (hb hby at_146) rfl ?_
                  refine o_l2dS X184.here hx (hb hby at_148) (v := FP.l2d p3.toInt64) rfl ?_
                  exact k
                obtain ⟨cq200, kq200, q200a, q200b, q200c⟩ := isOf hZ e184 Q184_0
                obtain ⟨_, _, ⟨T200, L200, c200, n200⟩, -, X200, ⟨Lc200, hQ200, l200, y200, z200⟩, st200⟩ := X184.virtualBack hx (y := (⟨"com/example/diotima/diotima/kb/Feature", "holds", "(D)Z"⟩ : MethodName)) (z := (⟨"com/example/diotima/diotima/kb/Feature", "holds", "(D)Z"⟩ : MethodName)) hown (mvT hZ (hw _ (List.mem_of_getElem? (i := 43) rfl))) (mvT hZ (hw _ (List.mem_of_getElem? (i := 44) rfl))) (notFace_of_selects (args := #[]) (mvT hZ (hw _ (List.mem_of_getElem? (i := 46) rfl)))) (mvT hZ (hw _ (List.mem_of_getElem? (i := 46) rfl))) (mvT hZ (hw _ (List.mem_of_getElem? (i := 45) rfl))) (by decide) (backOf (W := 0) (rmH l Z a0 hw [] a171 lo hi p3.toInt64 T184.heap n0 Z184 Q184_1 Q184_2 (own_wide (by rw [h_lo]; exact own_bd_min p1 p2 : OBd 2147483648 lo) (by decide)) (own_wide (by rw [h_hi]; exact own_bd_max p1 p2 : OBd 2147483648 hi) (by decide)) (own_wide (own_bd_i p3) (by decide))) hZ (hw _ (List.mem_of_getElem? (i := 47) rfl)) (hw _ (List.mem_of_getElem? (i := 9) rfl)) (by decide) (by decide)) q200a q200c (g := (mkF m 149 #[.val (.int p1), .val (.int p2), .val (.int p3), .val (.int p4), .val (.long lo), .second, .val (.long hi), .second, .val (.int (p4 &&& (7 : Int32))), .val (.long p3.toInt64), .second, .val (.ref a171), .val (.int (1 : Int32))] [(.double (FP.l2d p3.toInt64)), (.ref a171)])) rfl (by rw [hml]; rfl) (Steps.refl _) (argsL := [(.double (FP.l2d p3.toInt64))]) (rest := []) (lenOf pd_oDcZ rfl) rfl (by show 2 * 0 + _ ≤ _; exact Nat.le_of_eq rfl) (hb hby at_149) (fun _ _ => ⟨rfl, e184, (by decide : 3 + 0 ≤ _), (by decide : 11 + 0 ≤ _)⟩)
                dsimp only [Pt.U, Pt.locs, Pt.cells, Pt.slots] at X200 l200 y200 z200 st200 hQ200
                subst l200 y200 z200
                obtain ⟨rfl, N200a, eh200⟩ := hQ200
                have N200 := Fr.app N184 N200a
                have e200 : T200.heap = T184.heap := eh200
                have cn201 : ∀ t, Steps p.tables e below (T200.setTop (mkF m 152 #[.val (.int p1), .val (.int p2), .val (.int p3), .val (.int p4), .val (.long lo), .second, .val (.long hi), .second, .val (.int (p4 &&& (7 : Int32))), .val (.long p3.toInt64), .second, .val (.ref a171), .val (.int (1 : Int32))] [(.int (if ¬ p3.toInt64 < lo ∧ ¬ hi < p3.toInt64 then (1 : Int32) else 0))])) t → Steps p.tables e below (s₁.setTop (entryFrame m #[(.int p1), (.int p2), (.int p3), (.int p4)] maxLocals)) t := fun t k => cn199 t (st200.trans k)
                have cn202 : ∀ t, Steps p.tables e below (T200.setTop (mkF m 162 #[.val (.int p1), .val (.int p2), .val (.int p3), .val (.int p4), .val (.long lo), .second, .val (.long hi), .second, .val (.int (p4 &&& (7 : Int32))), .val (.long p3.toInt64), .second, .val (.ref a171), .val (.int (1 : Int32))] [(.int (1 : Int32))])) t → Steps p.tables e below (s₁.setTop (entryFrame m #[(.int p1), (.int p2), (.int p3), (.int p4)] maxLocals)) t := by
                  intro t k
                  refine cn201 t ?_
                  refine o_iload X200.here hx (hb hby at_152) rfl ?_
                  show Steps p.tables e below (T200.setTop (mkF m 154 #[.val (.int p1), .val (.int p2), .val (.int p3), .val (.int p4), .val (.long lo), .second, .val (.long hi), .second, .val (.int (p4 &&& (7 : Int32))), .val (.long p3.toInt64), .second, .val (.ref a171), .val (.int (1 : Int32))] [(.int (1 : Int32)), (.int (if ¬ p3.toInt64 < lo ∧ ¬ hi < p3.toInt64 then (1 : Int32) else 0))])) _
                  refine o_icmpNo X200.here hx (hb hby at_154) (XT.ii_ne_f (by simp [h126_188, h134_194])) ?_
                  refine o_iconstV X200.here hx (1 : Int32) (hb hby at_157) rfl ?_
                  show Steps p.tables e below (T200.setTop (mkF m 158 #[.val (.int p1), .val (.int p2), .val (.int p3), .val (.int p4), .val (.long lo), .second, .val (.long hi), .second, .val (.int (p4 &&& (7 : Int32))), .val (.long p3.toInt64), .second, .val (.ref a171), .val (.int (1 : Int32))] [(.int (1 : Int32))])) _
                  refine o_goto X200.here hx (pc' := 162) (hb hby at_158) (by decide) (by decide) ?_
                  exact k
                obtain ⟨fs, hr, hrun, hended, hend⟩ := X200.leaveW hS (by rw [e200]; exact (Nat.le_trans hkS K184.1)) (v := some (.int (1 : Int32))) (fun h => by rw [Bd.returns] at h; cases h)
                refine ⟨_, _, cn202 _ ?_, hrun, hended, _, _, rfl, ?_, hend.1, hend.2.1, hend.2.2.1, hend.2.2.2.mono (by decide) (by decide)⟩
                · exact retN X200 hx (t := .boolean) Bd.returns (by simp) (hb hby at_162) hr
                · show Q0 Z p1 p2 p3 p4 h0 n0 _ T200.heap _
                  rw [e200]
                  exact ⟨rfl, N200⟩

set_option maxRecDepth 65536 in
set_option maxHeartbeats 40000000 in
theorem comes_1 {Post : Tables → Env → Array Value → State → Outcome → State → Prop} (hpost : ∀ tb e args s v u, (limb_1_1.after args s (.returned v) u = true ∧ limb_1_2.after args s (.returned v) u = true ∧ True) → ReturnedEndW s (.returned v) u (Jvm.fieldLocs frame_1_writes args s ++ Jvm.arrayLocs frame_1_arrays args s ++ Jvm.staticLocs frame_1_statics s) 16 1152 → Post tb e args s (.returned v) u) :
    ArmFor flags0 classFile x code maxLocals ret World_1 tables_1 room_1 Calls_1 rest_1 Pre_1 Post := by
  intro l hfl _ _ p e ha hc hk s m args below hf hA hF happ hP
  obtain ⟨hcalls, hrest, hpre⟩ := hP
  obtain ⟨-, -, -, hnamed, -, -, -, hat⟩ := (Spec.applies_iff hf).mp happ
  obtain ⟨hg, hn⟩ := and_e (Cond.before_iff.mp (show (Jvm.Cond.and given_1 narrow_1).before args s = true from hpre))
  obtain ⟨hcount, hr0⟩ := and_e hg
  obtain ⟨g0, hr1⟩ := and_e hr0
  obtain ⟨g1, hr2⟩ := and_e hr1
  obtain ⟨g2, hr3⟩ := and_e hr2
  have g3 := hr3
  obtain ⟨w0, w1, w2, w3, rfl⟩ : ∃ w0 w1 w2 w3 : Value, args = #[w0, w1, w2, w3] := by
    have hs : args.size = 4 := by simpa [Cond.value, given_1] using hcount
    obtain ⟨L⟩ := args
    match L, hs with
    | [w0, w1, w2, w3], _ => exact ⟨w0, w1, w2, w3, rfl⟩
  have hw := fun d (hd : d ∈ tables_1) => atoms_spec (ws := Jvm.Cond.code x code maxLocals ret :: tables_1) hat d (List.mem_cons_of_mem _ hd)
  have hfit : Fit s := fun {y c} hc i hi => by
    obtain ⟨ha, rfl⟩ := Array.getElem?_eq_some_iff.mp hc
    have q := List.all_eq_true.mp ((Array.all_eq_true_iff_forall_mem.mp hF) _ (Array.getElem_mem ha)) i (List.mem_range.mpr hi)
    simpa [Array.getElem?_eq_getElem hi] using q
  obtain ⟨i0, e0⟩ := is_v g0
  obtain rfl : w0 = (.int i0) := Option.some.inj e0
  obtain ⟨i1, e1⟩ := is_v g1
  obtain rfl : w1 = (.int i1) := Option.some.inj e1
  obtain ⟨i2, e2⟩ := is_v g2
  obtain rfl : w2 = (.int i2) := Option.some.inj e2
  obtain ⟨i3, e3⟩ := is_v g3
  obtain rfl : w3 = (.int i3) := Option.some.inj e3
  obtain ⟨n, o, h1, h2, h3, _, L, rfl, ⟨rfl, N⟩, hq⟩ := rm0 l s _ hw tables_1 i0 i1 i2 i3 s.heap s.heap.size (Nat.le_refl _)  p e ha hc hk s m _ below hf ((Spec.applies_iff_loose hf).mp happ).1 ⟨rfl, State.Warmed39.refl s, rfl⟩ trivial
  refine ⟨n, _, h1, h2, h3, hpost _ _ _ _ _ _ ⟨Cond.after_iff.mpr rfl, Cond.after_iff.mpr (eq_i res_at (Term.int_eval (1)) rfl), trivial⟩ ⟨hq.1, hq.2.1, hq.2.2.1, (hq.2.2.2.sift fun y hy => Or.inr (N y hy)).mono (by decide) (by decide)⟩⟩
theorem main_1_1 : Claimed_1_1 := comes_1 fun _ _ _ _ _ _ h hF => ⟨h.1, hF⟩
theorem main_1_2 : Claimed_1_2 := comes_1 fun _ _ _ _ _ _ h hF => ⟨h.2.1, hF⟩
end Jvm.Pilot.@@N@@
namespace Jvm.Pilot.@@N@@
open Jvm Jvm.ClassFile Sem Op Lib Jvm.Free Jvm.Stand Jvm.Pilot.@@N@@.Jvm.D
/-! MADE BY PROGRAM (witnessworld.py) out of the Statement's table words and the real class files: 18 classes; the members and pool entries that the words name. The judged class is class 1, her method 1. -/
namespace start1
open Jvm.ClassFile
def u (s : String) : CpInfo := .utf8 (stringToUtf16 s)
/-- a pool by its gaps: so many unusable entries, then the entry; so many at the end -/
def gap : Nat → List CpInfo → List CpInfo
  | 0, r => r
  | n + 1, r => .unusable :: gap n r
def poolList (es : List (Nat × CpInfo)) (last : Nat) : List CpInfo := es.foldr (fun e r => gap e.1 (e.2 :: r)) (gap last [])
def pool (es : List (Nat × CpInfo)) (last : Nat) : Array CpInfo := ⟨poolList es last⟩
def fileOf (pool : Array CpInfo) (this : Nat) (attrs : Array Attribute := #[]) (ms : Array MethodInfo := #[]) (fl : Nat := 33) (sup : Nat := 0) (ifs : Array Nat := #[]) (fds : Array FieldInfo := #[]) : ClassFile where
  minorVersion := 0
  majorVersion := 65
  constantPool := pool
  accessFlags := fl
  thisClass := this
  superClass := sup
  interfaces := ifs
  fields := fds
  methods := ms
  attributes := attrs
def plain (name : String) (sup : Option ClassId) : Class where
  name := name
  kind := .ordinary
  loader := none
  accessFlags := 33
  super := sup
  interfaces := #[]
  cf := none
  fields := #[]
  methods := #[]
  instanceTypes := #[]
  staticTypes := #[]
  resolved := #[]
  callSites := []
  init := .initialized
  statics := none
  mirror := none

def pool0 : Array CpInfo := pool [(5, u "<init>"), (0, u "()V"), (1, .class_ 10), (1, u "java/lang/Object")] 113

def k0c0 : Code := { maxStack := 0, maxLocals := 1, code := object_method_1_code, exceptionTable := #[], attributes := #[] }
def k0m0 : Method := { name := "<init>", desc := "()V", sig := { parameters := [], returnType := none }, accessFlags := 1, code := some k0c0 }
/-- java/lang/Object -/
def k0 : Class := { plain "java/lang/Object" none with
  accessFlags := 33
  interfaces := #[]
  cf := some (fileOf pool0 8 #[] #[{ accessFlags := 1, nameIndex := 5, descriptorIndex := 6, attributes := #[] }] 33 0 #[] #[])
  fields := #[]
  methods := #[k0m0]
  instanceTypes := #[]
  staticTypes := #[]
  resolved := Array.replicate 124 none
  statics := none }

def pool1 : Array CpInfo := pool [(2, .class_ 4), (1, u "java/lang/Object"), (0, u "<init>"), (0, u "()V"), (0, .methodref 8 9), (0, .class_ 10), (0, .nameAndType 11 12), (0, u "java/lang/Math"), (0, u "min"), (0, u "(JJ)J"), (0, .methodref 8 14), (0, .nameAndType 15 12), (0, u "max"), (0, .long 2), (1, .class_ 19), (0, u "com/example/diotima/diotima/kb/Feature"), (0, .string 21), (0, u "f"), (0, .methodref 18 23), (0, .nameAndType 5 24), (0, u "(Ljava/lang/String;DD)V"), (0, .methodref 18 26), (0, .nameAndType 27 28), (0, u "holds"), (0, u "(D)Z"), (0, .class_ 30), (0, u "com/example/diotima/diotima/kb/FeatureHoldsPinLaw"), (2, u "law"), (0, u "(IIII)Z")] 3

def k1m0 : Method := { name := "<init>", desc := "()V", sig := { parameters := [], returnType := none }, accessFlags := 1, code := none }
def k1c1 : Code := { maxStack := 7, maxLocals := 13, code := code, exceptionTable := #[], attributes := #[] }
def k1m1 : Method := { name := "law", desc := "(IIII)Z", sig := { parameters := [.int, .int, .int, .int], returnType := some .boolean }, accessFlags := 9, code := some k1c1 }
/-- com/example/diotima/diotima/kb/FeatureHoldsPinLaw -/
def k1 : Class := { plain "com/example/diotima/diotima/kb/FeatureHoldsPinLaw" (some 0) with
  accessFlags := 49
  interfaces := #[]
  cf := some (fileOf pool1 29 #[] #[{ accessFlags := 1, nameIndex := 5, descriptorIndex := 6, attributes := #[] }, { accessFlags := 9, nameIndex := 33, descriptorIndex := 34, attributes := #[] }] 49 2 #[] #[])
  fields := #[]
  methods := #[k1m0, k1m1]
  instanceTypes := #[]
  staticTypes := #[]
  resolved := Array.replicate 38 none
  statics := none }

def pool2 : Array CpInfo := pool [(1, .class_ 2), (0, u "java/lang/Math"), (1, .class_ 6), (1, u "java/lang/Object"), (0, u "<init>"), (0, u "()V"), (5, u "(D)D"), (83, .class_ 100), (1, u "java/lang/Math$RandomNumberGeneratorHolder"), (20, u "(JJ)J"), (2, u "abs"), (47, u "negativeZeroFloatBits"), (0, u "J"), (2, u "negativeZeroDoubleBits"), (21, u "max"), (2, u "min"), (43, u "$assertionsDisabled"), (0, u "Z"), (91, u "twoToTheDoubleScaleDown"), (0, u "D"), (4, u "twoToTheDoubleScaleUp"), (9, u "E"), (3, u "PI"), (2, u "TAU"), (2, u "DEGREES_TO_RADIANS"), (0, u "RADIANS_TO_DEGREES")] 94

def k2m0 : Method := { name := "<init>", desc := "()V", sig := { parameters := [], returnType := none }, accessFlags := 2, code := none }
def k2c1 : Code := { maxStack := 4, maxLocals := 2, code := jdk_29_method_64_code, exceptionTable := #[], attributes := #[] }
def k2m1 : Method := { name := "abs", desc := "(D)D", sig := { parameters := [.double], returnType := some .double }, accessFlags := 9, code := some k2c1 }
def k2c2 : Code := { maxStack := 4, maxLocals := 4, code := jdk_29_method_66_code, exceptionTable := #[], attributes := #[] }
def k2m2 : Method := { name := "max", desc := "(JJ)J", sig := { parameters := [.long, .long], returnType := some .long }, accessFlags := 9, code := some k2c2 }
def k2c3 : Code := { maxStack := 4, maxLocals := 4, code := jdk_29_method_70_code, exceptionTable := #[], attributes := #[] }
def k2m3 : Method := { name := "min", desc := "(JJ)J", sig := { parameters := [.long, .long], returnType := some .long }, accessFlags := 9, code := some k2c3 }
/-- java/lang/Math -/
def k2 : Class := { plain "java/lang/Math" (some 0) with
  accessFlags := 49
  interfaces := #[]
  cf := some (fileOf pool2 1 #[.nestMembers #[98]] #[{ accessFlags := 2, nameIndex := 7, descriptorIndex := 8, attributes := #[] }, { accessFlags := 9, nameIndex := 124, descriptorIndex := 14, attributes := #[] }, { accessFlags := 9, nameIndex := 198, descriptorIndex := 121, attributes := #[] }, { accessFlags := 9, nameIndex := 201, descriptorIndex := 121, attributes := #[] }] 49 4 #[] #[{ accessFlags := 25, nameIndex := 354, descriptorIndex := 339, attributes := #[] }, { accessFlags := 25, nameIndex := 358, descriptorIndex := 339, attributes := #[] }, { accessFlags := 25, nameIndex := 361, descriptorIndex := 339, attributes := #[] }, { accessFlags := 26, nameIndex := 364, descriptorIndex := 339, attributes := #[] }, { accessFlags := 26, nameIndex := 365, descriptorIndex := 339, attributes := #[] }, { accessFlags := 26, nameIndex := 172, descriptorIndex := 173, attributes := #[] }, { accessFlags := 26, nameIndex := 176, descriptorIndex := 173, attributes := #[] }, { accessFlags := 8, nameIndex := 344, descriptorIndex := 339, attributes := #[] }, { accessFlags := 8, nameIndex := 338, descriptorIndex := 339, attributes := #[] }, { accessFlags := 4120, nameIndex := 245, descriptorIndex := 246, attributes := #[] }])
  fields := #[{ name := "E", type := .double, accessFlags := 25, slot := 0, constantValue := 0 }, { name := "PI", type := .double, accessFlags := 25, slot := 1, constantValue := 0 }, { name := "TAU", type := .double, accessFlags := 25, slot := 2, constantValue := 0 }, { name := "DEGREES_TO_RADIANS", type := .double, accessFlags := 26, slot := 3, constantValue := 0 }, { name := "RADIANS_TO_DEGREES", type := .double, accessFlags := 26, slot := 4, constantValue := 0 }, { name := "negativeZeroFloatBits", type := .long, accessFlags := 26, slot := 5, constantValue := 0 }, { name := "negativeZeroDoubleBits", type := .long, accessFlags := 26, slot := 6, constantValue := 0 }, { name := "twoToTheDoubleScaleUp", type := .double, accessFlags := 8, slot := 7, constantValue := 0 }, { name := "twoToTheDoubleScaleDown", type := .double, accessFlags := 8, slot := 8, constantValue := 0 }, { name := "$assertionsDisabled", type := .boolean, accessFlags := 4120, slot := 9, constantValue := 0 }]
  methods := #[k2m0, k2m1, k2m2, k2m3]
  instanceTypes := #[]
  staticTypes := #[.double, .double, .double, .double, .double, .long, .long, .double, .double, .boolean]
  resolved := Array.replicate 460 none
  statics := none }

def pool3 : Array CpInfo := pool [(1, .methodref 2 3), (0, .class_ 4), (0, .nameAndType 5 6), (0, u "java/lang/Object"), (0, u "<init>"), (0, u "()V"), (0, .class_ 8), (0, u "java/lang/Record")] 13

def k3c0 : Code := { maxStack := 1, maxLocals := 1, code := jdk_30_method_1_code, exceptionTable := #[], attributes := #[] }
def k3m0 : Method := { name := "<init>", desc := "()V", sig := { parameters := [], returnType := none }, accessFlags := 4, code := some k3c0 }
/-- java/lang/Record -/
def k3 : Class := { plain "java/lang/Record" (some 0) with
  accessFlags := 1057
  interfaces := #[]
  cf := some (fileOf pool3 7 #[] #[{ accessFlags := 4, nameIndex := 5, descriptorIndex := 6, attributes := #[] }] 1057 2 #[] #[])
  fields := #[]
  methods := #[k3m0]
  instanceTypes := #[]
  staticTypes := #[]
  resolved := Array.replicate 22 none
  statics := none }

def pool4 : Array CpInfo := pool [(1, .methodref 2 3), (0, .class_ 4), (0, .nameAndType 5 6), (0, u "java/lang/Record"), (0, u "<init>"), (0, u "()V"), (0, .methodref 8 9), (0, .class_ 10), (0, .nameAndType 11 12), (0, u "java/lang/Double"), (0, u "isFinite"), (0, u "(D)Z"), (9, .fieldref 23 24), (0, .class_ 25), (0, .nameAndType 26 27), (0, u "com/example/diotima/diotima/kb/Feature"), (0, u "name"), (0, u "Ljava/lang/String;"), (0, .fieldref 23 29), (0, .nameAndType 30 31), (0, u "low"), (0, u "D"), (0, .fieldref 23 33), (0, .nameAndType 34 31), (0, u "high"), (12, u "(Ljava/lang/String;DD)V"), (6, u "holds")] 34

def k4c0 : Code := { maxStack := 6, maxLocals := 6, code := prog_30_method_1_code, exceptionTable := #[], attributes := #[] }
def k4m0 : Method := { name := "<init>", desc := "(Ljava/lang/String;DD)V", sig := { parameters := [(.object "java/lang/String"), .double, .double], returnType := none }, accessFlags := 1, code := some k4c0 }
def k4c1 : Code := { maxStack := 4, maxLocals := 3, code := prog_30_method_2_code, exceptionTable := #[], attributes := #[] }
def k4m1 : Method := { name := "holds", desc := "(D)Z", sig := { parameters := [.double], returnType := some .boolean }, accessFlags := 1, code := some k4c1 }
/-- com/example/diotima/diotima/kb/Feature -/
def k4 : Class := { plain "com/example/diotima/diotima/kb/Feature" (some 3) with
  accessFlags := 49
  interfaces := #[]
  cf := some (fileOf pool4 23 #[] #[{ accessFlags := 1, nameIndex := 5, descriptorIndex := 47, attributes := #[] }, { accessFlags := 1, nameIndex := 54, descriptorIndex := 12, attributes := #[] }] 49 2 #[] #[{ accessFlags := 18, nameIndex := 26, descriptorIndex := 27, attributes := #[] }, { accessFlags := 18, nameIndex := 30, descriptorIndex := 31, attributes := #[] }, { accessFlags := 18, nameIndex := 34, descriptorIndex := 31, attributes := #[] }])
  fields := #[{ name := "name", type := (.object "java/lang/String"), accessFlags := 18, slot := 0, constantValue := 0 }, { name := "low", type := .double, accessFlags := 18, slot := 1, constantValue := 0 }, { name := "high", type := .double, accessFlags := 18, slot := 2, constantValue := 0 }]
  methods := #[k4m0, k4m1]
  instanceTypes := #[(.object "java/lang/String"), .double, .double]
  staticTypes := #[]
  resolved := Array.replicate 89 none
  statics := none }

def pool5 : Array CpInfo := pool [(1, .class_ 2), (0, u "java/io/Serializable"), (0, .class_ 4), (0, u "java/lang/Object")] 2

/-- java/io/Serializable -/
def k5 : Class := { plain "java/io/Serializable" (some 0) with
  accessFlags := 1537
  interfaces := #[]
  cf := some (fileOf pool5 1 #[] #[] 1537 3 #[] #[])
  fields := #[]
  methods := #[]
  instanceTypes := #[]
  staticTypes := #[]
  resolved := Array.replicate 7 none
  statics := none }

def pool6 : Array CpInfo := pool [(1, .class_ 2), (0, u "java/lang/Comparable"), (0, .class_ 4), (0, u "java/lang/Object")] 7

/-- java/lang/Comparable -/
def k6 : Class := { plain "java/lang/Comparable" (some 0) with
  accessFlags := 1537
  interfaces := #[]
  cf := some (fileOf pool6 1 #[] #[] 1537 3 #[] #[])
  fields := #[]
  methods := #[]
  instanceTypes := #[]
  staticTypes := #[]
  resolved := Array.replicate 12 none
  statics := none }

def pool7 : Array CpInfo := pool [(2, .class_ 4), (1, u "java/lang/CharSequence"), (42, .class_ 48), (0, u "java/lang/CharSequence$1CodePointIterator"), (10, .class_ 60), (0, u "java/lang/CharSequence$1CharIterator"), (5, .class_ 67), (0, u "java/lang/Object")] 63

/-- java/lang/CharSequence -/
def k7 : Class := { plain "java/lang/CharSequence" (some 0) with
  accessFlags := 1537
  interfaces := #[]
  cf := some (fileOf pool7 2 #[.nestMembers #[47, 59]] #[] 1537 66 #[] #[])
  fields := #[]
  methods := #[]
  instanceTypes := #[]
  staticTypes := #[]
  resolved := Array.replicate 131 none
  statics := none }

def pool8 : Array CpInfo := pool [(1, .class_ 2), (0, u "java/lang/constant/Constable"), (0, .class_ 4), (0, u "java/lang/Object")] 6

/-- java/lang/constant/Constable -/
def k8 : Class := { plain "java/lang/constant/Constable" (some 0) with
  accessFlags := 1537
  interfaces := #[]
  cf := some (fileOf pool8 1 #[] #[] 1537 3 #[] #[])
  fields := #[]
  methods := #[]
  instanceTypes := #[]
  staticTypes := #[]
  resolved := Array.replicate 11 none
  statics := none }

def pool9 : Array CpInfo := pool [(1, .class_ 2), (0, u "java/lang/constant/ConstantDesc"), (0, .class_ 4), (0, u "java/lang/Object")] 32

/-- java/lang/constant/ConstantDesc -/
def k9 : Class := { plain "java/lang/constant/ConstantDesc" (some 0) with
  accessFlags := 1537
  interfaces := #[]
  cf := some (fileOf pool9 1 #[] #[] 1537 3 #[] #[])
  fields := #[]
  methods := #[]
  instanceTypes := #[]
  staticTypes := #[]
  resolved := Array.replicate 37 none
  statics := none }

def pool10 : Array CpInfo := pool [(2, .class_ 4), (1, u "java/lang/Object"), (0, u "<init>"), (0, u "()V"), (3, .class_ 12), (1, u "java/lang/String"), (0, u "value"), (0, u "[B"), (2, u "coder"), (0, u "B"), (2, u "hash"), (0, u "I"), (2, u "hashIsZero"), (0, u "Z"), (13, u "COMPACT_STRINGS"), (534, .class_ 576), (0, u "java/lang/CharSequence"), (22, u "CASE_INSENSITIVE_ORDER"), (0, u "Ljava/util/Comparator;"), (500, u "serialPersistentFields"), (0, u "[Ljava/io/ObjectStreamField;"), (0, .class_ 1104), (0, u "java/lang/String$CaseInsensitiveComparator"), (1, .class_ 1107), (0, u "java/io/Serializable"), (0, .class_ 1109), (0, u "java/lang/Comparable"), (0, .class_ 1111), (0, u "java/lang/constant/Constable"), (0, .class_ 1113), (0, u "java/lang/constant/ConstantDesc"), (2, u "serialVersionUID"), (0, u "J"), (3, u "REPL"), (0, u "C"), (2, u "LATIN1"), (1, u "UTF16")] 323

def k10m0 : Method := { name := "<init>", desc := "()V", sig := { parameters := [], returnType := none }, accessFlags := 1, code := none }
/-- java/lang/String -/
def k10 : Class := { plain "java/lang/String" (some 0) with
  accessFlags := 49
  interfaces := #[5, 6, 7, 8, 9]
  cf := some (fileOf pool10 10 #[.nestMembers #[1103]] #[{ accessFlags := 1, nameIndex := 5, descriptorIndex := 6, attributes := #[] }] 49 2 #[1106, 1108, 575, 1110, 1112] #[{ accessFlags := 18, nameIndex := 13, descriptorIndex := 14, attributes := #[] }, { accessFlags := 18, nameIndex := 17, descriptorIndex := 18, attributes := #[] }, { accessFlags := 2, nameIndex := 21, descriptorIndex := 22, attributes := #[] }, { accessFlags := 2, nameIndex := 25, descriptorIndex := 26, attributes := #[] }, { accessFlags := 26, nameIndex := 1116, descriptorIndex := 1117, attributes := #[] }, { accessFlags := 24, nameIndex := 40, descriptorIndex := 26, attributes := #[] }, { accessFlags := 26, nameIndex := 1101, descriptorIndex := 1102, attributes := #[] }, { accessFlags := 26, nameIndex := 1121, descriptorIndex := 1122, attributes := #[] }, { accessFlags := 25, nameIndex := 599, descriptorIndex := 600, attributes := #[] }, { accessFlags := 24, nameIndex := 1125, descriptorIndex := 18, attributes := #[] }, { accessFlags := 24, nameIndex := 1127, descriptorIndex := 18, attributes := #[] }])
  fields := #[{ name := "value", type := (.array .byte), accessFlags := 18, slot := 0, constantValue := 0 }, { name := "coder", type := .byte, accessFlags := 18, slot := 1, constantValue := 0 }, { name := "hash", type := .int, accessFlags := 2, slot := 2, constantValue := 0 }, { name := "hashIsZero", type := .boolean, accessFlags := 2, slot := 3, constantValue := 0 }, { name := "serialVersionUID", type := .long, accessFlags := 26, slot := 0, constantValue := 0 }, { name := "COMPACT_STRINGS", type := .boolean, accessFlags := 24, slot := 1, constantValue := 0 }, { name := "serialPersistentFields", type := (.array (.object "java/io/ObjectStreamField")), accessFlags := 26, slot := 2, constantValue := 0 }, { name := "REPL", type := .char, accessFlags := 26, slot := 3, constantValue := 0 }, { name := "CASE_INSENSITIVE_ORDER", type := (.object "java/util/Comparator"), accessFlags := 25, slot := 4, constantValue := 0 }, { name := "LATIN1", type := .byte, accessFlags := 24, slot := 5, constantValue := 0 }, { name := "UTF16", type := .byte, accessFlags := 24, slot := 6, constantValue := 0 }]
  methods := #[k10m0]
  instanceTypes := #[(.array .byte), .byte, .int, .boolean]
  staticTypes := #[.long, .boolean, (.array (.object "java/io/ObjectStreamField")), .char, (.object "java/util/Comparator"), .byte, .byte]
  resolved := Array.replicate 1451 none
  statics := none }

def pool11 : Array CpInfo := pool [(2, .class_ 4), (1, u "java/lang/Object"), (0, u "<init>"), (0, u "()V"), (1, .class_ 10), (1, u "java/lang/Number"), (2, .class_ 14), (0, u "java/io/Serializable"), (0, u "serialVersionUID"), (0, u "J")] 20

def k11m0 : Method := { name := "<init>", desc := "()V", sig := { parameters := [], returnType := none }, accessFlags := 1, code := none }
/-- java/lang/Number -/
def k11 : Class := { plain "java/lang/Number" (some 0) with
  accessFlags := 1057
  interfaces := #[5]
  cf := some (fileOf pool11 8 #[] #[{ accessFlags := 1, nameIndex := 5, descriptorIndex := 6, attributes := #[] }] 1057 2 #[13] #[{ accessFlags := 26, nameIndex := 15, descriptorIndex := 16, attributes := #[] }])
  fields := #[{ name := "serialVersionUID", type := .long, accessFlags := 26, slot := 0, constantValue := 0 }]
  methods := #[k11m0]
  instanceTypes := #[]
  staticTypes := #[.long]
  resolved := Array.replicate 37 none
  statics := none }

def pool12 : Array CpInfo := pool [(1, .class_ 2), (0, u "java/lang/Double"), (10, u "isFinite"), (0, u "(D)Z"), (8, .class_ 25), (1, u "java/lang/Math"), (12, .methodref 23 39), (0, .nameAndType 40 41), (0, u "abs"), (0, u "(D)D"), (69, .double 9218868437227405311), (2, .class_ 116), (1, u "java/lang/Number"), (3, u "value"), (0, u "D"), (51, u "TYPE"), (0, u "Ljava/lang/Class;"), (0, .class_ 176), (0, u "java/lang/Comparable"), (0, .class_ 178), (0, u "java/lang/constant/Constable"), (0, .class_ 180), (0, u "java/lang/constant/ConstantDesc"), (0, u "POSITIVE_INFINITY"), (3, u "NEGATIVE_INFINITY"), (2, u "NaN"), (2, u "MAX_VALUE"), (0, u "MIN_NORMAL"), (0, u "MIN_VALUE"), (2, u "SIZE"), (0, u "I"), (1, u "PRECISION"), (1, u "MAX_EXPONENT"), (1, u "MIN_EXPONENT"), (1, u "BYTES"), (3, u "serialVersionUID"), (0, u "J")] 79

def k12c0 : Code := { maxStack := 4, maxLocals := 2, code := jdk_117_method_8_code, exceptionTable := #[], attributes := #[] }
def k12m0 : Method := { name := "isFinite", desc := "(D)Z", sig := { parameters := [.double], returnType := some .boolean }, accessFlags := 9, code := some k12c0 }
/-- java/lang/Double -/
def k12 : Class := { plain "java/lang/Double" (some 11) with
  accessFlags := 49
  interfaces := #[6, 8, 9]
  cf := some (fileOf pool12 1 #[] #[{ accessFlags := 9, nameIndex := 13, descriptorIndex := 14, attributes := #[] }] 49 114 #[175, 177, 179] #[{ accessFlags := 25, nameIndex := 181, descriptorIndex := 121, attributes := #[] }, { accessFlags := 25, nameIndex := 185, descriptorIndex := 121, attributes := #[] }, { accessFlags := 25, nameIndex := 188, descriptorIndex := 121, attributes := #[] }, { accessFlags := 25, nameIndex := 191, descriptorIndex := 121, attributes := #[] }, { accessFlags := 25, nameIndex := 192, descriptorIndex := 121, attributes := #[] }, { accessFlags := 25, nameIndex := 193, descriptorIndex := 121, attributes := #[] }, { accessFlags := 25, nameIndex := 196, descriptorIndex := 197, attributes := #[] }, { accessFlags := 25, nameIndex := 199, descriptorIndex := 197, attributes := #[] }, { accessFlags := 25, nameIndex := 201, descriptorIndex := 197, attributes := #[] }, { accessFlags := 25, nameIndex := 203, descriptorIndex := 197, attributes := #[] }, { accessFlags := 25, nameIndex := 205, descriptorIndex := 197, attributes := #[] }, { accessFlags := 25, nameIndex := 173, descriptorIndex := 174, attributes := #[] }, { accessFlags := 18, nameIndex := 120, descriptorIndex := 121, attributes := #[] }, { accessFlags := 26, nameIndex := 209, descriptorIndex := 210, attributes := #[] }])
  fields := #[{ name := "POSITIVE_INFINITY", type := .double, accessFlags := 25, slot := 0, constantValue := 0 }, { name := "NEGATIVE_INFINITY", type := .double, accessFlags := 25, slot := 1, constantValue := 0 }, { name := "NaN", type := .double, accessFlags := 25, slot := 2, constantValue := 0 }, { name := "MAX_VALUE", type := .double, accessFlags := 25, slot := 3, constantValue := 0 }, { name := "MIN_NORMAL", type := .double, accessFlags := 25, slot := 4, constantValue := 0 }, { name := "MIN_VALUE", type := .double, accessFlags := 25, slot := 5, constantValue := 0 }, { name := "SIZE", type := .int, accessFlags := 25, slot := 6, constantValue := 0 }, { name := "PRECISION", type := .int, accessFlags := 25, slot := 7, constantValue := 0 }, { name := "MAX_EXPONENT", type := .int, accessFlags := 25, slot := 8, constantValue := 0 }, { name := "MIN_EXPONENT", type := .int, accessFlags := 25, slot := 9, constantValue := 0 }, { name := "BYTES", type := .int, accessFlags := 25, slot := 10, constantValue := 0 }, { name := "TYPE", type := (.object "java/lang/Class"), accessFlags := 25, slot := 11, constantValue := 0 }, { name := "value", type := .double, accessFlags := 18, slot := 0, constantValue := 0 }, { name := "serialVersionUID", type := .long, accessFlags := 26, slot := 12, constantValue := 0 }]
  methods := #[k12m0]
  instanceTypes := #[.double]
  staticTypes := #[.double, .double, .double, .double, .double, .double, .int, .int, .int, .int, .int, (.object "java/lang/Class"), .long]
  resolved := Array.replicate 290 none
  statics := none }

def pool13 : Array CpInfo := pool [(1, u "java/lang/Cloneable"), (0, .class_ 1), (0, u "java/lang/Object"), (0, .class_ 3)] 3

/-- java/lang/Cloneable -/
def k13 : Class := { plain "java/lang/Cloneable" (some 0) with
  accessFlags := 1537
  interfaces := #[]
  cf := some (fileOf pool13 2 #[] #[] 1537 4 #[] #[])
  fields := #[]
  methods := #[]
  instanceTypes := #[]
  staticTypes := #[]
  resolved := Array.replicate 8 none
  statics := none }

/-- the primitive byte -/
def k14 : Class := { plain "byte" none with kind := .primitive 'B', accessFlags := 0x411 }
/-- [B -/
def k15 : Class := { plain "[B" (some 0) with kind := .array 14 .byte, interfaces := #[13, 5], accessFlags := 1041 }

/-- the primitive int -/
def k16 : Class := { plain "int" none with kind := .primitive 'I', accessFlags := 0x411 }
/-- [I -/
def k17 : Class := { plain "[I" (some 0) with kind := .array 16 .int, interfaces := #[13, 5], accessFlags := 1041 }

def heap : Heap := #[]
def classes : Array Class := #[k0, k1, k2, k3, k4, k5, k6, k7, k8, k9, k10, k11, k12, k13, k14, k15, k16, k17]
def interned : List (Array UInt16 × Addr) := []
def slotsUsed : Nat := 0
def theMethod : MethodId := ⟨1, 1⟩
def args0 : Array Value := #[.int 5, .int 1, .int 2, .int 3]
def aboutOver (below : List Frame) : State where
  vm := { classes := classes, interned := interned.toArray }
  heap := heap
  slotsUsed := slotsUsed
  threads := #[{ frames := .invoking theMethod args0 :: below }]
def below0 : List Frame := [.native { method := ⟨0, 0⟩, args := #[] }]
def about1 : State := aboutOver below0
def p0 : Program := .bare "" "" ""
def e0 : Env := launch0.env 0 0 0
theorem w_frames : about1.frames = Frame.invoking theMethod args0 :: below0 := rfl
set_option maxRecDepth 65536 in
theorem w_args : argsFit about1.vm theMethod args0 = true := by decide +kernel
set_option maxRecDepth 65536 in
theorem w_heap : heapFits about1 = true := by decide +kernel
set_option maxRecDepth 65536 in
theorem w_runnable : about1.curStatus? = some .runnable := by decide +kernel
set_option maxRecDepth 65536 in
theorem w_alone : about1.alone = true := by decide +kernel
set_option maxRecDepth 65536 in
theorem w_named : about1.methodNamed? x = some theMethod := by decide +kernel
set_option maxRecDepth 65536 in
theorem w_hears : about1.hears theMethod below0 = true := by decide +kernel
set_option maxRecDepth 65536 in
theorem w_ripe : about1.ripe theMethod args0 below0 = true := by decide +kernel
theorem w_running : about1.status = .running := rfl
set_option maxRecDepth 65536 in
theorem w_room : about1.hasRoom e0.platform room_1 = true :=
  launch0.hasRoom_least _ room_1 (by decide +kernel) (by decide +kernel) (by decide +kernel) (by decide +kernel) (by decide +kernel) (by decide +kernel)
theorem allAtoms_all (ts : List Jvm.Cond) (a : Array Jvm.Value) (st : Jvm.State) : (allAtoms ts).before a st = ts.all (fun c => c.before a st) := by
  induction ts with
  | nil => rfl
  | cons c t ih =>
    show (Jvm.Cond.and c (allAtoms t)).before a st = _
    rw [Jvm.Cond.before_and, ih, List.all_cons]
def words1 : List Jvm.Cond := Jvm.Cond.code x code maxLocals ret :: tables_1
/-- a 'code' word, met by the world's own term for the bytes: nothing is compared byte by byte -/
theorem code_word {y : MethodName} {bytes : ByteArray} {mx : Nat} {rt : Option FieldType} {a : Array Value} {s : State} {m : MethodId} {meth : Method} {c : Code} (h1 : s.methodNamed? y = some m) (h2 : s.vm.method? m = some meth) (h3 : meth.code = some c) (h4 : c.code = bytes)
    (h5 : (c.maxLocals == mx && c.exceptionTable.isEmpty && decide (c.maxStack ≤ mostOperands) && decide (meth.sig.returnType = rt) && !meth.locks && decide (parseMethodDescriptor y.desc = some meth.sig)) = true) : (Jvm.Cond.code y bytes mx rt).before a s = true := by
  simp only [Bool.and_eq_true, beq_iff_eq, Bool.not_eq_true', decide_eq_true_eq] at h5
  obtain ⟨⟨⟨⟨⟨g1, g2⟩, g3⟩, g4⟩, g5⟩, g6⟩ := h5
  simp [Cond.before, Cond.holds, Cond.value, h1, h2, h3, h4, g1, g2, g3, g4, g5, g6]
def isCode : Jvm.Cond → Bool
  | .code _ _ _ _ => true
  | _ => false
theorem all_split {L : List Jvm.Cond} {P : Jvm.Cond → Bool} (h1 : L.all (fun c => isCode c || P c) = true) (h2 : ∀ c ∈ L.filter isCode, P c = true) : L.all P = true := by
  refine List.all_eq_true.mpr fun c hc => ?_
  have h := List.all_eq_true.mp h1 c hc
  rcases Bool.eq_false_or_eq_true (isCode c) with hi | hi
  · exact h2 c (List.mem_filter.mpr ⟨hc, hi⟩)
  · simpa [hi] using h
set_option maxRecDepth 65536 in
theorem w_c0 : (Jvm.Cond.code x code maxLocals ret).before args0 about1 = true := code_word (m := ⟨1, 1⟩) (meth := k1m1) (c := k1c1) (by decide +kernel) rfl rfl rfl (by decide +kernel)
set_option maxRecDepth 65536 in
theorem w_c1 : (Jvm.Cond.code ({ cls := "java/lang/Math", name := "min", desc := "(JJ)J" } : Jvm.MethodName) jdk_29_method_70_code (4 : Nat) (Option.some Jvm.ClassFile.FieldType.long)).before args0 about1 = true := code_word (m := ⟨2, 3⟩) (meth := k2m3) (c := k2c3) (by decide +kernel) rfl rfl rfl (by decide +kernel)
set_option maxRecDepth 65536 in
theorem w_c2 : (Jvm.Cond.code ({ cls := "java/lang/Math", name := "max", desc := "(JJ)J" } : Jvm.MethodName) jdk_29_method_66_code (4 : Nat) (Option.some Jvm.ClassFile.FieldType.long)).before args0 about1 = true := code_word (m := ⟨2, 2⟩) (meth := k2m2) (c := k2c2) (by decide +kernel) rfl rfl rfl (by decide +kernel)
set_option maxRecDepth 65536 in
theorem w_c3 : (Jvm.Cond.code ({ cls := "com/example/diotima/diotima/kb/Feature", name := "<init>", desc := "(Ljava/lang/String;DD)V" } : Jvm.MethodName) prog_30_method_1_code (6 : Nat) (Option.none : Option Jvm.ClassFile.FieldType)).before args0 about1 = true := code_word (m := ⟨4, 0⟩) (meth := k4m0) (c := k4c0) (by decide +kernel) rfl rfl rfl (by decide +kernel)
set_option maxRecDepth 65536 in
theorem w_c4 : (Jvm.Cond.code ({ cls := "java/lang/Record", name := "<init>", desc := "()V" } : Jvm.MethodName) jdk_30_method_1_code (1 : Nat) (Option.none : Option Jvm.ClassFile.FieldType)).before args0 about1 = true := code_word (m := ⟨3, 0⟩) (meth := k3m0) (c := k3c0) (by decide +kernel) rfl rfl rfl (by decide +kernel)
set_option maxRecDepth 65536 in
theorem w_c5 : (Jvm.Cond.code ({ cls := "java/lang/Object", name := "<init>", desc := "()V" } : Jvm.MethodName) object_method_1_code (1 : Nat) (Option.none : Option Jvm.ClassFile.FieldType)).before args0 about1 = true := code_word (m := ⟨0, 0⟩) (meth := k0m0) (c := k0c0) (by decide +kernel) rfl rfl rfl (by decide +kernel)
set_option maxRecDepth 65536 in
theorem w_c6 : (Jvm.Cond.code ({ cls := "java/lang/Double", name := "isFinite", desc := "(D)Z" } : Jvm.MethodName) jdk_117_method_8_code (2 : Nat) (Option.some Jvm.ClassFile.FieldType.boolean)).before args0 about1 = true := code_word (m := ⟨12, 0⟩) (meth := k12m0) (c := k12c0) (by decide +kernel) rfl rfl rfl (by decide +kernel)
set_option maxRecDepth 65536 in
theorem w_c7 : (Jvm.Cond.code ({ cls := "java/lang/Math", name := "abs", desc := "(D)D" } : Jvm.MethodName) jdk_29_method_64_code (2 : Nat) (Option.some Jvm.ClassFile.FieldType.double)).before args0 about1 = true := code_word (m := ⟨2, 1⟩) (meth := k2m1) (c := k2c1) (by decide +kernel) rfl rfl rfl (by decide +kernel)
set_option maxRecDepth 65536 in
theorem w_c8 : (Jvm.Cond.code ({ cls := "com/example/diotima/diotima/kb/Feature", name := "holds", desc := "(D)Z" } : Jvm.MethodName) prog_30_method_2_code (3 : Nat) (Option.some Jvm.ClassFile.FieldType.boolean)).before args0 about1 = true := code_word (m := ⟨4, 1⟩) (meth := k4m1) (c := k4c1) (by decide +kernel) rfl rfl rfl (by decide +kernel)
def codes1 : List Jvm.Cond := [Jvm.Cond.code x code maxLocals ret, Jvm.Cond.code ({ cls := "java/lang/Math", name := "min", desc := "(JJ)J" } : Jvm.MethodName) jdk_29_method_70_code (4 : Nat) (Option.some Jvm.ClassFile.FieldType.long), Jvm.Cond.code ({ cls := "java/lang/Math", name := "max", desc := "(JJ)J" } : Jvm.MethodName) jdk_29_method_66_code (4 : Nat) (Option.some Jvm.ClassFile.FieldType.long), Jvm.Cond.code ({ cls := "com/example/diotima/diotima/kb/Feature", name := "<init>", desc := "(Ljava/lang/String;DD)V" } : Jvm.MethodName) prog_30_method_1_code (6 : Nat) (Option.none : Option Jvm.ClassFile.FieldType), Jvm.Cond.code ({ cls := "java/lang/Record", name := "<init>", desc := "()V" } : Jvm.MethodName) jdk_30_method_1_code (1 : Nat) (Option.none : Option Jvm.ClassFile.FieldType), Jvm.Cond.code ({ cls := "java/lang/Object", name := "<init>", desc := "()V" } : Jvm.MethodName) object_method_1_code (1 : Nat) (Option.none : Option Jvm.ClassFile.FieldType), Jvm.Cond.code ({ cls := "java/lang/Double", name := "isFinite", desc := "(D)Z" } : Jvm.MethodName) jdk_117_method_8_code (2 : Nat) (Option.some Jvm.ClassFile.FieldType.boolean), Jvm.Cond.code ({ cls := "java/lang/Math", name := "abs", desc := "(D)D" } : Jvm.MethodName) jdk_29_method_64_code (2 : Nat) (Option.some Jvm.ClassFile.FieldType.double), Jvm.Cond.code ({ cls := "com/example/diotima/diotima/kb/Feature", name := "holds", desc := "(D)Z" } : Jvm.MethodName) prog_30_method_2_code (3 : Nat) (Option.some Jvm.ClassFile.FieldType.boolean)]
set_option maxRecDepth 65536 in
theorem codes_eq : words1.filter isCode = codes1 := rfl
theorem w_codes : ∀ c ∈ words1.filter isCode, c.before args0 about1 = true := by
  rw [codes_eq]
  intro c hc
  simp only [codes1, List.mem_cons, List.not_mem_nil, or_false] at hc
  rcases hc with rfl | rfl | rfl | rfl | rfl | rfl | rfl | rfl | rfl
  · exact w_c0
  · exact w_c1
  · exact w_c2
  · exact w_c3
  · exact w_c4
  · exact w_c5
  · exact w_c6
  · exact w_c7
  · exact w_c8
set_option maxRecDepth 65536 in
theorem w_t1 : (words1.take 24).all (fun c => isCode c || c.before args0 about1) = true := by decide +kernel
set_option maxRecDepth 65536 in
theorem w_t2 : ((words1.drop 24).take 24).all (fun c => isCode c || c.before args0 about1) = true := by decide +kernel
set_option maxRecDepth 65536 in
theorem w_t3 : ((words1.drop 24).drop 24).all (fun c => isCode c || c.before args0 about1) = true := by decide +kernel
theorem w_tables : (allAtoms (Jvm.Cond.code x code maxLocals ret :: tables_1)).before args0 about1 = true := by
  rw [allAtoms_all]
  show words1.all (fun c => c.before args0 about1) = true
  refine all_split ?_ w_codes
  rw [← List.take_append_drop 24 words1, List.all_append, w_t1, ← List.take_append_drop 24 (words1.drop 24), List.all_append, w_t2, w_t3]
  rfl
set_option maxRecDepth 65536 in
theorem w_case : (Jvm.Cond.and given_1 narrow_1).before args0 about1 = true := by decide +kernel
theorem w_applies : (headSpec (Jvm.Cond.code x code maxLocals ret :: tables_1) room_1).applies x e0.platform about1 = true :=
  (Spec.applies_iff w_frames).mpr ⟨w_running, w_runnable, w_alone, w_named, w_hears, w_ripe, w_room, w_tables⟩
theorem atStart : AtStart classFile x code maxLocals ret World_1 tables_1 room_1 Calls_1 rest_1 Pre_1 launch0 p0 e0 about1 theMethod args0 below0 :=
  ⟨lists_1, trivial, launch0.admits_env _ _ _, launch0.least_env, fairChoices_fair.cas, fairChoices_fair.clock, w_frames, w_args, w_heap, w_applies, trivial, trivial, w_case⟩
end start1
theorem witness_1 : WitnessClaimed_1 := ⟨start1.p0, start1.e0, start1.about1, start1.theMethod, start1.args0, start1.below0, start1.atStart⟩
end Jvm.Pilot.@@N@@
