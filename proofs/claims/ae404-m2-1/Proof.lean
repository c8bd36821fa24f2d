import JvmDerived
import JvmDerived.Pilot.@@N@@Statement
import JvmDerived.Pilot.@@N@@Code
set_option linter.unusedVariables false
set_option linter.unusedSimpArgs false
namespace Jvm.RoadKit
open Sem ClassFile Op Lib Jvm.Stand Jvm.Free Jvm.LawKit
section New
variable {p : Program} {l : Launch} {e : Env} {R : Room} {s : State} {m : MethodId} {args : Array Value} {below : List Frame} {meth : Method} {c : Code} {T : State} {locs : List Loc} {cells slots : Nat}
theorem retI (X : Stand p l e R s m args below meth c T locs cells slots) (hx : p.tables.exec = Jvm.exec) {pc : Nat} {Ls : Array Slot} {z : Int32} {rest : List Value} (hret : meth.sig.returnType = some .int) (hd : decode c.code pc = .ok (.ireturn, 1)) {fs : List Frame}
    (hl : ∀ (f : JFrame) (acts : List Action), f.method = m → f.locked = none → f.entered = [] → (doReturn e (T.setTop f) acts (some (.int z))).1 = T.setFrames fs) : Steps p.tables e below (T.setTop (mkF m pc Ls (.int z :: rest))) (T.setFrames fs) := by
  have hm' : T.vm.method? m = some meth := X.method'
  have hn : narrow .int (.int z) = .int z := rfl
  show Steps p.tables e below (T.setTop { method := m, pc := pc, locals := Ls, stack := _ :: rest, locked := none }) _
  jvm_step X.here [X.here.top, hx, hd, hm', hret, hn]
  first | (intro acts; rw [hl _ acts rfl rfl rfl]) | rw [hl _ _ rfl rfl rfl]
  exact Steps.refl _
end New
end Jvm.RoadKit
namespace Jvm.Pilot.@@N@@
open Jvm Jvm.ClassFile Sem Op Lib Jvm.Free Jvm.Stand Jvm.LawKit Jvm.RoadKit Bundle Jvm.Pilot.@@N@@.Jvm.D
set_option maxRecDepth 65536
set_option maxHeartbeats 40000000
abbrev HW (a0 : Array Value) (Z : State) : Prop := ∀ d ∈ tables_1, d.before a0 Z = true
abbrev MF (l : Launch) (Z : State) (y : MethodName) (b : ByteArray) (n : Nat) (t : Option FieldType) (ws : List Jvm.Cond) (R : Room) (A : Array Value) (h0 : Heap) (Q : Option Value → Heap → List Loc → Prop) : Prop := MetFree l y (head1 (Jvm.Cond.code y b n t :: ws) R) (fun a U => a = A ∧ Z.Warmed39 U.vm ∧ U.heap = h0) (fun _ _ _ _ _ => True) (fun _ U o U' => ∃ v L, o = .returned v ∧ Q v U'.heap L ∧ FrameEnd U o U' L R.cells R.slots)
abbrev MW (l : Launch) (Z : State) (y : MethodName) (b : ByteArray) (n : Nat) (t : Option FieldType) (ws : List Jvm.Cond) (R : Room) (A : Array Value) (h0 : Heap) (Q : Option Value → Heap → List Loc → Prop) : Prop := MetFree l y (head1 (Jvm.Cond.code y b n t :: ws) R) (fun a U => a = A ∧ Z.Warmed39 U.vm ∧ U.heap = h0) (fun _ _ _ _ _ => True) (fun _ U o U' => ∃ v L, o = .returned v ∧ Q v U'.heap L ∧ ReturnedEndW U o U' L R.cells R.slots)
theorem o_iload {tb : Tables} [Ours tb] {e : Env} {below : List Frame} {T target : State} {m : MethodId} {c : Code} {pc : Nat} {ls : Array Slot} {st : List Value} {k : Nat} {v : Int32} (j : At T m c below ∧ tb.exec = Jvm.exec) (hd : decode c.code pc = .ok (.iload k, 2)) (hl : ls[k]? = some (.val (.int v))) (hr : Steps tb e below (T.setTop (mkF m (pc + 2) ls (.int v :: st))) target) : Steps tb e below (T.setTop (mkF m pc ls st)) target := XS.iload (g := mkF m pc ls st) j.1 j.2 rfl hd hl hr
theorem o_iloadN {tb : Tables} [Ours tb] {e : Env} {below : List Frame} {T target : State} {m : MethodId} {c : Code} {pc : Nat} {ls : Array Slot} {st : List Value} {k : Fin 4} {v : Int32} (j : At T m c below ∧ tb.exec = Jvm.exec) (hd : decode c.code pc = .ok (.iload_n k, 1)) (hl : ls[k.val]? = some (.val (.int v))) (hr : Steps tb e below (T.setTop (mkF m (pc + 1) ls (.int v :: st))) target) : Steps tb e below (T.setTop (mkF m pc ls st)) target := XS.iloadN (g := mkF m pc ls st) j.1 j.2 rfl hd hl hr
theorem o_istore {tb : Tables} [Ours tb] {e : Env} {below : List Frame} {T target : State} {m : MethodId} {c : Code} {pc : Nat} {ls : Array Slot} {st : List Value} {k : Nat} {x : Int32} {l' : Array Slot} (j : At T m c below ∧ tb.exec = Jvm.exec) (hd : decode c.code pc = .ok (.istore k, 2)) (hl : storeLocals ls k (.int x) = some l') (hr : Steps tb e below (T.setTop (mkF m (pc + 2) l' st)) target) : Steps tb e below (T.setTop (mkF m pc ls (.int x :: st))) target := XS.istore (g := mkF m pc ls (.int x :: st)) j.1 j.2 rfl hd rfl hl hr
theorem o_istoreN {tb : Tables} [Ours tb] {e : Env} {below : List Frame} {T target : State} {m : MethodId} {c : Code} {pc : Nat} {ls : Array Slot} {st : List Value} {k : Fin 4} {x : Int32} {l' : Array Slot} (j : At T m c below ∧ tb.exec = Jvm.exec) (hd : decode c.code pc = .ok (.istore_n k, 1)) (hl : storeLocals ls k.val (.int x) = some l') (hr : Steps tb e below (T.setTop (mkF m (pc + 1) l' st)) target) : Steps tb e below (T.setTop (mkF m pc ls (.int x :: st))) target := XS.istoreN (g := mkF m pc ls (.int x :: st)) j.1 j.2 rfl hd rfl hl hr
theorem o_aload {tb : Tables} [Ours tb] {e : Env} {below : List Frame} {T target : State} {m : MethodId} {c : Code} {pc : Nat} {ls : Array Slot} {st : List Value} {k : Nat} {v : Value} (j : At T m c below ∧ tb.exec = Jvm.exec) (hd : decode c.code pc = .ok (.aload k, 2)) (hl : ls[k]? = some (.val v)) (hv : v.isRef = true) (hr : Steps tb e below (T.setTop (mkF m (pc + 2) ls (v :: st))) target) : Steps tb e below (T.setTop (mkF m pc ls st)) target := XS.aload (g := mkF m pc ls st) j.1 j.2 rfl hd hl hv hr
theorem o_aloadN {tb : Tables} [Ours tb] {e : Env} {below : List Frame} {T target : State} {m : MethodId} {c : Code} {pc : Nat} {ls : Array Slot} {st : List Value} {k : Fin 4} {v : Value} (j : At T m c below ∧ tb.exec = Jvm.exec) (hd : decode c.code pc = .ok (.aload_n k, 1)) (hl : ls[k.val]? = some (.val v)) (hv : v.isRef = true) (hr : Steps tb e below (T.setTop (mkF m (pc + 1) ls (v :: st))) target) : Steps tb e below (T.setTop (mkF m pc ls st)) target := XS.aloadN (g := mkF m pc ls st) j.1 j.2 rfl hd hl hv hr
theorem o_astore {tb : Tables} [Ours tb] {e : Env} {below : List Frame} {T target : State} {m : MethodId} {c : Code} {pc : Nat} {ls : Array Slot} {st : List Value} {k : Nat} {x : Value} {l' : Array Slot} (j : At T m c below ∧ tb.exec = Jvm.exec) (hd : decode c.code pc = .ok (.astore k, 2)) (hv : x.isRef = true) (hl : storeLocals ls k x = some l') (hr : Steps tb e below (T.setTop (mkF m (pc + 2) l' st)) target) : Steps tb e below (T.setTop (mkF m pc ls (x :: st))) target := XS.astore (g := mkF m pc ls (x :: st)) j.1 j.2 rfl hd rfl hv hl hr
theorem o_astoreN {tb : Tables} [Ours tb] {e : Env} {below : List Frame} {T target : State} {m : MethodId} {c : Code} {pc : Nat} {ls : Array Slot} {st : List Value} {k : Fin 4} {x : Value} {l' : Array Slot} (j : At T m c below ∧ tb.exec = Jvm.exec) (hd : decode c.code pc = .ok (.astore_n k, 1)) (hv : x.isRef = true) (hl : storeLocals ls k.val x = some l') (hr : Steps tb e below (T.setTop (mkF m (pc + 1) l' st)) target) : Steps tb e below (T.setTop (mkF m pc ls (x :: st))) target := XS.astoreN (g := mkF m pc ls (x :: st)) j.1 j.2 rfl hd rfl hv hl hr
theorem o_iconstV {tb : Tables} [Ours tb] {e : Env} {below : List Frame} {T target : State} {m : MethodId} {c : Code} {pc : Nat} {ls : Array Slot} {st : List Value} {i : Int} (j : At T m c below ∧ tb.exec = Jvm.exec) (v : Int32) (hd : decode c.code pc = .ok (.iconst i, 1)) (hv : Int32.ofInt i = v) (hr : Steps tb e below (T.setTop (mkF m (pc + 1) ls (.int v :: st))) target) : Steps tb e below (T.setTop (mkF m pc ls st)) target := XT.iconstV (g := mkF m pc ls st) j.1 j.2 rfl v hd hv hr
theorem o_bipushV {tb : Tables} [Ours tb] {e : Env} {below : List Frame} {T target : State} {m : MethodId} {c : Code} {pc : Nat} {ls : Array Slot} {st : List Value} {i : Int} (j : At T m c below ∧ tb.exec = Jvm.exec) (v : Int32) (hd : decode c.code pc = .ok (.bipush i, 2)) (hv : (Int8.ofInt i).toInt32 = v) (hr : Steps tb e below (T.setTop (mkF m (pc + 2) ls (.int v :: st))) target) : Steps tb e below (T.setTop (mkF m pc ls st)) target := XT.bipushV (g := mkF m pc ls st) j.1 j.2 rfl v hd hv hr
theorem o_sipushV {tb : Tables} [Ours tb] {e : Env} {below : List Frame} {T target : State} {m : MethodId} {c : Code} {pc : Nat} {ls : Array Slot} {st : List Value} {i : Int} (j : At T m c below ∧ tb.exec = Jvm.exec) (v : Int32) (hd : decode c.code pc = .ok (.sipush i, 3)) (hv : (Int16.ofInt i).toInt32 = v) (hr : Steps tb e below (T.setTop (mkF m (pc + 3) ls (.int v :: st))) target) : Steps tb e below (T.setTop (mkF m pc ls st)) target := XT.sipushV (g := mkF m pc ls st) j.1 j.2 rfl v hd hv hr
theorem o_aconstNull {tb : Tables} [Ours tb] {e : Env} {below : List Frame} {T target : State} {m : MethodId} {c : Code} {pc : Nat} {ls : Array Slot} {st : List Value} (j : At T m c below ∧ tb.exec = Jvm.exec) (hd : decode c.code pc = .ok (.aconst_null, 1)) (hr : Steps tb e below (T.setTop (mkF m (pc + 1) ls (.null :: st))) target) : Steps tb e below (T.setTop (mkF m pc ls st)) target := XS.aconstNull (g := mkF m pc ls st) j.1 j.2 rfl hd hr
theorem o_iadd {tb : Tables} [Ours tb] {e : Env} {below : List Frame} {T target : State} {m : MethodId} {c : Code} {pc : Nat} {ls : Array Slot} {st : List Value} {x y : Int32} (j : At T m c below ∧ tb.exec = Jvm.exec) (hd : decode c.code pc = .ok (.iadd, 1)) (hr : Steps tb e below (T.setTop (mkF m (pc + 1) ls (.int (x + y) :: st))) target) : Steps tb e below (T.setTop (mkF m pc ls (.int y :: .int x :: st))) target := XS.iadd (g := mkF m pc ls (.int y :: .int x :: st)) j.1 j.2 rfl hd rfl hr
theorem o_isub {tb : Tables} [Ours tb] {e : Env} {below : List Frame} {T target : State} {m : MethodId} {c : Code} {pc : Nat} {ls : Array Slot} {st : List Value} {x y : Int32} (j : At T m c below ∧ tb.exec = Jvm.exec) (hd : decode c.code pc = .ok (.isub, 1)) (hr : Steps tb e below (T.setTop (mkF m (pc + 1) ls (.int (x - y) :: st))) target) : Steps tb e below (T.setTop (mkF m pc ls (.int y :: .int x :: st))) target := XS.isub (g := mkF m pc ls (.int y :: .int x :: st)) j.1 j.2 rfl hd rfl hr
theorem o_iand {tb : Tables} [Ours tb] {e : Env} {below : List Frame} {T target : State} {m : MethodId} {c : Code} {pc : Nat} {ls : Array Slot} {st : List Value} {x y : Int32} (j : At T m c below ∧ tb.exec = Jvm.exec) (hd : decode c.code pc = .ok (.iand, 1)) (hr : Steps tb e below (T.setTop (mkF m (pc + 1) ls (.int (x &&& y) :: st))) target) : Steps tb e below (T.setTop (mkF m pc ls (.int y :: .int x :: st))) target := XS.iand (g := mkF m pc ls (.int y :: .int x :: st)) j.1 j.2 rfl hd rfl hr
theorem o_ior {tb : Tables} [Ours tb] {e : Env} {below : List Frame} {T target : State} {m : MethodId} {c : Code} {pc : Nat} {ls : Array Slot} {st : List Value} {x y : Int32} (j : At T m c below ∧ tb.exec = Jvm.exec) (hd : decode c.code pc = .ok (.ior, 1)) (hr : Steps tb e below (T.setTop (mkF m (pc + 1) ls (.int (x ||| y) :: st))) target) : Steps tb e below (T.setTop (mkF m pc ls (.int y :: .int x :: st))) target := XT.ior (g := mkF m pc ls (.int y :: .int x :: st)) j.1 j.2 rfl hd rfl hr
theorem o_ishl {tb : Tables} [Ours tb] {e : Env} {below : List Frame} {T target : State} {m : MethodId} {c : Code} {pc : Nat} {ls : Array Slot} {st : List Value} {x y : Int32} (j : At T m c below ∧ tb.exec = Jvm.exec) (hd : decode c.code pc = .ok (.ishl, 1)) (hr : Steps tb e below (T.setTop (mkF m (pc + 1) ls (.int (x <<< (y &&& 31)) :: st))) target) : Steps tb e below (T.setTop (mkF m pc ls (.int y :: .int x :: st))) target := XT.ishl (g := mkF m pc ls (.int y :: .int x :: st)) j.1 j.2 rfl hd rfl hr
theorem o_ishr {tb : Tables} [Ours tb] {e : Env} {below : List Frame} {T target : State} {m : MethodId} {c : Code} {pc : Nat} {ls : Array Slot} {st : List Value} {x y : Int32} (j : At T m c below ∧ tb.exec = Jvm.exec) (hd : decode c.code pc = .ok (.ishr, 1)) (hr : Steps tb e below (T.setTop (mkF m (pc + 1) ls (.int (x >>> (y &&& 31)) :: st))) target) : Steps tb e below (T.setTop (mkF m pc ls (.int y :: .int x :: st))) target := XT.ishr (g := mkF m pc ls (.int y :: .int x :: st)) j.1 j.2 rfl hd rfl hr
theorem o_iushr {tb : Tables} [Ours tb] {e : Env} {below : List Frame} {T target : State} {m : MethodId} {c : Code} {pc : Nat} {ls : Array Slot} {st : List Value} {x y : Int32} (j : At T m c below ∧ tb.exec = Jvm.exec) (hd : decode c.code pc = .ok (.iushr, 1)) (hr : Steps tb e below (T.setTop (mkF m (pc + 1) ls (.int (XT.ushr x y) :: st))) target) : Steps tb e below (T.setTop (mkF m pc ls (.int y :: .int x :: st))) target := XT.iushr (g := mkF m pc ls (.int y :: .int x :: st)) j.1 j.2 rfl hd rfl hr
theorem o_irem {tb : Tables} [Ours tb] {e : Env} {below : List Frame} {T target : State} {m : MethodId} {c : Code} {pc : Nat} {ls : Array Slot} {st : List Value} {x y : Int32} (j : At T m c below ∧ tb.exec = Jvm.exec) (hd : decode c.code pc = .ok (.irem, 1)) (hy : y ≠ 0) (hr : Steps tb e below (T.setTop (mkF m (pc + 1) ls (.int (x - (x / y) * y) :: st))) target) : Steps tb e below (T.setTop (mkF m pc ls (.int y :: .int x :: st))) target := XS.irem (g := mkF m pc ls (.int y :: .int x :: st)) j.1 j.2 rfl hd rfl hy hr
theorem o_i2b {tb : Tables} [Ours tb] {e : Env} {below : List Frame} {T target : State} {m : MethodId} {c : Code} {pc : Nat} {ls : Array Slot} {st : List Value} {x : Int32} (j : At T m c below ∧ tb.exec = Jvm.exec) (hd : decode c.code pc = .ok (.i2b, 1)) (hr : Steps tb e below (T.setTop (mkF m (pc + 1) ls (.int (x.toInt8.toInt32) :: st))) target) : Steps tb e below (T.setTop (mkF m pc ls (.int x :: st))) target := XT.i2b (g := mkF m pc ls (.int x :: st)) j.1 j.2 rfl hd rfl hr
theorem o_iincV {tb : Tables} [Ours tb] {e : Env} {below : List Frame} {T target : State} {m : MethodId} {c : Code} {pc : Nat} {ls : Array Slot} {st : List Value} {k : Nat} {cst : Int} {x : Int32} {l' : Array Slot} (j : At T m c below ∧ tb.exec = Jvm.exec) (v : Int32) (hd : decode c.code pc = .ok (.iinc k cst, 3)) (hv : Int32.ofInt cst = v) (hl : ls[k]? = some (.val (.int x))) (hl' : storeLocals ls k (.int (x + v)) = some l') (hr : Steps tb e below (T.setTop (mkF m (pc + 3) l' st)) target) : Steps tb e below (T.setTop (mkF m pc ls st)) target := XT.iincV (g := mkF m pc ls st) j.1 j.2 rfl v hd hv hl hl' hr
theorem o_dup {tb : Tables} [Ours tb] {e : Env} {below : List Frame} {T target : State} {m : MethodId} {c : Code} {pc : Nat} {ls : Array Slot} {st : List Value} {x : Value} (j : At T m c below ∧ tb.exec = Jvm.exec) (hd : decode c.code pc = .ok (.dup, 1)) (hc : x.category = 1) (hr : Steps tb e below (T.setTop (mkF m (pc + 1) ls (x :: x :: st))) target) : Steps tb e below (T.setTop (mkF m pc ls (x :: st))) target := XS.dup (g := mkF m pc ls (x :: st)) j.1 j.2 rfl hd rfl hc hr
theorem o_pop {tb : Tables} [Ours tb] {e : Env} {below : List Frame} {T target : State} {m : MethodId} {c : Code} {pc : Nat} {ls : Array Slot} {st : List Value} {x : Value} (j : At T m c below ∧ tb.exec = Jvm.exec) (hd : decode c.code pc = .ok (.pop, 1)) (hc : x.category = 1) (hr : Steps tb e below (T.setTop (mkF m (pc + 1) ls st)) target) : Steps tb e below (T.setTop (mkF m pc ls (x :: st))) target := XT.pop (g := mkF m pc ls (x :: st)) j.1 j.2 rfl hd rfl hc hr
theorem o_dupX1 {tb : Tables} [Ours tb] {e : Env} {below : List Frame} {T target : State} {m : MethodId} {c : Code} {pc : Nat} {ls : Array Slot} {st : List Value} {x y : Value} (j : At T m c below ∧ tb.exec = Jvm.exec) (hd : decode c.code pc = .ok (.dup_x1, 1)) (hc : x.category = 1) (hc' : y.category = 1) (hr : Steps tb e below (T.setTop (mkF m (pc + 1) ls (x :: y :: x :: st))) target) : Steps tb e below (T.setTop (mkF m pc ls (x :: y :: st))) target := XT.dupX1 (g := mkF m pc ls (x :: y :: st)) j.1 j.2 rfl hd rfl hc hc' hr
theorem o_goto {tb : Tables} [Ours tb] {e : Env} {below : List Frame} {T target : State} {m : MethodId} {c : Code} {pc : Nat} {ls : Array Slot} {st : List Value} {o : Int} {pc' : Nat}  (j : At T m c below ∧ tb.exec = Jvm.exec) (hd : decode c.code pc = .ok (.goto o, 3)) (hr : Steps tb e below (T.setTop (mkF m pc' ls st)) target) (ho : 0 ≤ (pc : Int) + o := by decide) (hp : ((pc : Int) + o).toNat = pc' := by decide) : Steps tb e below (T.setTop (mkF m pc ls st)) target := XS.goto (g := mkF m pc ls st) j.1 j.2 rfl rfl hd ho hp hr
theorem o_ifYes {tb : Tables} [Ours tb] {e : Env} {below : List Frame} {T target : State} {m : MethodId} {c : Code} {pc : Nat} {ls : Array Slot} {st : List Value} {o : Int} {pc' : Nat} {cd : ClassFile.Cond} {x : Int32} (j : At T m c below ∧ tb.exec = Jvm.exec) (hd : decode c.code pc = .ok (.ifCond cd o, 3)) (hc : ifCond.holds cd x = true) (hr : Steps tb e below (T.setTop (mkF m pc' ls st)) target) (ho : 0 ≤ (pc : Int) + o := by decide) (hp : ((pc : Int) + o).toNat = pc' := by decide) : Steps tb e below (T.setTop (mkF m pc ls (.int x :: st))) target := XS.ifYes (g := mkF m pc ls (.int x :: st)) j.1 j.2 rfl rfl hd rfl hc ho hp hr
theorem o_ifNo {tb : Tables} [Ours tb] {e : Env} {below : List Frame} {T target : State} {m : MethodId} {c : Code} {pc : Nat} {ls : Array Slot} {st : List Value} {o : Int} {cd : ClassFile.Cond} {x : Int32} (j : At T m c below ∧ tb.exec = Jvm.exec) (hd : decode c.code pc = .ok (.ifCond cd o, 3)) (hc : ifCond.holds cd x = false) (hr : Steps tb e below (T.setTop (mkF m (pc + 3) ls st)) target) : Steps tb e below (T.setTop (mkF m pc ls (.int x :: st))) target := XS.ifNo (g := mkF m pc ls (.int x :: st)) j.1 j.2 rfl hd rfl hc hr
theorem o_icmpYes {tb : Tables} [Ours tb] {e : Env} {below : List Frame} {T target : State} {m : MethodId} {c : Code} {pc : Nat} {ls : Array Slot} {st : List Value} {o : Int} {pc' : Nat} {cd : ClassFile.Cond} {x y : Int32} (j : At T m c below ∧ tb.exec = Jvm.exec) (hd : decode c.code pc = .ok (.if_icmp cd o, 3)) (hc : if_icmp.holds cd x y = true) (hr : Steps tb e below (T.setTop (mkF m pc' ls st)) target) (ho : 0 ≤ (pc : Int) + o := by decide) (hp : ((pc : Int) + o).toNat = pc' := by decide) : Steps tb e below (T.setTop (mkF m pc ls (.int y :: .int x :: st))) target := XS.icmpYes (g := mkF m pc ls (.int y :: .int x :: st)) j.1 j.2 rfl rfl hd rfl hc ho hp hr
theorem o_icmpNo {tb : Tables} [Ours tb] {e : Env} {below : List Frame} {T target : State} {m : MethodId} {c : Code} {pc : Nat} {ls : Array Slot} {st : List Value} {o : Int} {cd : ClassFile.Cond} {x y : Int32} (j : At T m c below ∧ tb.exec = Jvm.exec) (hd : decode c.code pc = .ok (.if_icmp cd o, 3)) (hc : if_icmp.holds cd x y = false) (hr : Steps tb e below (T.setTop (mkF m (pc + 3) ls st)) target) : Steps tb e below (T.setTop (mkF m pc ls (.int y :: .int x :: st))) target := XS.icmpNo (g := mkF m pc ls (.int y :: .int x :: st)) j.1 j.2 rfl hd rfl hc hr
theorem o_ifnonnullYes {tb : Tables} [Ours tb] {e : Env} {below : List Frame} {T target : State} {m : MethodId} {c : Code} {pc : Nat} {ls : Array Slot} {st : List Value} {o : Int} {pc' : Nat} {b : Addr} (j : At T m c below ∧ tb.exec = Jvm.exec) (hd : decode c.code pc = .ok (.ifnonnull o, 3)) (hr : Steps tb e below (T.setTop (mkF m pc' ls st)) target) (ho : 0 ≤ (pc : Int) + o := by decide) (hp : ((pc : Int) + o).toNat = pc' := by decide) : Steps tb e below (T.setTop (mkF m pc ls (.ref b :: st))) target := XT.ifnonnullYes (g := mkF m pc ls (.ref b :: st)) j.1 j.2 rfl rfl hd rfl ho hp hr
theorem o_acmpYes {tb : Tables} [Ours tb] {e : Env} {below : List Frame} {T target : State} {m : MethodId} {c : Code} {pc : Nat} {ls : Array Slot} {st : List Value} {o : Int} {pc' : Nat} {cd : ClassFile.ACond} {x y : Value} (j : At T m c below ∧ tb.exec = Jvm.exec) (hd : decode c.code pc = .ok (.if_acmp cd o, 3)) (hx' : x.isRef = true) (hy' : y.isRef = true) (hc : XT.acmp cd x y = true) (hr : Steps tb e below (T.setTop (mkF m pc' ls st)) target) (ho : 0 ≤ (pc : Int) + o := by decide) (hp : ((pc : Int) + o).toNat = pc' := by decide) : Steps tb e below (T.setTop (mkF m pc ls (y :: x :: st))) target := XT.acmpYes (g := mkF m pc ls (y :: x :: st)) j.1 j.2 rfl rfl hd rfl hx' hy' hc ho hp hr
theorem o_acmpNo {tb : Tables} [Ours tb] {e : Env} {below : List Frame} {T target : State} {m : MethodId} {c : Code} {pc : Nat} {ls : Array Slot} {st : List Value} {o : Int} {cd : ClassFile.ACond} {x y : Value} (j : At T m c below ∧ tb.exec = Jvm.exec) (hd : decode c.code pc = .ok (.if_acmp cd o, 3)) (hx' : x.isRef = true) (hy' : y.isRef = true) (hc : XT.acmp cd x y = false) (hr : Steps tb e below (T.setTop (mkF m (pc + 3) ls st)) target) : Steps tb e below (T.setTop (mkF m pc ls (y :: x :: st))) target := XT.acmpNo (g := mkF m pc ls (y :: x :: st)) j.1 j.2 rfl hd rfl hx' hy' hc hr
theorem own_strAtoms : ∀ d ∈ Bundle.stringAtoms, d ∈ tables_1 := by decide +kernel
def OCh (c : Int32) : Prop := 0 ≤ c.toInt ∧ c.toInt < 65536
def OB (c : Int32) : Prop := 0 ≤ c.toInt ∧ c.toInt < 256
instance (c : Int32) : Decidable (OB c) := inferInstanceAs (Decidable (_ ∧ _))
def own_i2c (x : Int32) : Int32 := x.toUInt32.toUInt16.toUInt32.toInt32
theorem own_i2c_ch (x : Int32) : OCh (own_i2c x) := ⟨(c_i2c x).2.1, (c_i2c x).2.2⟩
theorem own_i2c_id {c : Int32} (h : OCh c) : c.toUInt32.toUInt16.toUInt32.toInt32 = c := by
  have q := c_i2c c
  obtain ⟨h1, h2⟩ := h
  exact Int32.toInt_inj.mp (by omega)
def own_b (x : Int32) : Int32 := x.toInt8.toInt32
theorem own_b_id (x : Int32) : (own_b x).toInt8.toInt32 = own_b x := by unfold own_b; simp
theorem own_nar_b (x : Int32) : nar .byte (own_b x) = own_b x := own_b_id x
theorem own_nar_c (x : Int32) : nar .char (own_i2c x) = own_i2c x := own_i2c_id (own_i2c_ch x)
theorem own_ob_ch {c : Int32} (h : OB c) : OCh c := ⟨h.1, by have := h.2; omega⟩
theorem own_nar_ob {c : Int32} (h : OB c) : nar .char c = c := own_i2c_id (own_ob_ch h)
theorem own_b255 {c : Int32} (h : OB c) : own_b c &&& 255 = c := by
  have q := c_i2b c
  have r := c_mask (own_b c) 255 8 (by decide) (by decide)
  obtain ⟨h1, h2⟩ := h
  refine Int32.toInt_inj.mp ?_
  unfold own_b at *
  omega
theorem own_chr {c : Int32} (h : OB c) : own_i2c (own_b c &&& 255) = c := by rw [own_b255 h]; exact own_i2c_id (own_ob_ch h)
theorem own_obm (x : Int32) : OB (own_i2c (x &&& 255)) := by
  have r := c_mask x 255 8 (by decide) (by decide)
  have e : own_i2c (x &&& 255) = x &&& 255 := own_i2c_id ⟨by omega, by omega⟩
  rw [e]; exact ⟨by omega, by omega⟩
theorem own_ob0 {c : Int32} (h : OB c) : ¬ c < 0 := by rw [Int32.lt_iff_toInt_lt, show (0 : Int32).toInt = 0 from rfl]; have := h.1; omega
theorem own_ob255 {c : Int32} (h : OB c) : ¬ (255 : Int32) < c := by rw [Int32.lt_iff_toInt_lt, show (255 : Int32).toInt = 255 from rfl]; have := h.2; omega
theorem own_ofn {n : Nat} (h : n < 1000) : (Int32.ofNat n).toInt = n := Int32.toInt_ofNat_of_lt (by omega)
theorem own_fin {P : Int32 → Prop} (h : ∀ k : Fin 256, P (Int32.ofNat k.val)) {c : Int32} (hc : OB c) : P c := by
  obtain ⟨h1, h2⟩ := hc
  have e : Int32.ofNat c.toInt.toNat = c := by
    refine Int32.toInt_inj.mp ?_
    rw [own_ofn (by omega)]; omega
  rw [← e]; exact h ⟨c.toInt.toNat, by omega⟩
def own_low (c : Int32) : Int32 := if c < 65 then c else if (122 : Int32) < c ||| 32 then (if c ||| 32 < 224 then c else if (254 : Int32) < c ||| 32 then c else if c ||| 32 = 247 then c else c ||| 32) else c ||| 32
theorem own_low_ob {c : Int32} (h : OB c) : OB (own_low c) := own_fin (P := fun c => OB (own_low c)) (by decide +kernel) h
def own_kept (c : Int32) : Int32 := if (¬ c < 97 ∧ ¬ (122 : Int32) < c) ∨ (¬ c < 48 ∧ ¬ (57 : Int32) < c) ∨ (¬ c < 65 ∧ ¬ (90 : Int32) < c) then 1 else 0
def own_lower (c : Int32) : Int32 := if ¬ c < 65 ∧ ¬ (90 : Int32) < c then own_i2c (c + 32) else c
def own_k2 (d : Int32) : Prop := (¬ d < 97 ∧ ¬ (122 : Int32) < d) ∨ (¬ d < 48 ∧ ¬ (57 : Int32) < d)
instance (c : Int32) : Decidable (own_k2 c) := inferInstanceAs (Decidable (_ ∨ _))
theorem own_kk {c : Int32} (h : OB c) : own_kept c = 0 ↔ ¬ own_k2 (own_low c) := own_fin (P := fun c => own_kept c = 0 ↔ ¬ own_k2 (own_low c)) (by decide +kernel) h
theorem own_ll {c : Int32} (h : OB c) (g : ¬ own_kept c = 0) : own_lower c = own_low c := own_fin (P := fun c => ¬ own_kept c = 0 → own_lower c = own_low c) (by decide +kernel) h g
theorem own_lower_ch {c : Int32} (h : OB c) : nar .char (own_lower c) = own_lower c := by
  unfold own_lower; split
  · exact own_nar_c _
  · exact own_nar_ob h
theorem own_i48 {d : Int32} (h : ¬ d < 97) : ¬ d < 48 := by rw [Int32.lt_iff_toInt_lt] at *; rw [show (97 : Int32).toInt = 97 from rfl] at h; rw [show (48 : Int32).toInt = 48 from rfl]; omega
theorem own_i57 {d : Int32} (h : ¬ d < 97) : (57 : Int32) < d := by rw [Int32.lt_iff_toInt_lt] at *; rw [show (97 : Int32).toInt = 97 from rfl] at h; rw [show (57 : Int32).toInt = 57 from rfl]; omega
theorem own_k2a {d : Int32} (h1 : ¬ d < 97) (h2 : ¬ (122 : Int32) < d) : own_k2 d := Or.inl ⟨h1, h2⟩
theorem own_k2b {d : Int32} (h1 : ¬ d < 48) (h2 : ¬ (57 : Int32) < d) : own_k2 d := Or.inr ⟨h1, h2⟩
theorem own_k2n1 {d : Int32} (h1 : d < 48) : ¬ own_k2 d := fun q => q.elim (fun z => z.1 (by rw [Int32.lt_iff_toInt_lt] at *; rw [show (48 : Int32).toInt = 48 from rfl] at h1; rw [show (97 : Int32).toInt = 97 from rfl]; omega)) (fun z => z.1 h1)
theorem own_k2n2 {d : Int32} (h1 : d < 97) (h2 : (57 : Int32) < d) : ¬ own_k2 d := fun q => q.elim (fun z => z.1 h1) (fun z => z.2 h2)
theorem own_k2n3 {d : Int32} (h1 : ¬ d < 97) (h2 : (122 : Int32) < d) : ¬ own_k2 d := fun q => q.elim (fun z => z.2 h2) (fun z => z.2 (own_i57 h1))
def own_ln (L : List Int32) : Int32 := Int32.ofNat L.length
def own_nn (k : Nat) : Int32 := Int32.ofNat k
def own_at (L : List Int32) (i : Int32) : Int32 := L.getD i.toNatClampNeg 0
def own_vb (L : List Int32) : List Value := L.map fun c => .int (own_b c)
def own_pb (k : Nat) (L : List Int32) : List Value := own_vb L ++ List.replicate (k - L.length) (.int 0)
def own_vc (L : List Int32) : List Value := L.map .int
def own_pc (L : List Int32) : List Value := own_vc L ++ List.replicate (13 - L.length) (.int 0)
def OL (L : List Int32) : Prop := ∀ c ∈ L, OB c
theorem own_oln : OL [] := fun _ q => nomatch q
theorem own_olc {c : Int32} {L : List Int32} (h : OB c) (g : OL L) : OL (c :: L) := fun x q => by rcases List.mem_cons.mp q with rfl | q; exact h; exact g x q
theorem own_ola {L M : List Int32} (h : OL L) (g : OL M) : OL (L ++ M) := fun x q => (List.mem_append.mp q).elim (h x) (g x)
theorem own_at_ob {L : List Int32} (h : OL L) (i : Int32) : OB (own_at L i) := by
  unfold own_at
  rw [List.getD_eq_getElem?_getD]
  cases q : L[i.toNatClampNeg]? with
  | none => exact ⟨by decide, by decide⟩
  | some z => exact h z (List.mem_of_getElem? q)
theorem own_map_at (L : List Int32) (i : Nat) : (L.map Value.int).getD i (.int 0) = .int (L.getD i 0) := by
  induction L generalizing i with
  | nil => rfl
  | cons a r ih => cases i with
    | zero => rfl
    | succ n => exact ih n
theorem own_vb_at (L : List Int32) (i : Int32) : (own_vb L).getD i.toNatClampNeg (.int 0) = .int (own_b (own_at L i)) := by
  unfold own_vb own_at
  generalize i.toNatClampNeg = j
  induction L generalizing j with
  | nil => show Value.int 0 = .int (own_b 0); rw [show own_b 0 = 0 from by decide]
  | cons a r ih => cases j with
    | zero => rfl
    | succ n => exact ih n
theorem own_pc_at (L : List Int32) (i : Int32) : (own_pc L).getD i.toNatClampNeg (.int 0) = .int (own_at L i) := by
  unfold own_pc
  rw [pad_rep]; exact own_map_at L _
theorem own_set_app (A : List Value) (m k : Nat) (v z : Value) (h : 0 < m) (e : A.length = k) : (A ++ List.replicate m z).set k v = A ++ v :: List.replicate (m - 1) z := by
  subst e
  rw [List.set_append_right _ _ (Nat.le_refl _), Nat.sub_self]
  obtain ⟨j, rfl⟩ : ∃ j, m = j + 1 := ⟨m - 1, by omega⟩
  rfl
theorem own_pb_set {k : Nat} {L : List Int32} (c : Int32) (h : L.length < k) : (own_pb k L).set L.length (.int (own_b c)) = own_pb k (L ++ [c]) := by
  unfold own_pb own_vb
  rw [own_set_app _ _ _ _ _ (by omega) (List.length_map _), List.map_append, List.append_assoc, List.length_append]
  rw [show k - L.length - 1 = k - (L.length + [c].length) from by simp; omega]
  rfl
theorem own_pc_set {L : List Int32} (c : Int32) (h : L.length < 13) : (own_pc L).set L.length (.int c) = own_pc (L ++ [c]) := by
  unfold own_pc own_vc
  rw [own_set_app _ _ _ _ _ (by omega) (List.length_map _), List.map_append, List.append_assoc, List.length_append]
  rw [show 13 - L.length - 1 = 13 - (L.length + [c].length) from by simp; omega]
  rfl
theorem own_pb_len {k : Nat} {L : List Int32} (h : L.length ≤ k) : (own_pb k L).length = k := by unfold own_pb own_vb; simp; omega
theorem own_pc_len {L : List Int32} (h : L.length ≤ 13) : (own_pc L).length = 13 := by unfold own_pc own_vc; simp; omega
theorem own_ln_app (L : List Int32) (c : Int32) : own_ln L + 1 = own_ln (L ++ [c]) := by unfold own_ln; rw [List.length_append]; exact (Int32.ofNat_add L.length 1).symm
theorem own_ln_int {L : List Int32} (h : L.length < 1000) : (own_ln L).toInt = L.length := own_ofn h
theorem own_ln_nat {L : List Int32} (h : L.length < 1000) : (own_ln L).toNatClampNeg = L.length := by
  show (own_ln L).toInt.toNat = L.length
  rw [own_ln_int h]; rfl
theorem own_ln0 {L : List Int32} (h : L.length < 1000) : ¬ own_ln L < 0 := by rw [Int32.lt_iff_toInt_lt, own_ln_int h, show (0 : Int32).toInt = 0 from rfl]; omega
theorem own_nn_int {k : Nat} (h : k < 1000) : (own_nn k).toInt = k := own_ofn h
theorem own_nn_nat {k : Nat} (h : k < 1000) : (own_nn k).toNatClampNeg = k := by
  show (own_nn k).toInt.toNat = k
  rw [own_nn_int h]; rfl
theorem own_ln_nn {L : List Int32} {k : Nat} (h : L.length < k) (g : k < 1000) : own_ln L < own_nn k := by rw [Int32.lt_iff_toInt_lt, own_ln_int (by omega), own_nn_int g]; omega
theorem own_ln13 {L : List Int32} (h : L.length < 13) : own_ln L < 13 := by rw [Int32.lt_iff_toInt_lt, own_ln_int (by omega), show (13 : Int32).toInt = 13 from rfl]; omega
theorem own_ln3 {L : List Int32} (h : L.length < 1000) : (3 : Int32) < own_ln L ↔ 3 < L.length := by rw [Int32.lt_iff_toInt_lt, own_ln_int h, show (3 : Int32).toInt = 3 from rfl]; omega
theorem own_room {L : List Int32} {k : Nat} (h : L.length ≤ k) (g : k < 1000) : ¬ (0 : Int32) < own_ln L - own_nn k := by
  have q := c_isub (own_ln L) (own_nn k)
  have r := rng32 (own_ln L - own_nn k)
  rw [own_ln_int (by omega), own_nn_int g] at q
  rw [Int32.lt_iff_toInt_lt, show (0 : Int32).toInt = 0 from rfl]
  omega
theorem own_shr0 (x : Int32) : x >>> ((0 : Int32) &&& 31) = x := by
  have q := c_ishr x 0 0 (by decide)
  exact Int32.toInt_inj.mp (by omega)
theorem own_sub0 (x : Int32) : x - 0 = x := by
  have q := c_isub x 0
  have r := rng32 (x - 0)
  have r2 := rng32 x
  rw [show (0 : Int32).toInt = 0 from rfl] at q
  exact Int32.toInt_inj.mp (by omega)
theorem own_pb_full {k : Nat} {L : List Int32} (h : L.length = k) : own_pb k L = own_vb L := by subst h; unfold own_pb; rw [Nat.sub_self]; exact List.append_nil _
theorem own_copy {k : Nat} {L : List Int32} (h : L.length < 1000) : own_vb L = (List.range (own_ln L).toNatClampNeg).map fun i => (own_pb k L).getD ((0 : Int32).toNatClampNeg + i) (.int 0) := by
  rw [own_ln_nat h]
  refine List.ext_getElem (by simp [own_vb]) fun i h1 h2 => ?_
  have hi : i < L.length := by simpa [own_vb] using h1
  rw [List.getElem_map, List.getElem_range, show (0 : Int32).toNatClampNeg = 0 from rfl, Nat.zero_add, List.getD_eq_getElem?_getD]
  unfold own_pb
  rw [List.getElem?_append_left (by simpa [own_vb] using hi), List.getElem?_eq_getElem h1]
  rfl
theorem own_minln {L : List Int32} {k : Nat} (h : L.length < k) (g : k < 1000) : (own_ln L) < own_nn k := own_ln_nn h g
def own_nx (L : List Int32) (s d : Int32) : List Int32 := if own_k2 d then (if s = 0 ∨ ¬ (3 : Int32) < own_ln L then L ++ [d] else (L ++ [95]) ++ [d]) else L
def own_sp (d : Int32) : Int32 := if own_k2 d then 0 else 1
def own_run (L : List Int32) (s : Int32) : List Int32 → List Int32
  | [] => L
  | d :: r => own_run (own_nx L s d) (own_sp d) r
theorem own_nx0 {L : List Int32} {s d : Int32} (h : ¬ own_k2 d) : own_nx L s d = L := by unfold own_nx; rw [if_neg h]
theorem own_nx1 {L : List Int32} {s d : Int32} (h : own_k2 d) (g : s = 0 ∨ ¬ (3 : Int32) < own_ln L) : own_nx L s d = L ++ [d] := by unfold own_nx; rw [if_pos h, if_pos g]
theorem own_nx2 {L : List Int32} {s d : Int32} (h : own_k2 d) (g1 : ¬ s = 0) (g2 : (3 : Int32) < own_ln L) : own_nx L s d = (L ++ [95]) ++ [d] := by unfold own_nx; rw [if_pos h, if_neg (fun q => q.elim g1 (fun z => z g2))]
theorem own_sp0 {d : Int32} (h : own_k2 d) : own_sp d = 0 := if_pos h
theorem own_sp1 {d : Int32} (h : ¬ own_k2 d) : own_sp d = 1 := if_neg h
theorem own_r0 {L r M : List Int32} {s d : Int32} (h : ¬ own_k2 d) (q : own_run L s (d :: r) = M) : own_run L 1 r = M := by rw [← q]; show _ = own_run (own_nx L s d) (own_sp d) r; rw [own_nx0 h, own_sp1 h]
theorem own_r1 {L r M : List Int32} {s d : Int32} (h : own_k2 d) (g : s = 0 ∨ ¬ (3 : Int32) < own_ln L) (q : own_run L s (d :: r) = M) : own_run (L ++ [d]) 0 r = M := by rw [← q]; show _ = own_run (own_nx L s d) (own_sp d) r; rw [own_nx1 h g, own_sp0 h]
theorem own_r2 {L r M : List Int32} {s d : Int32} (h : own_k2 d) (g1 : ¬ s = 0) (g2 : (3 : Int32) < own_ln L) (q : own_run L s (d :: r) = M) : own_run ((L ++ [95]) ++ [d]) 0 r = M := by rw [← q]; show _ = own_run (own_nx L s d) (own_sp d) r; rw [own_nx2 h g1 g2, own_sp0 h]
theorem own_nx_ob {L : List Int32} {s d : Int32} (h : OL L) (g : OB d) : OL (own_nx L s d) := by
  unfold own_nx; split
  · split
    · exact own_ola h (own_olc g own_oln)
    · exact own_ola (own_ola h (own_olc ⟨by decide, by decide⟩ own_oln)) (own_olc g own_oln)
  · exact h
theorem own_nx_len (L : List Int32) (s d : Int32) : (own_nx L s d).length ≤ L.length + 2 := by
  unfold own_nx; split
  · split
    · simp
    · simp
  · omega
def OSt (Z : State) (cs : Int32) (fm : Value) (lo bl la lb li : Addr) : Prop := (Sta Z Z.heap "java/lang/String" "COMPACT_STRINGS" "Z" (.int cs)) ∧ (¬ cs = 0) ∧ (Sta Z Z.heap "jdk/internal/util/Preconditions" "SIOOBE_FORMATTER" "Ljava/util/function/BiFunction;" fm) ∧ (fm.isRef = true) ∧ (Sta Z Z.heap "java/util/Locale" "ROOT" "Ljava/util/Locale;" (.ref lo)) ∧ (Exa Z Z.heap lo "java/util/Locale") ∧ (Fld Z Z.heap lo "java/util/Locale" "baseLocale" "Lsun/util/locale/BaseLocale;" (.ref bl)) ∧ (Exa Z Z.heap bl "sun/util/locale/BaseLocale") ∧ (Fld Z Z.heap bl "sun/util/locale/BaseLocale" "language" "Ljava/lang/String;" (.ref la)) ∧ (Fld Z Z.heap la "java/lang/String" "value" "[B" (.ref lb)) ∧ (∃ cl : Cell, Z.heap[lb]? = some cl ∧ cl.slots.size.toInt32 = 0) ∧ (Sta Z Z.heap "java/lang/CharacterDataLatin1" "instance" "Ljava/lang/CharacterDataLatin1;" (.ref li)) ∧ (Exa Z Z.heap li "java/lang/CharacterDataLatin1")
theorem OSt.cs {Z : State} {cs : Int32} {fm : Value} {lo bl la lb li : Addr} (h : OSt Z cs fm lo bl la lb li) : Sta Z Z.heap "java/lang/String" "COMPACT_STRINGS" "Z" (.int cs) := h.1
theorem OSt.csn {Z : State} {cs : Int32} {fm : Value} {lo bl la lb li : Addr} (h : OSt Z cs fm lo bl la lb li) : ¬ cs = 0 := h.2.1
theorem OSt.fm {Z : State} {cs : Int32} {fm : Value} {lo bl la lb li : Addr} (h : OSt Z cs fm lo bl la lb li) : Sta Z Z.heap "jdk/internal/util/Preconditions" "SIOOBE_FORMATTER" "Ljava/util/function/BiFunction;" fm := h.2.2.1
theorem OSt.fmr {Z : State} {cs : Int32} {fm : Value} {lo bl la lb li : Addr} (h : OSt Z cs fm lo bl la lb li) : fm.isRef = true := h.2.2.2.1
theorem OSt.ro {Z : State} {cs : Int32} {fm : Value} {lo bl la lb li : Addr} (h : OSt Z cs fm lo bl la lb li) : Sta Z Z.heap "java/util/Locale" "ROOT" "Ljava/util/Locale;" (.ref lo) := h.2.2.2.2.1
theorem OSt.loE {Z : State} {cs : Int32} {fm : Value} {lo bl la lb li : Addr} (h : OSt Z cs fm lo bl la lb li) : Exa Z Z.heap lo "java/util/Locale" := h.2.2.2.2.2.1
theorem OSt.loF {Z : State} {cs : Int32} {fm : Value} {lo bl la lb li : Addr} (h : OSt Z cs fm lo bl la lb li) : Fld Z Z.heap lo "java/util/Locale" "baseLocale" "Lsun/util/locale/BaseLocale;" (.ref bl) := h.2.2.2.2.2.2.1
theorem OSt.blE {Z : State} {cs : Int32} {fm : Value} {lo bl la lb li : Addr} (h : OSt Z cs fm lo bl la lb li) : Exa Z Z.heap bl "sun/util/locale/BaseLocale" := h.2.2.2.2.2.2.2.1
theorem OSt.blF {Z : State} {cs : Int32} {fm : Value} {lo bl la lb li : Addr} (h : OSt Z cs fm lo bl la lb li) : Fld Z Z.heap bl "sun/util/locale/BaseLocale" "language" "Ljava/lang/String;" (.ref la) := h.2.2.2.2.2.2.2.2.1
theorem OSt.laF {Z : State} {cs : Int32} {fm : Value} {lo bl la lb li : Addr} (h : OSt Z cs fm lo bl la lb li) : Fld Z Z.heap la "java/lang/String" "value" "[B" (.ref lb) := h.2.2.2.2.2.2.2.2.2.1
theorem OSt.lbL {Z : State} {cs : Int32} {fm : Value} {lo bl la lb li : Addr} (h : OSt Z cs fm lo bl la lb li) : ∃ cl : Cell, Z.heap[lb]? = some cl ∧ cl.slots.size.toInt32 = 0 := h.2.2.2.2.2.2.2.2.2.2.1
theorem OSt.li {Z : State} {cs : Int32} {fm : Value} {lo bl la lb li : Addr} (h : OSt Z cs fm lo bl la lb li) : Sta Z Z.heap "java/lang/CharacterDataLatin1" "instance" "Ljava/lang/CharacterDataLatin1;" (.ref li) := h.2.2.2.2.2.2.2.2.2.2.2.1
theorem OSt.liE {Z : State} {cs : Int32} {fm : Value} {lo bl la lb li : Addr} (h : OSt Z cs fm lo bl la lb li) : Exa Z Z.heap li "java/lang/CharacterDataLatin1" := h.2.2.2.2.2.2.2.2.2.2.2.2
theorem own_fmc {v : Value} (h : v.isRef = true) : v.category = 1 := by cases v <;> first | rfl | cases h
theorem own_lang {Z : State} {h : Heap} {n0 : Nat} {la lb a b : Addr} {k : ClassId} {n : Int32} {vs : List Value} {dv : Value} (O : Old Z n0 h) (F1 : Fld Z h la "java/lang/String" "value" "[B" (.ref lb)) (B1 : ∃ cl : Cell, Z.heap[lb]? = some cl ∧ cl.slots.size.toInt32 = 0)
    (F2 : Fld Z h a "java/lang/String" "value" "[B" (.ref b)) (A : Arv Z h b k .byte n vs dv) (q : n.toNatClampNeg.toInt32 ≠ 0) : ¬ ((.ref la : Value) = .ref a) := fun e => by
  have hb : lb ≠ b := fun e => by
    subst e
    obtain ⟨c1, h1, h2⟩ := B1
    obtain ⟨c2, ⟨h3, -, -⟩, -, S, -⟩ := A
    cases (O.2.2 _ _ h1).symm.trans h3
    rw [S] at h2
    exact q h2
  have hne := Fld.ne F1 F2 (fun e2 => hb (by injection e2))
  exact hne (by injection e)
theorem own_ene {Z : State} {h : Heap} {a b : Addr} {C D : String} (A : Exa Z h a C) (B : Exa Z h b D) (q : C ≠ D) : a ≠ b := fun e => by
  subst e
  obtain ⟨c1, k1, h1, h2, h3, -, -⟩ := A
  obtain ⟨c2, k2, g1, g2, g3, -, -⟩ := B
  cases h1.symm.trans g1
  obtain ⟨k3, q3, q4⟩ := Vm.findClass_spec h2
  obtain ⟨k5, q5, q6⟩ := Vm.findClass_spec g2
  cases q3.symm.trans q5
  exact q (q4.symm.trans q6)
theorem own_if3 : own_vb [105, 102, 95] = [.int 105, .int 102, .int 95] := by
  unfold own_vb
  simp only [List.map]
  rw [show own_b 105 = 105 from by decide, show own_b 102 = 102 from by decide, show own_b 95 = 95 from by decide]
theorem own_c7 (x : Int32) : x &&& 7 = 0 ∨ x &&& 7 = 1 ∨ x &&& 7 = 2 ∨ x &&& 7 = 3 ∨ x &&& 7 = 4 ∨ x &&& 7 = 5 ∨ x &&& 7 = 6 ∨ x &&& 7 = 7 := by
  have h := c_mask x 7 3 (by decide) (by decide)
  have e : ∀ k : Int32, (x &&& 7).toInt = k.toInt → x &&& 7 = k := fun k q => Int32.toInt_inj.mp q
  have h0 : (x &&& 7).toInt = 0 ∨ (x &&& 7).toInt = 1 ∨ (x &&& 7).toInt = 2 ∨ (x &&& 7).toInt = 3 ∨ (x &&& 7).toInt = 4 ∨ (x &&& 7).toInt = 5 ∨ (x &&& 7).toInt = 6 ∨ (x &&& 7).toInt = 7 := by omega
  exact h0.imp (e 0) fun h => h.imp (e 1) fun h => h.imp (e 2) fun h => h.imp (e 3) fun h => h.imp (e 4) fun h => h.imp (e 5) fun h => h.imp (e 6) (e 7)
theorem own_len6 (x : Int32) : (x &&& 7) - ((x &&& 7) / 6) * 6 = 0 ∨ (x &&& 7) - ((x &&& 7) / 6) * 6 = 1 ∨ (x &&& 7) - ((x &&& 7) / 6) * 6 = 2 ∨ (x &&& 7) - ((x &&& 7) / 6) * 6 = 3 ∨ (x &&& 7) - ((x &&& 7) / 6) * 6 = 4 ∨ (x &&& 7) - ((x &&& 7) / 6) * 6 = 5 := by
  rcases own_c7 x with h | h | h | h | h | h | h | h <;> rw [h] <;> decide
theorem own_irr32 (x : Int32) : ¬ x < x := by rw [Int32.lt_iff_toInt_lt]; omega
theorem own_subself (x : Int32) : x - x = 0 := by
  have q := c_isub x x
  have r := rng32 (x - x)
  exact Int32.toInt_inj.mp (by rw [show (0 : Int32).toInt = 0 from rfl]; omega)
theorem own_midlt {A r L : List Int32} {c : Int32} (h : A ++ c :: r = L) : A.length < L.length := by rw [← h, List.length_append, List.length_cons]; omega
theorem own_mid {A r L : List Int32} {c : Int32} (h : A ++ c :: r = L) (g : L.length < 1000) : own_ln A < own_ln L := by
  have q := own_midlt h
  rw [Int32.lt_iff_toInt_lt, own_ln_int (by omega), own_ln_int g]; omega
theorem own_midne {A r L : List Int32} {c : Int32} (h : A ++ c :: r = L) (g : L.length < 1000) : ¬ own_ln A = own_ln L := fun e => by
  have q := own_mid h g
  rw [e] at q; exact own_irr32 _ q
theorem own_mid_ob {A r L : List Int32} {c : Int32} (h : A ++ c :: r = L) (g : OL L) : OB c := g c (by rw [← h]; simp)
theorem own_getD_mid (f : Int32 → Value) {A r L : List Int32} {c : Int32} (h : A ++ c :: r = L) (g : L.length < 1000) (d : Value) : (L.map f).getD (own_ln A).toNatClampNeg d = f c := by
  have q := own_midlt h
  rw [own_ln_nat (by omega), ← h, List.getD_eq_getElem?_getD, List.map_append, List.map_cons, List.getElem?_append_right (by rw [List.length_map]; omega), List.length_map, Nat.sub_self]
  rfl
theorem own_vb_mid {A r L : List Int32} {c : Int32} (h : A ++ c :: r = L) (g : L.length < 1000) : (own_vb L).getD (own_ln A).toNatClampNeg (.int 0) = .int (own_b c) := own_getD_mid (fun c => .int (own_b c)) h g _
theorem own_vc_mid {A r L : List Int32} {c : Int32} (h : A ++ c :: r = L) (g : L.length < 1000) : (own_vc L).getD (own_ln A).toNatClampNeg (.int 0) = .int c := own_getD_mid .int h g _
theorem own_mapapp {A : List Int32} {c : Int32} (h : A.map own_low = A) (g : c = own_low c) : (A ++ [c]).map own_low = A ++ [c] := by
  rw [List.map_append, h]; show A ++ [own_low c] = _; rw [← g]
theorem own_mapsnoc (A : List Int32) (c : Int32) : A.map own_low ++ [own_low c] = (A ++ [c]).map own_low := by rw [List.map_append]; rfl
theorem own_lnmap (L : List Int32) : own_ln (L.map own_low) = own_ln L := by unfold own_ln; rw [List.length_map]
theorem own_ol_map {L : List Int32} (h : OL L) : OL (L.map own_low) := fun x q => by
  obtain ⟨z, h1, rfl⟩ := List.mem_map.mp q
  exact own_low_ob (h z h1)
theorem own_copy2 {A r L : List Int32} (h : A ++ r = L) (g : L.length < 1000) : own_vb A = (List.range (own_ln A).toNatClampNeg).map fun i => (own_vb L).getD ((0 : Int32).toNatClampNeg + i) (.int 0) := by
  have hl : A.length ≤ L.length := by rw [← h, List.length_append]; omega
  rw [own_ln_nat (by omega)]
  refine List.ext_getElem (by simp [own_vb]) fun i h1 h2 => ?_
  have hi : i < A.length := by simpa [own_vb] using h1
  rw [List.getElem_map, List.getElem_range, show (0 : Int32).toNatClampNeg = 0 from rfl, Nat.zero_add, List.getD_eq_getElem?_getD, ← h]
  unfold own_vb
  rw [List.map_append, List.getElem?_append_left (by simpa using hi), List.getElem?_eq_getElem (by simpa using hi)]
  rfl
theorem own_conv (k : Nat) (A : List Int32) (v : List Value) (n : Nat) (hv : v = own_vb A) (hn : n = A.length) : (own_pb k []).take (0 : Int32).toNatClampNeg ++ v ++ (own_pb k []).drop ((0 : Int32).toNatClampNeg + n) = own_pb k A := by
  subst hv hn
  rw [show (0 : Int32).toNatClampNeg = 0 from rfl, Nat.zero_add]
  unfold own_pb
  simp [own_vb, List.drop_replicate]
theorem own_nn0 {k : Nat} (h : k < 1000) : ¬ own_nn k < 0 := by rw [Int32.lt_iff_toInt_lt, own_nn_int h, show (0 : Int32).toInt = 0 from rfl]; omega
theorem own_ln_z {L : List Int32} (h : ¬ L = []) (g : L.length < 1000) : ¬ own_ln L = 0 := fun e => by
  have q := congrArg Int32.toInt e
  rw [own_ln_int g, show (0 : Int32).toInt = 0 from rfl] at q
  exact h (List.length_eq_zero_iff.mp (by omega))
def own_EL : List (String × Nat) := [("java/lang/String", 7), ("com/example/obieg/obieg/ChoiceId", 31), ("java/lang/StringLatin1", 168), ("java/lang/StringLatin1", 170), ("java/lang/StringLatin1", 172)]
theorem own_EW {Z : State} {a0 : Array Value} (hw : ∀ d ∈ tables_1, d.before a0 Z = true) : EW Z a0 own_EL := (EW.cons (text := "") (hw _ (List.mem_of_getElem? (i := 223) rfl)) (by decide) (EW.cons (text := "if_") (hw _ (List.mem_of_getElem? (i := 67) rfl)) (by decide) (EW.cons (text := "tr") (hw _ (List.mem_of_getElem? (i := 248) rfl)) (by decide) (EW.cons (text := "az") (hw _ (List.mem_of_getElem? (i := 249) rfl)) (by decide) (EW.cons (text := "lt") (hw _ (List.mem_of_getElem? (i := 250) rfl)) (by decide) EW.nil)))))
theorem own_litB {Z s : State} {a0 : Array Value} {vm1 : Vm} {h' : Heap} {own text : String} {index : Nat} {a b : Addr} {k : ClassId} {z : Int32} {vs : List Value} {dv : Value} {c0 : ClassId} (hW : Z.Warmed39 (s.setVm vm1).vm) (hf : (s.setVm vm1).vm.findClass own = some c0) (w : (Cond.stringLink own index text).before a0 Z = true) (L : Lit (s.setVm vm1) own index a) (H : CHv Z own_EL vm1 h') (hm : (own, index) ∈ own_EL)
    (F : Fld Z h' a "java/lang/String" "value" "[B" (.ref b)) (A : Arv Z h' b k .byte z vs dv) : Exa Z h' b "[B" := by
  have hW : Z.Warmed39 vm1 := hW
  have hal : Z.vm.Alike vm1 := hW.alike
  have hf : vm1.findClass own = some c0 := hf
  have w2 : (Cond.stringLink own index text).before a0 (Wst Z vm1 h') = true := mvS (s := { Z with heap := h' }) hW w
  obtain ⟨k0', cf, i, units, hkx, hcf, hp, hu, -, htext, -⟩ := Cond.stringLink_spec (s := Wst Z vm1 h') hf w2
  have hkx : vm1.classes[c0]? = some k0' := hkx
  have hres : k0'.resolved[index]? = some (some (.string a)) := by
    have q : (s.setVm vm1).resolvedAt? own index = some (.string a) := L
    simp [State.resolvedAt?, hf, hkx] at q
    cases hr : k0'.resolved[index]? with
    | none => rw [hr] at q; cases q
    | some o => rw [hr] at q; cases o with
      | none => cases q
      | some r => simpa using q
  obtain ⟨q, hqa, G⟩ := SlB.of (H _ hm units a ⟨c0, k0', cf, i, hf, hkx, hcf, hp, hu, Or.inl hres⟩)
  obtain ⟨cS, ⟨⟨s1, -, -, ⟨cv, kv, iv, s4, -⟩, -, -, -, s8, -, s10, -⟩, -⟩, -, hB, -⟩ := G
  subst hqa
  obtain ⟨kv', z4⟩ := ff_back (U := Wst Z vm1 h') hal s4
  have hbd : q.sd = b := by
    obtain ⟨cl, cf2, k2, i2, f2, h1, h2, -, -, -, -, h7⟩ := F
    cases h1.symm.trans s1
    cases h2.symm.trans z4
    have e := h7.symm.trans s8
    simpa using e.symm
  have hB : vm1.findClass "[B" = some q.SA.cls := hB
  have hBZ : Z.vm.findClass "[B" = some q.SA.cls := by rw [← hal.findClass]; exact hB
  obtain ⟨cl, ⟨hc, ⟨hst, k9, hk9, comp, hkind9⟩, -⟩, -⟩ := A
  have e : cl = q.SA := Option.some.inj (hc.symm.trans (hbd ▸ s10))
  subst e
  exact ⟨_, k9, hc, hBZ, hk9, (by cases hv : q.SA.vm with | statics k => exact absurd hv (hst k) | _ => rfl), fun o => by rw [hkind9] at o; cases o⟩
theorem own_backSH {p : Program} {l : Launch} {e : Env} {R : Room} {s : State} {args : Array Value} {below : List Frame} {Z : State} {a0 : Array Value} {EL : List (String × Nat)} {h : Heap} {vm0 : Vm} {y : MethodName} {bytes : ByteArray} {maxL : Nat} {ret : Option FieldType} {rm : Room} {len W : Nat} {as' : Array Value} {Q : Option Value → Heap → List Loc → Prop}
    (hM : MetFree l y (head1 [Cond.code y bytes maxL ret] rm) (fun a U => a = as' ∧ Z.Warmed39 U.vm ∧ U.heap = h ∧ CHv Z EL U.vm h) (fun _ _ _ _ _ => True) (fun _ U o U' => ∃ v L, o = .returned v ∧ Q v U'.heap L ∧ ReturnedEndW U o U' L rm.cells rm.slots))
    (hZ : Z.Warmed39 vm0) (wc : (Cond.code y bytes maxL ret).before a0 Z = true) (wz : (Cond.initialized y.cls).before a0 Z = true) (hf : rm.frames + 1 ≤ R.frames) (hl : W + (maxL + 11) + rm.locals ≤ R.locals) (hEL : EW Z a0 EL) (H : CHv Z EL vm0 h) :
    BackS l R p e below (s.setVm vm0) args y len W (fun A a => a = as' ∧ A.U.heap = h ∧ A.cells + rm.cells ≤ R.cells ∧ A.slots + rm.slots ≤ R.slots)
      (fun A _ v B => ∃ L, Q v B.U.heap L ∧ B.locs = A.locs ++ L ∧ B.cells = A.cells + rm.cells ∧ B.slots = A.slots + rm.slots) :=
  BackS.of_freeW (bytes := bytes) (maxL := maxL) (ret := ret) (E := fun _ _ o t L k n => k = rm.cells ∧ n = rm.slots ∧ ∃ v, o = .returned v ∧ Q v t.heap L) hM hf hl
    (fun _ _ _ A a Y hp => by
      have hU : Z.Warmed39 A.U.vm := wtrans (s := s.setVm vm0) hZ Y.warmed
      refine ⟨?_, mv hU wc, mv hU wz, hp.2.2.1, hp.2.2.2⟩
      show (Cond.and _ .tt).before a A.U = true
      rw [Cond.before_and, mv hU wc]; rfl)
    (fun _ _ _ _ _ _ _ Y hp => ⟨hp.1, wtrans (s := s.setVm vm0) hZ Y.warmed, hp.2.1, (CHv.at Y hZ hEL H).1⟩)
    (fun _ _ _ _ _ _ _ _ _ => trivial)
    (fun _ _ _ _ ⟨v, L, h1, h2, h3⟩ => ⟨L, _, _, h3, rfl, rfl, v, h1, h2⟩)
    (fun _ _ _ _ _ _ _ _ _ L _ _ _ _ _ _ ⟨e1, e2, v', e3, e4⟩ => by cases e3; subst e1 e2; exact ⟨L, e4, rfl, rfl, rfl⟩)
theorem own_ane {Z : State} {h : Heap} {a b : Addr} {k1 k2 : ClassId} {t1 t2 : FieldType} {z1 z2 : Int32} {v1 v2 : List Value} {d1 d2 : Value} (A : Arv Z h a k1 t1 z1 v1 d1) (B : Arv Z h b k2 t2 z2 v2 d2) (q : t1 ≠ t2) : a ≠ b := fun e => by
  subst e
  obtain ⟨c1, ⟨h1, ⟨-, k, hk, comp, hkind⟩, -⟩, -⟩ := A
  obtain ⟨c2, ⟨h2, ⟨-, k', hk', comp', hkind'⟩, -⟩, -⟩ := B
  cases h1.symm.trans h2
  cases hk.symm.trans hk'
  rw [hkind] at hkind'
  injection hkind' with e1 e2
  exact q e2
theorem own_safeN {Z : State} {EL : List (String × Nat)} {vm : Vm} {h : Heap} {x : Addr} (hal : Z.vm.Alike vm) (F : Fld Z h x "java/lang/String" "value" "[B" .null) (E : Exa Z h x "java/lang/String") : Safe Z EL vm h x := fun B => by
  obtain ⟨cell, k, e1, e2, e3, -, -⟩ := E
  obtain ⟨p, -, u, a, -, q, -, G, rfl | rfl⟩ := B
  · obtain ⟨cS, ⟨⟨s1, -, -, ⟨cv, kv, iv, s4, -⟩, -, -, -, s8, -⟩, -⟩, -⟩ := G
    obtain ⟨kv', z4⟩ := ff_back (U := Wst Z vm h) hal s4
    obtain ⟨cl, cf2, k2, i2, f2, h1, h2, -, -, -, -, h7⟩ := F
    cases h1.symm.trans s1
    cases h2.symm.trans z4
    have e := h7.symm.trans s8
    simp at e
  · cases (show h[q.sd]? = some q.SA from G.hd).symm.trans e1
    obtain ⟨cS, -, -, f, -⟩ := G
    have f' : Z.vm.findClass "[B" = some q.SA.cls := by rw [← hal.findClass]; exact f
    obtain ⟨k1, q1, q2⟩ := Vm.findClass_spec f'
    obtain ⟨k2, q3, q4⟩ := Vm.findClass_spec e2
    cases q1.symm.trans q3
    have := q2.symm.trans q4
    exact absurd this (by decide)

theorem own_st_6_5 {s0 s1 s2 s3 s4 : Slot} {x : Slot} (v : Int32) (h : x = .unset ∨ ∃ z, x = .val (.int z)) : storeLocals #[s0, s1, s2, s3, s4, x] 5 (.int v) = some #[s0, s1, s2, s3, s4, .val (.int v)] := by
  rcases h with rfl | ⟨z, rfl⟩ <;> rfl
theorem own_st_7_6 {s0 s1 s2 s3 s4 s5 : Slot} {x : Slot} (v : Int32) (h : x = .unset ∨ ∃ z, x = .val (.int z)) : storeLocals #[s0, s1, s2, s3, s4, s5, x] 6 (.int v) = some #[s0, s1, s2, s3, s4, s5, .val (.int v)] := by
  rcases h with rfl | ⟨z, rfl⟩ <;> rfl
theorem own_st_9_5 {s0 s1 s2 s3 s4 s6 s7 s8 : Slot} {x : Slot} (v : Int32) (h : x = .unset ∨ ∃ z, x = .val (.int z)) : storeLocals #[s0, s1, s2, s3, s4, x, s6, s7, s8] 5 (.int v) = some #[s0, s1, s2, s3, s4, .val (.int v), s6, s7, s8] := by
  rcases h with rfl | ⟨z, rfl⟩ <;> rfl
theorem own_st_9_8 {s0 s1 s2 s3 s4 s5 s6 s7 : Slot} {x : Slot} (v : Int32) (h : x = .unset ∨ ∃ z, x = .val (.int z)) : storeLocals #[s0, s1, s2, s3, s4, s5, s6, s7, x] 8 (.int v) = some #[s0, s1, s2, s3, s4, s5, s6, s7, .val (.int v)] := by
  rcases h with rfl | ⟨z, rfl⟩ <;> rfl
section Og
variable {p : Program} {l : Launch} {e : Env} {R : Room} {s : State} {m : MethodId} {args : Array Value} {below : List Frame} {meth : Method} {c : Code} {T : State} {locs : List Loc} {cells slots : Nat} {Z : State} {a0 : Array Value} {h : Heap} {own : String} {index pc : Nat} {ls : Array Slot} {stk rest argsL : List Value} {P : Outcome → State → Prop}
  {y z : MethodName} {bytes : ByteArray} {maxL : Nat} {ret r : Option FieldType} {ps : List FieldType} {rm : Room} {Q : Option Value → Heap → List Loc → Prop} {W : Nat} {a : Addr} {vm0 : Vm} {k0 : Nat}
def OG (tb : Tables) (e : Env) (below : List Frame) (P : Outcome → State → Prop) (A : State) : Prop := ∃ s₂ o, Steps tb e below A s₂ ∧ s₂.status = .running ∧ Ended s₂ below o ∧ P o s₂
theorem og {tb : Tables} {A B : State} (h : ∀ t, Steps tb e below B t → Steps tb e below A t) (k : OG tb e below P B) : OG tb e below P A := by
  obtain ⟨s2, o, h1, h2⟩ := k
  exact ⟨s2, o, h _ h1, h2⟩
theorem wd (hw : ∀ d ∈ tables_1, d.before a0 Z = true) (i : Nat) {d : Jvm.Cond} (q : tables_1[i]? = some d) : d.before a0 Z = true := hw _ (List.mem_of_getElem? q)
theorem og_start {ws : List Jvm.Cond} {A : Array Value} {h0 : Heap} {Q : Array Value → State → Outcome → State → Prop} (hpl : plainFor y = true)
    (body : ∀ p e s m below meth c s₁, BodyLoose p l y (head1 (Cond.code y bytes maxL ret :: ws) R) bytes maxL ret e s m A below meth c s₁ → p.tables.exec = Jvm.exec → c.code = bytes → c.maxLocals = maxL → Z.Warmed39 s.vm → s.vm.findClass y.cls = some m.cls → meth.name = y.name → Stand p l e R s m A below meth c s₁ [] 0 0 → s₁.heap = h0 → OG p.tables e below (fun o u => Q A s o u) (s₁.setTop (entryFrame m A maxL))) :
    MetFree l y (head1 (Cond.code y bytes maxL ret :: ws) R) (fun a U => a = A ∧ Z.Warmed39 U.vm ∧ U.heap = h0) (fun _ _ _ _ _ => True) Q := by
  refine MetFree.of_bodySF hpl hisR ?_
  intro p e s m args below meth c s₁ Bd hml0 hP hK
  obtain ⟨rfl, hZ, hh⟩ := hP
  exact body p e s m below meth c s₁ Bd Bd.exec Bd.bytes hml0 hZ (findClass_of_methodNamed Bd.named) (name_of_methodNamed Bd.named Bd.method).1 (Stand.of_body Bd) (by rw [← hh, Bd.state]; rfl)
theorem og_startW {ws : List Jvm.Cond} {A : Array Value} {h0 : Heap} {Q : Array Value → State → Outcome → State → Prop} (hpl : plainFor y = true)
    (body : ∀ p e s m below meth c s₁, BodyLoose p l y (head1 (Cond.code y bytes maxL ret :: ws) R) bytes maxL ret e s m A below meth c s₁ → p.tables.exec = Jvm.exec → c.code = bytes → c.maxLocals = maxL → Z.Warmed39 (s.setVm s.vm).vm → (s.setVm s.vm).vm.findClass y.cls = some m.cls → meth.name = y.name → Stand p l e R (s.setVm s.vm) m A below meth c s₁ [] 0 0 → s₁.heap = h0 → s.Since s.vm h0.size → h0.size ≤ h0.size → OG p.tables e below (fun o u => Q A s o u) (s₁.setTop (entryFrame m A maxL))) :
    MetFree l y (head1 (Cond.code y bytes maxL ret :: ws) R) (fun a U => a = A ∧ Z.Warmed39 U.vm ∧ U.heap = h0) (fun _ _ _ _ _ => True) Q := by
  refine MetFree.of_bodySF hpl hisR ?_
  intro p e s m args below meth c s₁ Bd hml0 hP hK
  obtain ⟨rfl, hZ, hh⟩ := hP
  exact body p e s m below meth c s₁ Bd Bd.exec Bd.bytes hml0 hZ (findClass_of_methodNamed Bd.named) (name_of_methodNamed Bd.named Bd.method).1 (Stand.of_body Bd) (by rw [← hh, Bd.state]; rfl) ((State.WarmedH.refl s).since _) (Nat.le_refl _)
theorem og_startH {EL : List (String × Nat)} {ws : List Jvm.Cond} {A : Array Value} {h0 : Heap} {Q : Array Value → State → Outcome → State → Prop} (hpl : plainFor y = true)
    (body : ∀ p e s m below meth c s₁, BodyLoose p l y (head1 (Cond.code y bytes maxL ret :: ws) R) bytes maxL ret e s m A below meth c s₁ → p.tables.exec = Jvm.exec → c.code = bytes → c.maxLocals = maxL → Z.Warmed39 (s.setVm s.vm).vm → (s.setVm s.vm).vm.findClass y.cls = some m.cls → meth.name = y.name → Stand p l e R (s.setVm s.vm) m A below meth c s₁ [] 0 0 → s₁.heap = h0 → s.Since s.vm h0.size → h0.size ≤ h0.size → CHv Z EL s.vm h0 → OG p.tables e below (fun o u => Q A s o u) (s₁.setTop (entryFrame m A maxL))) :
    MetFree l y (head1 (Cond.code y bytes maxL ret :: ws) R) (fun a U => a = A ∧ Z.Warmed39 U.vm ∧ U.heap = h0 ∧ CHv Z EL U.vm h0) (fun _ _ _ _ _ => True) Q := by
  refine MetFree.of_bodySF hpl hisR ?_
  intro p e s m args below meth c s₁ Bd hml0 hP hK
  obtain ⟨rfl, hZ, hh, hC⟩ := hP
  exact body p e s m below meth c s₁ Bd Bd.exec Bd.bytes hml0 hZ (findClass_of_methodNamed Bd.named) (name_of_methodNamed Bd.named Bd.method).1 (Stand.of_body Bd) (by rw [← hh, Bd.state]; rfl) ((State.WarmedH.refl s).since _) (Nat.le_refl _) hC
theorem g_getF {R0 n d : String} {v : Value} (X : Stand p l e R s m args below meth c T locs cells slots) (hx : p.tables.exec = Jvm.exec) (hZ : Z.Warmed39 s.vm) (hown : s.vm.findClass own = some m.cls) (w : (Cond.fieldLink own index R0 n d).before a0 Z = true) (eT : T.heap = h) (F : Fld Z h a R0 n d v) (hd : decode c.code pc = .ok (.getfield index, 3))
    (k : ∀ T', Stand p l e R s m args below meth c T' locs cells slots → T'.heap = h → OG p.tables e below P (T'.setTop (mkF m (pc + 3) ls (v :: rest)))) : OG p.tables e below P (T.setTop (mkF m pc ls (.ref a :: rest))) := by
  obtain ⟨T', X', e', st⟩ := getF (host := "") X hx hZ hown (Or.inl w) Via.refl eT F (g := mkF m pc ls (.ref a :: rest)) rfl rfl hd
  exact og st (k T' X' e')
theorem g_putF {R0 n d C : String} {kk : Nat} {ty : FieldType} {v old : Value} (X : Stand p l e R s m args below meth c T locs cells slots) (hx : p.tables.exec = Jvm.exec) (hZ : Z.Warmed39 s.vm) (hown : s.vm.findClass own = some m.cls) (w : (Cond.fieldLink own index R0 n d).before a0 Z = true) (eT : T.heap = h) (F : Fld Z h a R0 n d old) (E : Exa Z h a C)
    (L : (Cond.lays C R0 n d).before a0 Z = true ∨ ((Cond.laysFinal C R0 n d).before a0 Z = true ∧ own = R0 ∧ meth.name = "<init>")) (wi : (Cond.instantiable C kk).before a0 Z = true) (hty : parseFieldDescriptor d = some ty) (hn : narrow ty v = v) (hf : fits ty v = true) (hd : decode c.code pc = .ok (.putfield index, 3))
    (k : ∀ T' h', Stand p l e R s m args below meth c T' (locs ++ [⟨a, Jvm.RoadKit.slotOf Z R0 n d⟩]) cells slots → T'.heap = h' → Wr h h' a (Jvm.RoadKit.slotOf Z R0 n d) v → OG p.tables e below P (T'.setTop (mkF m (pc + 3) ls rest))) : OG p.tables e below P (T.setTop (mkF m pc ls (v :: .ref a :: rest))) := by
  obtain ⟨T', h', X', e', W', st⟩ := putF (host := "") X hx hZ hown (Or.inl w) Via.refl eT F E L wi hty hn hf (g := mkF m pc ls (v :: .ref a :: rest)) rfl rfl hd
  exact og st (k T' h' X' e' W')
theorem g_getS {R0 n d : String} {v : Value} (X : Stand p l e R s m args below meth c T locs cells slots) (hx : p.tables.exec = Jvm.exec) (hZ : Z.Warmed39 s.vm) (hown : s.vm.findClass own = some m.cls) (w : (Cond.fieldLink own index R0 n d).before a0 Z = true) (eT : T.heap = h) (F : Sta Z h R0 n d v) (hd : decode c.code pc = .ok (.getstatic index, 3))
    (k : ∀ T', Stand p l e R s m args below meth c T' locs cells slots → T'.heap = h → OG p.tables e below P (T'.setTop (mkF m (pc + 3) ls (v :: stk)))) : OG p.tables e below P (T.setTop (mkF m pc ls stk)) := by
  obtain ⟨T', X', e', st⟩ := getS2 (host := "") X hx hZ hown (Or.inl w) Via.refl eT F (g := mkF m pc ls stk) rfl hd
  exact og st (k T' X' e')
theorem g_newO {C : String} {n : Nat} (X : Stand p l e R s m args below meth c T locs cells slots) (hx : p.tables.exec = Jvm.exec) (hZ : Z.Warmed39 s.vm) (hown : s.vm.findClass own = some m.cls) (w : (Cond.classLink own index C).before a0 Z = true) (wi : (Cond.instantiable C n).before a0 Z = true) (wz : (Cond.initialized C).before a0 Z = true) (eT : T.heap = h) (hd : decode c.code pc = .ok (.new index, 3)) (hc : cells + 1 ≤ R.cells) (hl : slots + n ≤ R.slots)
    (k : ∀ T' h' a, a = h.size → Stand p l e R s m args below meth c T' locs (cells + 1) (slots + n) → T'.heap = h' → Ext h h' → Exa Z h' a C → (∀ {O nm d : String} {ty : FieldType}, Laid Z a0 C O nm d → parseFieldDescriptor d = some ty → Fld Z h' a O nm d (defaultValue ty)) → OG p.tables e below P (T'.setTop (mkF m (pc + 3) ls (.ref a :: stk)))) : OG p.tables e below P (T.setTop (mkF m pc ls stk)) := by
  obtain ⟨T', h', X', e', E, A, D, -, st⟩ := newO X hx hZ hown w wi wz eT (g := mkF m pc ls stk) rfl hd hc hl
  exact og st (k T' h' _ rfl X' e' E A D)
theorem g_newP {aty : ArrayType} {n : Int32} {cap : Nat} {ad : String} {ty : FieldType} (X : Stand p l e R s m args below meth c T locs cells slots) (hx : p.tables.exec = Jvm.exec) (hZ : Z.Warmed39 s.vm) (hty : newarray.typeOf aty = ty) (w : (Cond.arrayClass ty).before a0 Z = true) (eT : T.heap = h) (hd : decode c.code pc = .ok (.newarray aty, 2)) (hn : ¬ n < 0) (hcap : n.toNatClampNeg ≤ cap) (hb : cap * 8 ≤ 536870912) (hc : cells + 1 ≤ R.cells) (hl : slots + cap ≤ R.slots) (had : "[" ++ ty.toString = ad)
    (k : ∀ T' h' a q, a = h.size → Stand p l e R s m args below meth c T' locs (cells + 1) (slots + cap) → T'.heap = h' → Ext h h' → Arv Z h' a q ty n [] (defaultValue ty) → Exa Z h' a ad → OG p.tables e below P (T'.setTop (mkF m (pc + 2) ls (.ref a :: rest)))) : OG p.tables e below P (T.setTop (mkF m pc ls (.int n :: rest))) := by
  subst hty
  obtain ⟨T', h', q, X', e', E, A, D, st⟩ := newPE X hx hZ w eT (g := mkF m pc ls (.int n :: rest)) rfl hd rfl hn hcap hb hc hl had
  exact og st (k T' h' _ q rfl X' e' E (Arv.new A hn) D)
theorem g_initO (X : Stand p l e R s m args below meth c T locs cells slots) (hx : p.tables.exec = Jvm.exec) (hZ : Z.Warmed39 s.vm) (hown : s.vm.findClass own = some m.cls) (w1 : (Cond.methodLink own index Lib.objectInit).before a0 Z = true) (w2 : (Cond.instanceMethod Lib.objectInit).before a0 Z = true) (w3 : (Cond.code Lib.objectInit ⟨#[0xb1]⟩ 1 none).before a0 Z = true) (eT : T.heap = h) (hml : ls.size = c.maxLocals) (hd : decode c.code pc = .ok (.invokespecial index, 3)) (hf : 1 ≤ R.frames) (hW : (rest.map fun v => v.category).sum = W) (hl : W + 12 ≤ R.locals)
    (k : ∀ T', Stand p l e R s m args below meth c T' locs cells slots → T'.heap = h → OG p.tables e below P (T'.setTop (mkF m (pc + 3) ls rest))) : OG p.tables e below P (T.setTop (mkF m pc ls (.ref a :: rest))) := by
  obtain ⟨T', X', e', st⟩ := initO X hx hZ hown w1 w2 w3 eT (g := mkF m pc ls (.ref a :: rest)) rfl hml rfl hd hf (W := W) (by rw [← hW]; exact Nat.le_of_eq (Nat.zero_add _)) hl
  exact og st (k T' X' e')
theorem g_callS (X : Stand p l e R s m args below meth c T locs cells slots) (hx : p.tables.exec = Jvm.exec) (hZ : Z.Warmed39 s.vm) (hown : s.vm.findClass own = some m.cls) (w1 : (Cond.methodLink own index y).before a0 Z = true) (w2 : (Cond.static y).before a0 Z = true) (w3 : (Cond.initialized y.cls).before a0 Z = true) (w4 : (Cond.code y bytes maxL ret).before a0 Z = true) (hy : y.cls ≠ "java/lang/invoke/MethodHandle" ∧ y.cls ≠ "java/lang/invoke/VarHandle")
    (hM : MetFree l y (head1 [Cond.code y bytes maxL ret] rm) (fun a U => a = argsL.toArray ∧ Z.Warmed39 U.vm ∧ U.heap = h) (fun _ _ _ _ _ => True) (fun _ U o U' => ∃ v L, o = .returned v ∧ Q v U'.heap L ∧ FrameEnd U o U' L rm.cells rm.slots)) (eT : T.heap = h) (hml : ls.size = c.maxLocals) (hps : parseMethodDescriptor y.desc = some ⟨ps, r⟩) (hlen : argsL.length = ps.length) (hst : stk = argsL.reverse ++ rest) (hW : (rest.map fun v => v.category).sum = W) (hd : decode c.code pc = .ok (.invokestatic index, 3))
    (hf : rm.frames + 1 ≤ R.frames) (hl : W + (maxL + 11) + rm.locals ≤ R.locals) (hc : cells + rm.cells ≤ R.cells) (hs : slots + rm.slots ≤ R.slots)
    (k : ∀ v T' L, Q v T'.heap L → Stand p l e R s m args below meth c T' (locs ++ L) (cells + rm.cells) (slots + rm.slots) → OG p.tables e below P (T'.setTop (mkF m (pc + 3) ls (v.toList ++ rest)))) : OG p.tables e below P (T.setTop (mkF m pc ls stk)) := by
  obtain ⟨v, _, ⟨T', L', c', n'⟩, -, X', ⟨L, hQ, l1, y1, z1⟩, st⟩ := Jvm.LawKit.callS X hx (y := y) hown (mvT hZ w1) (mvT hZ w2) (mvT hZ w3) (mvT hZ w4) hy (backOf (W := W) hM hZ w4 w3 hf hl) (g := mkF m pc ls stk) rfl hml (argsL := argsL) (rest := rest) (lenOf hps hlen) hst (by rw [← hW]; exact Nat.le_of_eq (Nat.zero_add _)) hd (fun _ _ => ⟨rfl, eT, hc, hs⟩)
  dsimp only [Pt.U, Pt.locs, Pt.cells, Pt.slots] at X' l1 y1 z1 st hQ
  subst l1 y1 z1
  exact og st (k v T' L hQ X')
theorem g_callI (X : Stand p l e R s m args below meth c T locs cells slots) (hx : p.tables.exec = Jvm.exec) (hZ : Z.Warmed39 s.vm) (hown : s.vm.findClass own = some m.cls) (hy1 : y.name = "<init>") (w1 : (Cond.methodLink own index y).before a0 Z = true) (w2 : (Cond.instanceMethod y).before a0 Z = true) (w3 : (Cond.initialized y.cls).before a0 Z = true) (w4 : (Cond.code y bytes maxL none).before a0 Z = true) (hy : y.cls ≠ "java/lang/invoke/MethodHandle" ∧ y.cls ≠ "java/lang/invoke/VarHandle")
    (hM : MetFree l y (head1 [Cond.code y bytes maxL none] rm) (fun b U => b = (.ref a :: argsL).toArray ∧ Z.Warmed39 U.vm ∧ U.heap = h) (fun _ _ _ _ _ => True) (fun _ U o U' => ∃ v L, o = .returned v ∧ Q v U'.heap L ∧ FrameEnd U o U' L rm.cells rm.slots)) (eT : T.heap = h) (hml : ls.size = c.maxLocals) (hps : parseMethodDescriptor y.desc = some ⟨ps, r⟩) (hlen : argsL.length = ps.length) (hst : stk = argsL.reverse ++ .ref a :: rest) (hW : (rest.map fun v => v.category).sum = W) (hd : decode c.code pc = .ok (.invokespecial index, 3))
    (hf : rm.frames + 1 ≤ R.frames) (hl : W + (maxL + 11) + rm.locals ≤ R.locals) (hc : cells + rm.cells ≤ R.cells) (hs : slots + rm.slots ≤ R.slots)
    (k : ∀ v T' L, Q v T'.heap L → Stand p l e R s m args below meth c T' (locs ++ L) (cells + rm.cells) (slots + rm.slots) → OG p.tables e below P (T'.setTop (mkF m (pc + 3) ls (v.toList ++ rest)))) : OG p.tables e below P (T.setTop (mkF m pc ls stk)) := by
  obtain ⟨v, _, ⟨T', L', c', n'⟩, -, X', ⟨L, hQ, l1, y1, z1⟩, st⟩ := X.specialBack hx (y := y) hy1 hown (mvT hZ w1) (mvT hZ w2) (mvT hZ w4) hy (backOf (W := W) hM hZ w4 w3 hf hl) (g := mkF m pc ls stk) rfl hml (Steps.refl _) (a := a) (argsL := argsL) (rest := rest) (lenOf hps hlen) hst (by rw [← hW]; exact Nat.le_of_eq (Nat.zero_add _)) hd (fun _ _ => ⟨rfl, eT, hc, hs⟩)
  dsimp only [Pt.U, Pt.locs, Pt.cells, Pt.slots] at X' l1 y1 z1 st hQ
  subst l1 y1 z1
  exact og (fun _ q => st.trans q) (k v T' L hQ X')
theorem g_callV {C : String} (X : Stand p l e R s m args below meth c T locs cells slots) (hx : p.tables.exec = Jvm.exec) (hZ : Z.Warmed39 s.vm) (hown : s.vm.findClass own = some m.cls) (w1 : (Cond.methodLink own index y).before a0 Z = true) (w2 : (Cond.declares y).before a0 Z = true) (w5 : (Cond.selects C y y).before a0 Z = true) (w6 : (Cond.instanceMethod y).before a0 Z = true) (w3 : (Cond.initialized y.cls).before a0 Z = true) (w4 : (Cond.code y bytes maxL ret).before a0 Z = true) (hy : y.cls ≠ "java/lang/invoke/MethodHandle" ∧ y.cls ≠ "java/lang/invoke/VarHandle")
    (hM : MetFree l y (head1 [Cond.code y bytes maxL ret] rm) (fun b U => b = (.ref a :: argsL).toArray ∧ Z.Warmed39 U.vm ∧ U.heap = h) (fun _ _ _ _ _ => True) (fun _ U o U' => ∃ v L, o = .returned v ∧ Q v U'.heap L ∧ FrameEnd U o U' L rm.cells rm.slots)) (eT : T.heap = h) (E : Exa Z h a C) (hml : ls.size = c.maxLocals) (hps : parseMethodDescriptor y.desc = some ⟨ps, r⟩) (hlen : argsL.length = ps.length) (hst : stk = argsL.reverse ++ .ref a :: rest) (hW : (rest.map fun v => v.category).sum = W) (hd : decode c.code pc = .ok (.invokevirtual index, 3))
    (hf : rm.frames + 1 ≤ R.frames) (hl : W + (maxL + 11) + rm.locals ≤ R.locals) (hc : cells + rm.cells ≤ R.cells) (hs : slots + rm.slots ≤ R.slots)
    (k : ∀ v T' L, Q v T'.heap L → Stand p l e R s m args below meth c T' (locs ++ L) (cells + rm.cells) (slots + rm.slots) → OG p.tables e below P (T'.setTop (mkF m (pc + 3) ls (v.toList ++ rest)))) : OG p.tables e below P (T.setTop (mkF m pc ls stk)) := by
  obtain ⟨cq, kq, qa, qb, qc⟩ := isOf hZ eT E
  obtain ⟨v, _, ⟨T', L', c', n'⟩, -, X', ⟨L, hQ, l1, y1, z1⟩, st⟩ := X.virtualBack hx (y := y) (z := y) hown (mvT hZ w1) (mvT hZ w2) (notFace_of_selects (args := #[]) (mvT hZ w5)) (mvT hZ w5) (mvT hZ w6) hy (backOf (W := W) hM hZ w4 w3 hf hl) qa qc (g := mkF m pc ls stk) rfl hml (Steps.refl _) (argsL := argsL) (rest := rest) (lenOf hps hlen) hst (by rw [← hW]; exact Nat.le_of_eq (Nat.zero_add _)) hd (fun _ _ => ⟨rfl, eT, hc, hs⟩)
  dsimp only [Pt.U, Pt.locs, Pt.cells, Pt.slots] at X' l1 y1 z1 st hQ
  subst l1 y1 z1
  exact og (fun _ q => st.trans q) (k v T' L hQ X')
theorem g_callF {C : String} {count : Nat} (X : Stand p l e R s m args below meth c T locs cells slots) (hx : p.tables.exec = Jvm.exec) (hZ : Z.Warmed39 s.vm) (hown : s.vm.findClass own = some m.cls) (w1 : (Cond.methodLink own index y).before args s = true) (w2 : (Cond.declares y).before args s = true) (w7 : (Cond.interfaceMethod y.cls y.cls y.name y.desc).before args s = true) (w5 : (Cond.selects C y z).before args s = true) (w6 : (Cond.instanceMethod z).before args s = true) (w8 : (Cond.publicMethod z).before args s = true) (w9 : (Cond.unhidden C y.name y.desc).before args s = true) (wc : (Cond.castable C y.cls).before args s = true)
    (w3 : (Cond.initialized z.cls).before a0 Z = true) (w4 : (Cond.code z bytes maxL ret).before a0 Z = true) (hy : y.cls ≠ "java/lang/invoke/MethodHandle" ∧ y.cls ≠ "java/lang/invoke/VarHandle")
    (hM : MetFree l z (head1 [Cond.code z bytes maxL ret] rm) (fun b U => b = (.ref a :: argsL).toArray ∧ Z.Warmed39 U.vm ∧ U.heap = h) (fun _ _ _ _ _ => True) (fun _ U o U' => ∃ v L, o = .returned v ∧ Q v U'.heap L ∧ FrameEnd U o U' L rm.cells rm.slots)) (eT : T.heap = h) (E : Exa Z h a C) (hml : ls.size = c.maxLocals) (hps : parseMethodDescriptor y.desc = some ⟨ps, r⟩) (hlen : argsL.length = ps.length) (hst : stk = argsL.reverse ++ .ref a :: rest) (hW : (rest.map fun v => v.category).sum = W) (hd : decode c.code pc = .ok (.invokeinterface index count, 5))
    (hf : rm.frames + 1 ≤ R.frames) (hl : W + (maxL + 11) + rm.locals ≤ R.locals) (hc : cells + rm.cells ≤ R.cells) (hs : slots + rm.slots ≤ R.slots)
    (k : ∀ v T' L, Q v T'.heap L → Stand p l e R s m args below meth c T' (locs ++ L) (cells + rm.cells) (slots + rm.slots) → OG p.tables e below P (T'.setTop (mkF m (pc + 5) ls (v.toList ++ rest)))) : OG p.tables e below P (T.setTop (mkF m pc ls stk)) := by
  obtain ⟨cq, kq, qa, qb, qc⟩ := isOf hZ eT E
  obtain ⟨v, _, ⟨T', L', c', n'⟩, -, X', ⟨L, hQ, l1, y1, z1⟩, st⟩ := X.interfaceBack hx (xi := y) (y := z) hown w1 w2 w7 w5 w6 w8 w9 wc hy (backOf (W := W) hM hZ w4 w3 hf hl) qa qb qc (g := mkF m pc ls stk) rfl hml (Steps.refl _) (argsL := argsL) (rest := rest) (lenOf hps hlen) hst (by rw [← hW]; exact Nat.le_of_eq (Nat.zero_add _)) hd (fun _ _ => ⟨rfl, eT, hc, hs⟩)
  dsimp only [Pt.U, Pt.locs, Pt.cells, Pt.slots] at X' l1 y1 z1 st hQ
  subst l1 y1 z1
  exact og (fun _ q => st.trans q) (k v T' L hQ X')
theorem g_callSS (X : Stand p l e R (s.setVm vm0) m args below meth c T locs cells slots) (hx : p.tables.exec = Jvm.exec) (hZ : Z.Warmed39 (s.setVm vm0).vm) (hown : (s.setVm vm0).vm.findClass own = some m.cls) (hS : s.Since vm0 k0) (hk : k0 ≤ h.size) (w1 : (Cond.methodLink own index y).before a0 Z = true) (w2 : (Cond.static y).before a0 Z = true) (w3 : (Cond.initialized y.cls).before a0 Z = true) (w4 : (Cond.code y bytes maxL ret).before a0 Z = true) (hy : y.cls ≠ "java/lang/invoke/MethodHandle" ∧ y.cls ≠ "java/lang/invoke/VarHandle")
    (hM : MetFree l y (head1 [Cond.code y bytes maxL ret] rm) (fun a U => a = argsL.toArray ∧ Z.Warmed39 U.vm ∧ U.heap = h) (fun _ _ _ _ _ => True) (fun _ U o U' => ∃ v L, o = .returned v ∧ Q v U'.heap L ∧ ReturnedEndW U o U' L rm.cells rm.slots)) (eT : T.heap = h) (hml : ls.size = c.maxLocals) (hps : parseMethodDescriptor y.desc = some ⟨ps, r⟩) (hlen : argsL.length = ps.length) (hst : stk = argsL.reverse ++ rest) (hW : (rest.map fun v => v.category).sum = W) (hd : decode c.code pc = .ok (.invokestatic index, 3))
    (hf : rm.frames + 1 ≤ R.frames) (hl : W + (maxL + 11) + rm.locals ≤ R.locals) (hc : cells + rm.cells ≤ R.cells) (hs : slots + rm.slots ≤ R.slots)
    (k : ∀ v T' L, Q v T'.heap L → Stand p l e R (s.setVm T'.vm) m args below meth c T' (locs ++ L) (cells + rm.cells) (slots + rm.slots) → s.Since T'.vm T'.heap.size → Z.Warmed39 (s.setVm T'.vm).vm → (s.setVm T'.vm).vm.findClass own = some m.cls → OG p.tables e below P (T'.setTop (mkF m (pc + 3) ls (v.toList ++ rest)))) : OG p.tables e below P (T.setTop (mkF m pc ls stk)) := by
  obtain ⟨v, _, ⟨T', L', c', n'⟩, -, X', h2, gr, ⟨L, hQ, l1, y1, z1⟩, st⟩ := callSS X hx (y := y) hown (mvT hZ w1) (mvT hZ w2) (mvT hZ w3) (mvT hZ w4) hy (backOfS (W := W) hM hZ w4 w3 hf hl) (g := mkF m pc ls stk) rfl hml (argsL := argsL) (rest := rest) (lenOf hps hlen) hst (by rw [← hW]; exact Nat.le_of_eq (Nat.zero_add _)) hd (fun _ _ => ⟨rfl, eT, hc, hs⟩)
  dsimp only [Pt.U, Pt.locs, Pt.cells, Pt.slots] at X' h2 gr l1 y1 z1 st hQ
  obtain ⟨X2, hS2, hZ2, hown2⟩ := rebS hS (by rw [eT]; exact hk) X' h2 gr hZ hown
  subst l1 y1 z1
  exact og (fun _ q => st.trans q) (k v T' L hQ X2 hS2 hZ2 hown2)
theorem g_callIS (X : Stand p l e R (s.setVm vm0) m args below meth c T locs cells slots) (hx : p.tables.exec = Jvm.exec) (hZ : Z.Warmed39 (s.setVm vm0).vm) (hown : (s.setVm vm0).vm.findClass own = some m.cls) (hS : s.Since vm0 k0) (hk : k0 ≤ h.size) (hy1 : y.name = "<init>") (w1 : (Cond.methodLink own index y).before a0 Z = true) (w2 : (Cond.instanceMethod y).before a0 Z = true) (w4 : (Cond.code y bytes maxL none).before a0 Z = true) (hy : y.cls ≠ "java/lang/invoke/MethodHandle" ∧ y.cls ≠ "java/lang/invoke/VarHandle")
    (hB : BackS l R p e below (s.setVm vm0) args y 3 W (fun A b => b = (.ref a :: argsL).toArray ∧ A.U.heap = h ∧ A.cells + rm.cells ≤ R.cells ∧ A.slots + rm.slots ≤ R.slots) (fun A _ v B => ∃ L, Q v B.U.heap L ∧ B.locs = A.locs ++ L ∧ B.cells = A.cells + rm.cells ∧ B.slots = A.slots + rm.slots))
    (eT : T.heap = h) (hml : ls.size = c.maxLocals) (hps : parseMethodDescriptor y.desc = some ⟨ps, r⟩) (hlen : argsL.length = ps.length) (hst : stk = argsL.reverse ++ .ref a :: rest) (hW : (rest.map fun v => v.category).sum = W) (hd : decode c.code pc = .ok (.invokespecial index, 3)) (hc : cells + rm.cells ≤ R.cells) (hs : slots + rm.slots ≤ R.slots)
    (k : ∀ v T' L, Q v T'.heap L → Stand p l e R (s.setVm T'.vm) m args below meth c T' (locs ++ L) (cells + rm.cells) (slots + rm.slots) → s.Since T'.vm T'.heap.size → Z.Warmed39 (s.setVm T'.vm).vm → (s.setVm T'.vm).vm.findClass own = some m.cls → OG p.tables e below P (T'.setTop (mkF m (pc + 3) ls (v.toList ++ rest)))) : OG p.tables e below P (T.setTop (mkF m pc ls stk)) := by
  obtain ⟨v, _, ⟨T', L', c', n'⟩, -, X', h2, gr, ⟨L, hQ, l1, y1, z1⟩, st⟩ := X.specialBackS hx (y := y) hy1 hown (mvT hZ w1) (mvT hZ w2) (mvT hZ w4) hy hB (g := mkF m pc ls stk) rfl hml (Steps.refl _) (a := a) (argsL := argsL) (rest := rest) (lenOf hps hlen) hst (by rw [← hW]; exact Nat.le_of_eq (Nat.zero_add _)) hd (fun _ _ => ⟨rfl, eT, hc, hs⟩)
  dsimp only [Pt.U, Pt.locs, Pt.cells, Pt.slots] at X' h2 gr l1 y1 z1 st hQ
  obtain ⟨X2, hS2, hZ2, hown2⟩ := rebS hS (by rw [eT]; exact hk) X' h2 gr hZ hown
  subst l1 y1 z1
  exact og (fun _ q => st.trans q) (k v T' L hQ X2 hS2 hZ2 hown2)
theorem o_i2bO {tb : Tables} [Ours tb] {target : State} {x : Int32} (j : At T m c below ∧ tb.exec = Jvm.exec) (hd : decode c.code pc = .ok (.i2b, 1)) (hr : Steps tb e below (T.setTop (mkF m (pc + 1) ls (.int (own_b x) :: stk))) target) : Steps tb e below (T.setTop (mkF m pc ls (.int x :: stk))) target := XT.i2b (g := mkF m pc ls (.int x :: stk)) j.1 j.2 rfl hd rfl hr
theorem o_i2cO {tb : Tables} [Ours tb] {target : State} {x : Int32} (j : At T m c below ∧ tb.exec = Jvm.exec) (hd : decode c.code pc = .ok (.i2c, 1)) (hr : Steps tb e below (T.setTop (mkF m (pc + 1) ls (.int (own_i2c x) :: stk))) target) : Steps tb e below (T.setTop (mkF m pc ls (.int x :: stk))) target := XT.i2c (g := mkF m pc ls (.int x :: stk)) j.1 j.2 rfl hd rfl hr
theorem o_iincL {tb : Tables} [Ours tb] {target : State} {k : Nat} {cst : Int} {x : Int32} {l' : Array Slot} (j : At T m c below ∧ tb.exec = Jvm.exec) (v : Int32) (hd : decode c.code pc = .ok (.iinc k cst, 3)) (hv : Int32.ofInt cst = v) (w : Int32) (hw : x + v = w) (hl : ls[k]? = some (.val (.int x))) (hl' : storeLocals ls k (.int w) = some l') (hr : Steps tb e below (T.setTop (mkF m (pc + 3) l' stk)) target) : Steps tb e below (T.setTop (mkF m pc ls stk)) target := by
  subst hw
  exact o_iincV j v hd hv hl hl' hr
theorem o_ldcI {target : State} {v : Int32} (X : Stand p l e R s m args below meth c T locs cells slots) (hx : p.tables.exec = Jvm.exec) (hZ : Z.Warmed39 s.vm) (hown : s.vm.findClass own = some m.cls) (w : (Cond.constant own index v).before a0 Z = true) (hd : decode c.code pc = .ok (.ldc index, 2)) (hr : Steps p.tables e below (T.setTop (mkF m (pc + 2) ls (.int v :: stk))) target) : Steps p.tables e below (T.setTop (mkF m pc ls stk)) target := X.ldcI hx hown (mvT hZ w) (g := mkF m pc ls stk) rfl hd hr
theorem o_baload {target : State} {j : Int32} {v : Value} {q : ClassId} {n : Int32} {vs : List Value} {dv : Value} (X : Stand p l e R s m args below meth c T locs cells slots) (hx : p.tables.exec = Jvm.exec) (hZ : Z.Warmed39 s.vm) (eT : T.heap = h) (F : Arv Z h a q .byte n vs dv) (hj : ¬ j < 0 ∧ j < n) (hv : vs.getD j.toNatClampNeg dv = v) (hd : decode c.code pc = .ok (.baload, 1))
    (hr : Steps p.tables e below (T.setTop (mkF m (pc + 1) ls (v :: rest))) target) : Steps p.tables e below (T.setTop (mkF m pc ls (.int j :: .ref a :: rest))) target := by
  obtain ⟨cl, A, -, S, -, H, -⟩ := F
  exact X.baloadBytes hx (by rw [eT]; exact A.1) (State.isArrayOf_alike hZ.alike A.2.1) A.2.2 (inb_of S hj) (H.at (inb_of S hj) hv) (g := mkF m pc ls (.int j :: .ref a :: rest)) rfl rfl hd _ hr
theorem o_caload {target : State} {j : Int32} {v : Value} {q : ClassId} {n : Int32} {vs : List Value} {dv : Value} (X : Stand p l e R s m args below meth c T locs cells slots) (hx : p.tables.exec = Jvm.exec) (hZ : Z.Warmed39 s.vm) (eT : T.heap = h) (F : Arv Z h a q .char n vs dv) (hj : ¬ j < 0 ∧ j < n) (hv : vs.getD j.toNatClampNeg dv = v) (hd : decode c.code pc = .ok (.caload, 1))
    (hr : Steps p.tables e below (T.setTop (mkF m (pc + 1) ls (v :: rest))) target) : Steps p.tables e below (T.setTop (mkF m pc ls (.int j :: .ref a :: rest))) target := by
  obtain ⟨cl, A, -, S, -, H, -⟩ := F
  exact X.caload hx (by rw [eT]; exact A.1) (State.isArrayOf_alike hZ.alike A.2.1) A.2.2 (inb_of S hj) (H.at (inb_of S hj) hv) (g := mkF m pc ls (.int j :: .ref a :: rest)) rfl rfl hd _ hr
theorem o_alen {target : State} {ty : FieldType} {q : ClassId} {n : Int32} {vs : List Value} {dv : Value} (X : Stand p l e R s m args below meth c T locs cells slots) (hx : p.tables.exec = Jvm.exec) (hZ : Z.Warmed39 s.vm) (eT : T.heap = h) (F : Arv Z h a q ty n vs dv) (hd : decode c.code pc = .ok (.arraylength, 1))
    (hr : Steps p.tables e below (T.setTop (mkF m (pc + 1) ls (.int n :: rest))) target) : Steps p.tables e below (T.setTop (mkF m pc ls (.ref a :: rest))) target := by
  obtain ⟨cl, A, -, S, M, -⟩ := F
  refine X.arraylength hx (by rw [eT]; exact A.1) (State.isArrayOf_alike hZ.alike A.2.1) (g := mkF m pc ls (.ref a :: rest)) rfl rfl hd _ ?_
  rw [len_of S M]; exact hr
theorem g_stB {j x v : Int32} {q : ClassId} {n : Int32} {vs : List Value} {dv : Value} (i : Nat) (X : Stand p l e R s m args below meth c T locs cells slots) (hx : p.tables.exec = Jvm.exec) (hZ : Z.Warmed39 s.vm) (eT : T.heap = h) (F : Arv Z h a q .byte n vs dv) (hj : ¬ j < 0 ∧ j < n) (hi : j.toNatClampNeg = i) (hl : i < vs.length) (hv : nar .byte x = v) (hd : decode c.code pc = .ok (.bastore, 1))
    (k : ∀ T' h', Stand p l e R s m args below meth c T' (locs ++ [⟨a, j.toNatClampNeg⟩]) cells slots → T'.heap = h' → Wr h h' a j.toNatClampNeg (.int v) → Arv Z h' a q .byte n (vs.set i (.int v)) dv → OG p.tables e below P (T'.setTop (mkF m (pc + 1) ls rest))) : OG p.tables e below P (T.setTop (mkF m pc ls (.int x :: .int j :: .ref a :: rest))) := by
  subst hv
  obtain ⟨cl, A, q1, S, M, H, G⟩ := F
  obtain ⟨T', h', X', e', W', st⟩ := stB X hx hZ eT A (j := j) (inb_of S hj) (g := mkF m pc ls (.int x :: .int j :: .ref a :: rest)) rfl rfl hd
  exact og st (k T' h' X' e' W' (Arv.set A q1 S M H G (fits_nar_byte x) W' i hi hl))
theorem g_stC {j x v : Int32} {q : ClassId} {n : Int32} {vs : List Value} {dv : Value} (i : Nat) (X : Stand p l e R s m args below meth c T locs cells slots) (hx : p.tables.exec = Jvm.exec) (hZ : Z.Warmed39 s.vm) (eT : T.heap = h) (F : Arv Z h a q .char n vs dv) (hj : ¬ j < 0 ∧ j < n) (hi : j.toNatClampNeg = i) (hl : i < vs.length) (hv : nar .char x = v) (hd : decode c.code pc = .ok (.castore, 1))
    (k : ∀ T' h', Stand p l e R s m args below meth c T' (locs ++ [⟨a, j.toNatClampNeg⟩]) cells slots → T'.heap = h' → Wr h h' a j.toNatClampNeg (.int v) → Arv Z h' a q .char n (vs.set i (.int v)) dv → OG p.tables e below P (T'.setTop (mkF m (pc + 1) ls rest))) : OG p.tables e below P (T.setTop (mkF m pc ls (.int x :: .int j :: .ref a :: rest))) := by
  subst hv
  obtain ⟨cl, A, q1, S, M, H, G⟩ := F
  obtain ⟨T', h', X', e', W', st⟩ := stC X hx hZ eT A (j := j) (inb_of S hj) (g := mkF m pc ls (.int x :: .int j :: .ref a :: rest)) rfl rfl hd
  exact og st (k T' h' X' e' W' (Arv.set A q1 S M H G (fits_nar_char x) W' i hi hl))
theorem g_cast {C K : String} (X : Stand p l e R s m args below meth c T locs cells slots) (hx : p.tables.exec = Jvm.exec) (hZ : Z.Warmed39 s.vm) (hown : s.vm.findClass own = some m.cls) (w : (Cond.classLink own index K).before a0 Z = true) (eT : T.heap = h) (F : Ins Z h a K true) (hd : decode c.code pc = .ok (.checkcast index, 3))
    (k : ∀ T', Stand p l e R s m args below meth c T' locs cells slots → T'.heap = h → OG p.tables e below P (T'.setTop (mkF m (pc + 3) ls (.ref a :: rest)))) : OG p.tables e below P (T.setTop (mkF m pc ls (.ref a :: rest))) := by
  obtain ⟨T', X', e', st⟩ := castY X hx hZ hown w eT F (g := mkF m pc ls (.ref a :: rest)) rfl rfl hd
  exact og st (k T' X' e')
theorem cS {nl : Nat} (argsL rest : List Value) (W : Nat) (X : Stand p l e R s m args below meth c T locs cells slots) (hx : p.tables.exec = Jvm.exec) (hZ : Z.Warmed39 s.vm) (hown : s.vm.findClass own = some m.cls) (w1 : (Cond.methodLink own index y).before a0 Z = true) (w2 : (Cond.static y).before a0 Z = true) (w3 : (Cond.initialized y.cls).before a0 Z = true) (w4 : (Cond.code y bytes maxL ret).before a0 Z = true) (hM : MetFree l y (head1 [Cond.code y bytes maxL ret] rm) (fun a U => a = argsL.toArray ∧ Z.Warmed39 U.vm ∧ U.heap = h) (fun _ _ _ _ _ => True) (fun _ U o U' => ∃ v L, o = .returned v ∧ Q v U'.heap L ∧ FrameEnd U o U' L rm.cells rm.slots)) (eT : T.heap = h) (hml : c.maxLocals = nl) (hps : parseMethodDescriptor y.desc = some ⟨ps, r⟩) (hd : decode c.code pc = .ok (.invokestatic index, 3)) (k : ∀ v T' L, Q v T'.heap L → Stand p l e R s m args below meth c T' (locs ++ L) (cells + rm.cells) (slots + rm.slots) → OG p.tables e below P (T'.setTop (mkF m (pc + 3) ls (v.toList ++ rest)))) (hy : y.cls ≠ "java/lang/invoke/MethodHandle" ∧ y.cls ≠ "java/lang/invoke/VarHandle" := by decide) (hls : ls.size = nl := by rfl) (hlen : argsL.length = ps.length := by rfl) (hst : stk = argsL.reverse ++ rest := by rfl) (hW : (rest.map fun v => v.category).sum = W := by rfl) (hf : rm.frames + 1 ≤ R.frames := by decide) (hl : W + (maxL + 11) + rm.locals ≤ R.locals := by decide) (hc : cells + rm.cells ≤ R.cells := by decide) (hs : slots + rm.slots ≤ R.slots := by decide) : OG p.tables e below P (T.setTop (mkF m pc ls stk)) := g_callS X hx hZ hown w1 w2 w3 w4 hy hM eT (by rw [hml]; exact hls) hps hlen hst hW hd hf hl hc hs k
theorem cI {nl : Nat} (a : Addr) (argsL rest : List Value) (W : Nat) (X : Stand p l e R s m args below meth c T locs cells slots) (hx : p.tables.exec = Jvm.exec) (hZ : Z.Warmed39 s.vm) (hown : s.vm.findClass own = some m.cls) (w1 : (Cond.methodLink own index y).before a0 Z = true) (w2 : (Cond.instanceMethod y).before a0 Z = true) (w3 : (Cond.initialized y.cls).before a0 Z = true) (w4 : (Cond.code y bytes maxL none).before a0 Z = true) (hM : MetFree l y (head1 [Cond.code y bytes maxL none] rm) (fun b U => b = (.ref a :: argsL).toArray ∧ Z.Warmed39 U.vm ∧ U.heap = h) (fun _ _ _ _ _ => True) (fun _ U o U' => ∃ v L, o = .returned v ∧ Q v U'.heap L ∧ FrameEnd U o U' L rm.cells rm.slots)) (eT : T.heap = h) (hml : c.maxLocals = nl) (hps : parseMethodDescriptor y.desc = some ⟨ps, r⟩) (hd : decode c.code pc = .ok (.invokespecial index, 3)) (k : ∀ v T' L, Q v T'.heap L → Stand p l e R s m args below meth c T' (locs ++ L) (cells + rm.cells) (slots + rm.slots) → OG p.tables e below P (T'.setTop (mkF m (pc + 3) ls (v.toList ++ rest)))) (hy1 : y.name = "<init>" := by rfl) (hy : y.cls ≠ "java/lang/invoke/MethodHandle" ∧ y.cls ≠ "java/lang/invoke/VarHandle" := by decide) (hls : ls.size = nl := by rfl) (hlen : argsL.length = ps.length := by rfl) (hst : stk = argsL.reverse ++ .ref a :: rest := by rfl) (hW : (rest.map fun v => v.category).sum = W := by rfl) (hf : rm.frames + 1 ≤ R.frames := by decide) (hl : W + (maxL + 11) + rm.locals ≤ R.locals := by decide) (hc : cells + rm.cells ≤ R.cells := by decide) (hs : slots + rm.slots ≤ R.slots := by decide) : OG p.tables e below P (T.setTop (mkF m pc ls stk)) := g_callI X hx hZ hown hy1 w1 w2 w3 w4 hy hM eT (by rw [hml]; exact hls) hps hlen hst hW hd hf hl hc hs k
theorem cV {C : String} {nl : Nat} (a : Addr) (argsL rest : List Value) (W : Nat) (X : Stand p l e R s m args below meth c T locs cells slots) (hx : p.tables.exec = Jvm.exec) (hZ : Z.Warmed39 s.vm) (hown : s.vm.findClass own = some m.cls) (w1 : (Cond.methodLink own index y).before a0 Z = true) (w2 : (Cond.declares y).before a0 Z = true) (w5 : (Cond.selects C y y).before a0 Z = true) (w6 : (Cond.instanceMethod y).before a0 Z = true) (w3 : (Cond.initialized y.cls).before a0 Z = true) (w4 : (Cond.code y bytes maxL ret).before a0 Z = true) (hM : MetFree l y (head1 [Cond.code y bytes maxL ret] rm) (fun b U => b = (.ref a :: argsL).toArray ∧ Z.Warmed39 U.vm ∧ U.heap = h) (fun _ _ _ _ _ => True) (fun _ U o U' => ∃ v L, o = .returned v ∧ Q v U'.heap L ∧ FrameEnd U o U' L rm.cells rm.slots)) (eT : T.heap = h) (E : Exa Z h a C) (hml : c.maxLocals = nl) (hps : parseMethodDescriptor y.desc = some ⟨ps, r⟩) (hd : decode c.code pc = .ok (.invokevirtual index, 3)) (k : ∀ v T' L, Q v T'.heap L → Stand p l e R s m args below meth c T' (locs ++ L) (cells + rm.cells) (slots + rm.slots) → OG p.tables e below P (T'.setTop (mkF m (pc + 3) ls (v.toList ++ rest)))) (hy : y.cls ≠ "java/lang/invoke/MethodHandle" ∧ y.cls ≠ "java/lang/invoke/VarHandle" := by decide) (hls : ls.size = nl := by rfl) (hlen : argsL.length = ps.length := by rfl) (hst : stk = argsL.reverse ++ .ref a :: rest := by rfl) (hW : (rest.map fun v => v.category).sum = W := by rfl) (hf : rm.frames + 1 ≤ R.frames := by decide) (hl : W + (maxL + 11) + rm.locals ≤ R.locals := by decide) (hc : cells + rm.cells ≤ R.cells := by decide) (hs : slots + rm.slots ≤ R.slots := by decide) : OG p.tables e below P (T.setTop (mkF m pc ls stk)) := g_callV X hx hZ hown w1 w2 w5 w6 w3 w4 hy hM eT E (by rw [hml]; exact hls) hps hlen hst hW hd hf hl hc hs k
theorem cF {C : String} {count : Nat} {nl : Nat} (y z : MethodName) (a : Addr) (argsL rest : List Value) (W : Nat) (X : Stand p l e R s m args below meth c T locs cells slots) (hx : p.tables.exec = Jvm.exec) (hZ : Z.Warmed39 s.vm) (hown : s.vm.findClass own = some m.cls) (w1 : (Cond.methodLink own index y).before args s = true) (w2 : (Cond.declares y).before args s = true) (w7 : (Cond.interfaceMethod y.cls y.cls y.name y.desc).before args s = true) (w5 : (Cond.selects C y z).before args s = true) (w6 : (Cond.instanceMethod z).before args s = true) (w8 : (Cond.publicMethod z).before args s = true) (w9 : (Cond.unhidden C y.name y.desc).before args s = true) (wc : (Cond.castable C y.cls).before args s = true) (w3 : (Cond.initialized z.cls).before a0 Z = true) (w4 : (Cond.code z bytes maxL ret).before a0 Z = true) (hM : MetFree l z (head1 [Cond.code z bytes maxL ret] rm) (fun b U => b = (.ref a :: argsL).toArray ∧ Z.Warmed39 U.vm ∧ U.heap = h) (fun _ _ _ _ _ => True) (fun _ U o U' => ∃ v L, o = .returned v ∧ Q v U'.heap L ∧ FrameEnd U o U' L rm.cells rm.slots)) (eT : T.heap = h) (E : Exa Z h a C) (hml : c.maxLocals = nl) (hps : parseMethodDescriptor y.desc = some ⟨ps, r⟩) (hd : decode c.code pc = .ok (.invokeinterface index count, 5)) (k : ∀ v T' L, Q v T'.heap L → Stand p l e R s m args below meth c T' (locs ++ L) (cells + rm.cells) (slots + rm.slots) → OG p.tables e below P (T'.setTop (mkF m (pc + 5) ls (v.toList ++ rest)))) (hy : y.cls ≠ "java/lang/invoke/MethodHandle" ∧ y.cls ≠ "java/lang/invoke/VarHandle" := by decide) (hls : ls.size = nl := by rfl) (hlen : argsL.length = ps.length := by rfl) (hst : stk = argsL.reverse ++ .ref a :: rest := by rfl) (hW : (rest.map fun v => v.category).sum = W := by rfl) (hf : rm.frames + 1 ≤ R.frames := by decide) (hl : W + (maxL + 11) + rm.locals ≤ R.locals := by decide) (hc : cells + rm.cells ≤ R.cells := by decide) (hs : slots + rm.slots ≤ R.slots := by decide) : OG p.tables e below P (T.setTop (mkF m pc ls stk)) := g_callF X hx hZ hown w1 w2 w7 w5 w6 w8 w9 wc w3 w4 hy hM eT E (by rw [hml]; exact hls) hps hlen hst hW hd hf hl hc hs k
theorem cSS {nl : Nat} (argsL rest : List Value) (W : Nat) (X : Stand p l e R (s.setVm vm0) m args below meth c T locs cells slots) (hx : p.tables.exec = Jvm.exec) (hZ : Z.Warmed39 (s.setVm vm0).vm) (hown : (s.setVm vm0).vm.findClass own = some m.cls) (hS : s.Since vm0 k0) (hk : k0 ≤ h.size) (w1 : (Cond.methodLink own index y).before a0 Z = true) (w2 : (Cond.static y).before a0 Z = true) (w3 : (Cond.initialized y.cls).before a0 Z = true) (w4 : (Cond.code y bytes maxL ret).before a0 Z = true) (hM : MetFree l y (head1 [Cond.code y bytes maxL ret] rm) (fun a U => a = argsL.toArray ∧ Z.Warmed39 U.vm ∧ U.heap = h) (fun _ _ _ _ _ => True) (fun _ U o U' => ∃ v L, o = .returned v ∧ Q v U'.heap L ∧ ReturnedEndW U o U' L rm.cells rm.slots)) (eT : T.heap = h) (hml : c.maxLocals = nl) (hps : parseMethodDescriptor y.desc = some ⟨ps, r⟩) (hd : decode c.code pc = .ok (.invokestatic index, 3)) (k : ∀ v T' L, Q v T'.heap L → Stand p l e R (s.setVm T'.vm) m args below meth c T' (locs ++ L) (cells + rm.cells) (slots + rm.slots) → s.Since T'.vm T'.heap.size → Z.Warmed39 (s.setVm T'.vm).vm → (s.setVm T'.vm).vm.findClass own = some m.cls → OG p.tables e below P (T'.setTop (mkF m (pc + 3) ls (v.toList ++ rest)))) (hy : y.cls ≠ "java/lang/invoke/MethodHandle" ∧ y.cls ≠ "java/lang/invoke/VarHandle" := by decide) (hls : ls.size = nl := by rfl) (hlen : argsL.length = ps.length := by rfl) (hst : stk = argsL.reverse ++ rest := by rfl) (hW : (rest.map fun v => v.category).sum = W := by rfl) (hf : rm.frames + 1 ≤ R.frames := by decide) (hl : W + (maxL + 11) + rm.locals ≤ R.locals := by decide) (hc : cells + rm.cells ≤ R.cells := by decide) (hs : slots + rm.slots ≤ R.slots := by decide) : OG p.tables e below P (T.setTop (mkF m pc ls stk)) := g_callSS X hx hZ hown hS hk w1 w2 w3 w4 hy hM eT (by rw [hml]; exact hls) hps hlen hst hW hd hf hl hc hs k
theorem cIS {nl : Nat} (a : Addr) (argsL rest : List Value) (W : Nat) (X : Stand p l e R (s.setVm vm0) m args below meth c T locs cells slots) (hx : p.tables.exec = Jvm.exec) (hZ : Z.Warmed39 (s.setVm vm0).vm) (hown : (s.setVm vm0).vm.findClass own = some m.cls) (hS : s.Since vm0 k0) (hk : k0 ≤ h.size) (w1 : (Cond.methodLink own index y).before a0 Z = true) (w2 : (Cond.instanceMethod y).before a0 Z = true) (w4 : (Cond.code y bytes maxL none).before a0 Z = true) (hB : BackS l R p e below (s.setVm vm0) args y 3 W (fun A b => b = (.ref a :: argsL).toArray ∧ A.U.heap = h ∧ A.cells + rm.cells ≤ R.cells ∧ A.slots + rm.slots ≤ R.slots) (fun A _ v B => ∃ L, Q v B.U.heap L ∧ B.locs = A.locs ++ L ∧ B.cells = A.cells + rm.cells ∧ B.slots = A.slots + rm.slots)) (eT : T.heap = h) (hml : c.maxLocals = nl) (hps : parseMethodDescriptor y.desc = some ⟨ps, r⟩) (hd : decode c.code pc = .ok (.invokespecial index, 3)) (k : ∀ v T' L, Q v T'.heap L → Stand p l e R (s.setVm T'.vm) m args below meth c T' (locs ++ L) (cells + rm.cells) (slots + rm.slots) → s.Since T'.vm T'.heap.size → Z.Warmed39 (s.setVm T'.vm).vm → (s.setVm T'.vm).vm.findClass own = some m.cls → OG p.tables e below P (T'.setTop (mkF m (pc + 3) ls (v.toList ++ rest)))) (hy1 : y.name = "<init>" := by rfl) (hy : y.cls ≠ "java/lang/invoke/MethodHandle" ∧ y.cls ≠ "java/lang/invoke/VarHandle" := by decide) (hls : ls.size = nl := by rfl) (hlen : argsL.length = ps.length := by rfl) (hst : stk = argsL.reverse ++ .ref a :: rest := by rfl) (hW : (rest.map fun v => v.category).sum = W := by rfl) (hc : cells + rm.cells ≤ R.cells := by decide) (hs : slots + rm.slots ≤ R.slots := by decide) : OG p.tables e below P (T.setTop (mkF m pc ls stk)) := g_callIS X hx hZ hown hS hk hy1 w1 w2 w4 hy hB eT (by rw [hml]; exact hls) hps hlen hst hW hd hc hs k
theorem cO {nl : Nat} (W : Nat) (X : Stand p l e R s m args below meth c T locs cells slots) (hx : p.tables.exec = Jvm.exec) (hZ : Z.Warmed39 s.vm) (hown : s.vm.findClass own = some m.cls) (w1 : (Cond.methodLink own index Lib.objectInit).before a0 Z = true) (w2 : (Cond.instanceMethod Lib.objectInit).before a0 Z = true) (w3 : (Cond.code Lib.objectInit ⟨#[0xb1]⟩ 1 none).before a0 Z = true) (eT : T.heap = h) (hml : c.maxLocals = nl) (hd : decode c.code pc = .ok (.invokespecial index, 3)) (k : ∀ T', Stand p l e R s m args below meth c T' locs cells slots → T'.heap = h → OG p.tables e below P (T'.setTop (mkF m (pc + 3) ls rest))) (hls : ls.size = nl := by rfl) (hf : 1 ≤ R.frames := by decide) (hW : (rest.map fun v => v.category).sum = W := by rfl) (hl : W + 12 ≤ R.locals := by decide) : OG p.tables e below P (T.setTop (mkF m pc ls (.ref a :: rest))) := g_initO X hx hZ hown w1 w2 w3 eT (by rw [hml]; exact hls) hd hf hW hl k
theorem sB {j x v : Int32} {q : ClassId} {n : Int32} {vs : List Value} {dv : Value} (i : Nat) (X : Stand p l e R s m args below meth c T locs cells slots) (hx : p.tables.exec = Jvm.exec) (hZ : Z.Warmed39 s.vm) (eT : T.heap = h) (F : Arv Z h a q .byte n vs dv) (hv : nar .byte x = v) (hd : decode c.code pc = .ok (.bastore, 1)) (k : ∀ T' h', Stand p l e R s m args below meth c T' (locs ++ [⟨a, j.toNatClampNeg⟩]) cells slots → T'.heap = h' → Wr h h' a j.toNatClampNeg (.int v) → Arv Z h' a q .byte n (vs.set i (.int v)) dv → OG p.tables e below P (T'.setTop (mkF m (pc + 1) ls rest))) (hj : ¬ j < 0 ∧ j < n := by decide) (hi : j.toNatClampNeg = i := by decide) (hl : i < vs.length := by exact Nat.le_of_ble_eq_true rfl) : OG p.tables e below P (T.setTop (mkF m pc ls (.int x :: .int j :: .ref a :: rest))) := g_stB i X hx hZ eT F hj hi hl hv hd k
theorem sC {j x v : Int32} {q : ClassId} {n : Int32} {vs : List Value} {dv : Value} (i : Nat) (X : Stand p l e R s m args below meth c T locs cells slots) (hx : p.tables.exec = Jvm.exec) (hZ : Z.Warmed39 s.vm) (eT : T.heap = h) (F : Arv Z h a q .char n vs dv) (hv : nar .char x = v) (hd : decode c.code pc = .ok (.castore, 1)) (k : ∀ T' h', Stand p l e R s m args below meth c T' (locs ++ [⟨a, j.toNatClampNeg⟩]) cells slots → T'.heap = h' → Wr h h' a j.toNatClampNeg (.int v) → Arv Z h' a q .char n (vs.set i (.int v)) dv → OG p.tables e below P (T'.setTop (mkF m (pc + 1) ls rest))) (hj : ¬ j < 0 ∧ j < n := by decide) (hi : j.toNatClampNeg = i := by decide) (hl : i < vs.length := by exact Nat.le_of_ble_eq_true rfl) : OG p.tables e below P (T.setTop (mkF m pc ls (.int x :: .int j :: .ref a :: rest))) := g_stC i X hx hZ eT F hj hi hl hv hd k
theorem nO {C : String} {n : Nat} (X : Stand p l e R s m args below meth c T locs cells slots) (hx : p.tables.exec = Jvm.exec) (hZ : Z.Warmed39 s.vm) (hown : s.vm.findClass own = some m.cls) (w : (Cond.classLink own index C).before a0 Z = true) (wi : (Cond.instantiable C n).before a0 Z = true) (wz : (Cond.initialized C).before a0 Z = true) (eT : T.heap = h) (hd : decode c.code pc = .ok (.new index, 3)) (k : ∀ T' h' a, a = h.size → Stand p l e R s m args below meth c T' locs (cells + 1) (slots + n) → T'.heap = h' → Ext h h' → Exa Z h' a C → (∀ {O nm d : String} {ty : FieldType}, Laid Z a0 C O nm d → parseFieldDescriptor d = some ty → Fld Z h' a O nm d (defaultValue ty)) → OG p.tables e below P (T'.setTop (mkF m (pc + 3) ls (.ref a :: stk)))) (hc : cells + 1 ≤ R.cells := by decide) (hl : slots + n ≤ R.slots := by decide) : OG p.tables e below P (T.setTop (mkF m pc ls stk)) := g_newO X hx hZ hown w wi wz eT hd hc hl k
theorem nP {aty : ArrayType} {n : Int32} (ty : FieldType) (cap : Nat) (ad : String) (X : Stand p l e R s m args below meth c T locs cells slots) (hx : p.tables.exec = Jvm.exec) (hZ : Z.Warmed39 s.vm) (w : (Cond.arrayClass ty).before a0 Z = true) (eT : T.heap = h) (hd : decode c.code pc = .ok (.newarray aty, 2)) (k : ∀ T' h' a q, a = h.size → Stand p l e R s m args below meth c T' locs (cells + 1) (slots + cap) → T'.heap = h' → Ext h h' → Arv Z h' a q ty n [] (defaultValue ty) → Exa Z h' a ad → OG p.tables e below P (T'.setTop (mkF m (pc + 2) ls (.ref a :: rest)))) (hty : newarray.typeOf aty = ty := by rfl) (hn : ¬ n < 0 := by decide) (hcap : n.toNatClampNeg ≤ cap := by decide) (hb : cap * 8 ≤ 536870912 := by decide) (hc : cells + 1 ≤ R.cells := by decide) (hl : slots + cap ≤ R.slots := by decide) (had : "[" ++ ty.toString = ad := by decide) : OG p.tables e below P (T.setTop (mkF m pc ls (.int n :: rest))) := g_newP X hx hZ hty w eT hd hn hcap hb hc hl had k
theorem pF {R0 n d C : String} {kk : Nat} {v old : Value} (ty : FieldType) (X : Stand p l e R s m args below meth c T locs cells slots) (hx : p.tables.exec = Jvm.exec) (hZ : Z.Warmed39 s.vm) (hown : s.vm.findClass own = some m.cls) (w : (Cond.fieldLink own index R0 n d).before a0 Z = true) (eT : T.heap = h) (F : Fld Z h a R0 n d old) (E : Exa Z h a C) (L : (Cond.lays C R0 n d).before a0 Z = true ∨ ((Cond.laysFinal C R0 n d).before a0 Z = true ∧ own = R0 ∧ meth.name = "<init>")) (wi : (Cond.instantiable C kk).before a0 Z = true) (hd : decode c.code pc = .ok (.putfield index, 3)) (k : ∀ T' h', Stand p l e R s m args below meth c T' (locs ++ [⟨a, Jvm.RoadKit.slotOf Z R0 n d⟩]) cells slots → T'.heap = h' → Wr h h' a (Jvm.RoadKit.slotOf Z R0 n d) v → OG p.tables e below P (T'.setTop (mkF m (pc + 3) ls rest))) (hty : parseFieldDescriptor d = some ty := by decide) (hn : narrow ty v = v := by rfl) (hf : fits ty v = true := by rfl) : OG p.tables e below P (T.setTop (mkF m pc ls (v :: .ref a :: rest))) := g_putF X hx hZ hown w eT F E L wi hty hn hf hd k
theorem og2 {A B : State} (X : Stand p l e R s m args below meth c T locs cells slots) (hx : p.tables.exec = Jvm.exec) (h : (At T m c below ∧ p.tables.exec = Jvm.exec) → ∀ t, Steps p.tables e below B t → Steps p.tables e below A t) (k : OG p.tables e below P B) : OG p.tables e below P A := og (h ⟨X.here, hx⟩) k
theorem og_leave {R' : Room} {v : Option Value} {A : State} (X : Stand p l e R s m args below meth c T locs cells slots) (hv : meth.sig.returnType = none → v = none) (hlk : meth.locks = false) (eT : T.heap = h) (hc : cells ≤ R'.cells) (hs : slots ≤ R'.slots) (hQ : Q v h locs) (st : ∀ fs, (∀ (f : JFrame) (acts : List Action), f.method = m → f.locked = none → f.entered = [] → (doReturn e (T.setTop f) acts v).1 = T.setFrames fs) → Steps p.tables e below A (T.setFrames fs)) : OG p.tables e below (fun o u => ∃ v L, o = .returned v ∧ Q v u.heap L ∧ FrameEnd s o u L R'.cells R'.slots) A := by
  obtain ⟨fs, hr, hrun, hended, hW, hsame⟩ := X.leave (v := v) hv hlk
  refine ⟨_, _, st fs hr, hrun, hended, v, locs, rfl, ?_, ⟨_, rfl⟩, hW, hsame.mono hc hs⟩
  show Q v T.heap locs
  rw [eT]; exact hQ
theorem og_leaveW {R' : Room} {v : Option Value} {A : State} (X : Stand p l e R (s.setVm vm0) m args below meth c T locs cells slots) (hS : s.Since vm0 k0) (hk : k0 ≤ h.size) (hv : meth.sig.returnType = none → v = none) (hlk : meth.locks = false) (eT : T.heap = h) (hc : cells ≤ R'.cells) (hs : slots ≤ R'.slots) (hQ : Q v h locs) (st : ∀ fs, (∀ (f : JFrame) (acts : List Action), f.method = m → f.locked = none → f.entered = [] → (doReturn e (T.setTop f) acts v).1 = T.setFrames fs) → Steps p.tables e below A (T.setFrames fs)) : OG p.tables e below (fun o u => ∃ v L, o = .returned v ∧ Q v u.heap L ∧ ReturnedEndW s o u L R'.cells R'.slots) A := by
  obtain ⟨fs, hr, hrun, hended, hend⟩ := X.leaveW hS (by rw [eT]; exact hk) (v := v) hv hlk
  refine ⟨_, _, st fs hr, hrun, hended, v, locs, rfl, ?_, hend.1, hend.2.1, hend.2.2.1, hend.2.2.2.mono hc hs⟩
  show Q v T.heap locs
  rw [eT]; exact hQ
theorem rI {S : Spec} {s₁ : State} {R' : Room} {z : Int32} (X : Stand p l e R s m args below meth c T locs cells slots) (hx : p.tables.exec = Jvm.exec) (Bd : BodyLoose p l y S bytes maxL (some .int) e s m args below meth c s₁) (hd : decode c.code pc = .ok (.ireturn, 1)) (eT : T.heap = h) (hQ : Q (some (.int z)) h locs) (hc : cells ≤ R'.cells := by decide) (hs : slots ≤ R'.slots := by decide) : OG p.tables e below (fun o u => ∃ v L, o = .returned v ∧ Q v u.heap L ∧ FrameEnd s o u L R'.cells R'.slots) (T.setTop (mkF m pc ls ((.int z) :: rest))) := og_leave X (fun q => by rw [Bd.returns] at q; cases q) Bd.notSynchronized eT hc hs hQ (fun fs hr => retOut X hx Bd.returns rfl (Or.inl ⟨rfl, Or.inl rfl, _, rfl⟩) hd hr)
theorem rN {S : Spec} {s₁ : State} {R' : Room} {t : FieldType} {z v : Int32} (X : Stand p l e R s m args below meth c T locs cells slots) (hx : p.tables.exec = Jvm.exec) (Bd : BodyLoose p l y S bytes maxL (some t) e s m args below meth c s₁) (ht : t = .boolean ∨ t = .byte ∨ t = .char ∨ t = .short) (hv : nar t z = v) (hd : decode c.code pc = .ok (.ireturn, 1)) (eT : T.heap = h) (hQ : Q (some (.int v)) h locs) (hc : cells ≤ R'.cells := by decide) (hs : slots ≤ R'.slots := by decide) : OG p.tables e below (fun o u => ∃ v L, o = .returned v ∧ Q v u.heap L ∧ FrameEnd s o u L R'.cells R'.slots) (T.setTop (mkF m pc ls ((.int z) :: rest))) := og_leave X (fun q => by rw [Bd.returns] at q; cases q) Bd.notSynchronized eT hc hs hQ (fun fs hr => retN X hx Bd.returns ht hd (by rw [hv]; exact hr))
theorem rJ {S : Spec} {s₁ : State} {R' : Room} {z : Int64} (X : Stand p l e R s m args below meth c T locs cells slots) (hx : p.tables.exec = Jvm.exec) (Bd : BodyLoose p l y S bytes maxL (some .long) e s m args below meth c s₁) (hd : decode c.code pc = .ok (.lreturn, 1)) (eT : T.heap = h) (hQ : Q (some (.long z)) h locs) (hc : cells ≤ R'.cells := by decide) (hs : slots ≤ R'.slots := by decide) : OG p.tables e below (fun o u => ∃ v L, o = .returned v ∧ Q v u.heap L ∧ FrameEnd s o u L R'.cells R'.slots) (T.setTop (mkF m pc ls ((.long z) :: rest))) := og_leave X (fun q => by rw [Bd.returns] at q; cases q) Bd.notSynchronized eT hc hs hQ (fun fs hr => retOut X hx Bd.returns rfl (Or.inr (Or.inl ⟨rfl, rfl, _, rfl⟩)) hd hr)
theorem rD {S : Spec} {s₁ : State} {R' : Room} {z : UInt64} (X : Stand p l e R s m args below meth c T locs cells slots) (hx : p.tables.exec = Jvm.exec) (Bd : BodyLoose p l y S bytes maxL (some .double) e s m args below meth c s₁) (hd : decode c.code pc = .ok (.dreturn, 1)) (eT : T.heap = h) (hQ : Q (some (.double z)) h locs) (hc : cells ≤ R'.cells := by decide) (hs : slots ≤ R'.slots := by decide) : OG p.tables e below (fun o u => ∃ v L, o = .returned v ∧ Q v u.heap L ∧ FrameEnd s o u L R'.cells R'.slots) (T.setTop (mkF m pc ls ((.double z) :: rest))) := og_leave X (fun q => by rw [Bd.returns] at q; cases q) Bd.notSynchronized eT hc hs hQ (fun fs hr => retOut X hx Bd.returns rfl (Or.inr (Or.inr (Or.inl ⟨rfl, rfl, _, rfl⟩))) hd hr)
theorem rA {S : Spec} {s₁ : State} {R' : Room} {t : FieldType} {v : Value} (X : Stand p l e R s m args below meth c T locs cells slots) (hx : p.tables.exec = Jvm.exec) (Bd : BodyLoose p l y S bytes maxL (some t) e s m args below meth c s₁) (hv : v.isRef = true) (ht : t.isReference = true) (hn : narrow t v = v) (hd : decode c.code pc = .ok (.areturn, 1)) (eT : T.heap = h) (hQ : Q (some (v)) h locs) (hc : cells ≤ R'.cells := by decide) (hs : slots ≤ R'.slots := by decide) : OG p.tables e below (fun o u => ∃ v L, o = .returned v ∧ Q v u.heap L ∧ FrameEnd s o u L R'.cells R'.slots) (T.setTop (mkF m pc ls ((v) :: rest))) := og_leave X (fun q => by rw [Bd.returns] at q; cases q) Bd.notSynchronized eT hc hs hQ (fun fs hr => retOut X hx Bd.returns hn (Or.inr (Or.inr (Or.inr (Or.inr ⟨rfl, ht, hv⟩)))) hd hr)
theorem r0 {S : Spec} {s₁ : State} {R' : Room} (X : Stand p l e R s m args below meth c T locs cells slots) (hx : p.tables.exec = Jvm.exec) (Bd : BodyLoose p l y S bytes maxL none e s m args below meth c s₁) (hd : decode c.code pc = .ok (.return_, 1)) (eT : T.heap = h) (hQ : Q none h locs) (hc : cells ≤ R'.cells := by decide) (hs : slots ≤ R'.slots := by decide) : OG p.tables e below (fun o u => ∃ v L, o = .returned v ∧ Q v u.heap L ∧ FrameEnd s o u L R'.cells R'.slots) (T.setTop (mkF m pc ls [])) := og_leave X (fun _ => rfl) Bd.notSynchronized eT hc hs hQ (fun fs hr => X.returnOut hx Bd.returns hd hr)
theorem rIW {S : Spec} {s₁ : State} {R' : Room} {z : Int32} (X : Stand p l e R (s.setVm vm0) m args below meth c T locs cells slots) (hx : p.tables.exec = Jvm.exec) (Bd : BodyLoose p l y S bytes maxL (some .int) e s m args below meth c s₁) (hS : s.Since vm0 k0) (hk : k0 ≤ h.size) (hd : decode c.code pc = .ok (.ireturn, 1)) (eT : T.heap = h) (hQ : Q (some (.int z)) h locs) (hc : cells ≤ R'.cells := by decide) (hs : slots ≤ R'.slots := by decide) : OG p.tables e below (fun o u => ∃ v L, o = .returned v ∧ Q v u.heap L ∧ ReturnedEndW s o u L R'.cells R'.slots) (T.setTop (mkF m pc ls ((.int z) :: rest))) := og_leaveW X hS hk (fun q => by rw [Bd.returns] at q; cases q) Bd.notSynchronized eT hc hs hQ (fun fs hr => retOut X hx Bd.returns rfl (Or.inl ⟨rfl, Or.inl rfl, _, rfl⟩) hd hr)
theorem rNW {S : Spec} {s₁ : State} {R' : Room} {t : FieldType} {z v : Int32} (X : Stand p l e R (s.setVm vm0) m args below meth c T locs cells slots) (hx : p.tables.exec = Jvm.exec) (Bd : BodyLoose p l y S bytes maxL (some t) e s m args below meth c s₁) (hS : s.Since vm0 k0) (hk : k0 ≤ h.size) (ht : t = .boolean ∨ t = .byte ∨ t = .char ∨ t = .short) (hv : nar t z = v) (hd : decode c.code pc = .ok (.ireturn, 1)) (eT : T.heap = h) (hQ : Q (some (.int v)) h locs) (hc : cells ≤ R'.cells := by decide) (hs : slots ≤ R'.slots := by decide) : OG p.tables e below (fun o u => ∃ v L, o = .returned v ∧ Q v u.heap L ∧ ReturnedEndW s o u L R'.cells R'.slots) (T.setTop (mkF m pc ls ((.int z) :: rest))) := og_leaveW X hS hk (fun q => by rw [Bd.returns] at q; cases q) Bd.notSynchronized eT hc hs hQ (fun fs hr => retN X hx Bd.returns ht hd (by rw [hv]; exact hr))
theorem rJW {S : Spec} {s₁ : State} {R' : Room} {z : Int64} (X : Stand p l e R (s.setVm vm0) m args below meth c T locs cells slots) (hx : p.tables.exec = Jvm.exec) (Bd : BodyLoose p l y S bytes maxL (some .long) e s m args below meth c s₁) (hS : s.Since vm0 k0) (hk : k0 ≤ h.size) (hd : decode c.code pc = .ok (.lreturn, 1)) (eT : T.heap = h) (hQ : Q (some (.long z)) h locs) (hc : cells ≤ R'.cells := by decide) (hs : slots ≤ R'.slots := by decide) : OG p.tables e below (fun o u => ∃ v L, o = .returned v ∧ Q v u.heap L ∧ ReturnedEndW s o u L R'.cells R'.slots) (T.setTop (mkF m pc ls ((.long z) :: rest))) := og_leaveW X hS hk (fun q => by rw [Bd.returns] at q; cases q) Bd.notSynchronized eT hc hs hQ (fun fs hr => retOut X hx Bd.returns rfl (Or.inr (Or.inl ⟨rfl, rfl, _, rfl⟩)) hd hr)
theorem rDW {S : Spec} {s₁ : State} {R' : Room} {z : UInt64} (X : Stand p l e R (s.setVm vm0) m args below meth c T locs cells slots) (hx : p.tables.exec = Jvm.exec) (Bd : BodyLoose p l y S bytes maxL (some .double) e s m args below meth c s₁) (hS : s.Since vm0 k0) (hk : k0 ≤ h.size) (hd : decode c.code pc = .ok (.dreturn, 1)) (eT : T.heap = h) (hQ : Q (some (.double z)) h locs) (hc : cells ≤ R'.cells := by decide) (hs : slots ≤ R'.slots := by decide) : OG p.tables e below (fun o u => ∃ v L, o = .returned v ∧ Q v u.heap L ∧ ReturnedEndW s o u L R'.cells R'.slots) (T.setTop (mkF m pc ls ((.double z) :: rest))) := og_leaveW X hS hk (fun q => by rw [Bd.returns] at q; cases q) Bd.notSynchronized eT hc hs hQ (fun fs hr => retOut X hx Bd.returns rfl (Or.inr (Or.inr (Or.inl ⟨rfl, rfl, _, rfl⟩))) hd hr)
theorem rAW {S : Spec} {s₁ : State} {R' : Room} {t : FieldType} {v : Value} (X : Stand p l e R (s.setVm vm0) m args below meth c T locs cells slots) (hx : p.tables.exec = Jvm.exec) (Bd : BodyLoose p l y S bytes maxL (some t) e s m args below meth c s₁) (hS : s.Since vm0 k0) (hk : k0 ≤ h.size) (hv : v.isRef = true) (ht : t.isReference = true) (hn : narrow t v = v) (hd : decode c.code pc = .ok (.areturn, 1)) (eT : T.heap = h) (hQ : Q (some (v)) h locs) (hc : cells ≤ R'.cells := by decide) (hs : slots ≤ R'.slots := by decide) : OG p.tables e below (fun o u => ∃ v L, o = .returned v ∧ Q v u.heap L ∧ ReturnedEndW s o u L R'.cells R'.slots) (T.setTop (mkF m pc ls ((v) :: rest))) := og_leaveW X hS hk (fun q => by rw [Bd.returns] at q; cases q) Bd.notSynchronized eT hc hs hQ (fun fs hr => retOut X hx Bd.returns hn (Or.inr (Or.inr (Or.inr (Or.inr ⟨rfl, ht, hv⟩)))) hd hr)
theorem r0W {S : Spec} {s₁ : State} {R' : Room} (X : Stand p l e R (s.setVm vm0) m args below meth c T locs cells slots) (hx : p.tables.exec = Jvm.exec) (Bd : BodyLoose p l y S bytes maxL none e s m args below meth c s₁) (hS : s.Since vm0 k0) (hk : k0 ≤ h.size) (hd : decode c.code pc = .ok (.return_, 1)) (eT : T.heap = h) (hQ : Q none h locs) (hc : cells ≤ R'.cells := by decide) (hs : slots ≤ R'.slots := by decide) : OG p.tables e below (fun o u => ∃ v L, o = .returned v ∧ Q v u.heap L ∧ ReturnedEndW s o u L R'.cells R'.slots) (T.setTop (mkF m pc ls [])) := og_leaveW X hS hk (fun _ => rfl) Bd.notSynchronized eT hc hs hQ (fun fs hr => X.returnOut hx Bd.returns hd hr)
theorem o_daload {target : State} {j : Int32} {v : Value} {q : ClassId} {n : Int32} {vs : List Value} {dv : Value} (X : Stand p l e R s m args below meth c T locs cells slots) (hx : p.tables.exec = Jvm.exec) (hZ : Z.Warmed39 s.vm) (eT : T.heap = h) (F : Arv Z h a q .double n vs dv) (hj : ¬ j < 0 ∧ j < n) (hv : vs.getD j.toNatClampNeg dv = v) (hd : decode c.code pc = .ok (.daload, 1))
    (hr : Steps p.tables e below (T.setTop (mkF m (pc + 1) ls (v :: rest))) target) : Steps p.tables e below (T.setTop (mkF m pc ls (.int j :: .ref a :: rest))) target := by
  obtain ⟨cl, A, -, S, -, H, -⟩ := F
  exact X.daload hx (by rw [eT]; exact A.1) (State.isArrayOf_alike hZ.alike A.2.1) A.2.2 (inb_of S hj) (H.at (inb_of S hj) hv) (g := mkF m pc ls (.int j :: .ref a :: rest)) rfl rfl hd _ hr
theorem sD {x : UInt64} {j : Int32} {q : ClassId} {n : Int32} {vs : List Value} {dv : Value} (i : Nat) (X : Stand p l e R s m args below meth c T locs cells slots) (hx : p.tables.exec = Jvm.exec) (hZ : Z.Warmed39 s.vm) (eT : T.heap = h) (F : Arv Z h a q .double n vs dv) (hd : decode c.code pc = .ok (.dastore, 1))
    (k : ∀ T' h', Stand p l e R s m args below meth c T' (locs ++ [⟨a, j.toNatClampNeg⟩]) cells slots → T'.heap = h' → Wr h h' a j.toNatClampNeg (.double x) → Arv Z h' a q .double n (vs.set i (.double x)) dv → OG p.tables e below P (T'.setTop (mkF m (pc + 1) ls rest))) (hj : ¬ j < 0 ∧ j < n := by decide) (hi : j.toNatClampNeg = i := by decide) (hl : i < vs.length := by exact Nat.le_of_ble_eq_true rfl) : OG p.tables e below P (T.setTop (mkF m pc ls (.double x :: .int j :: .ref a :: rest))) := by
  obtain ⟨cl, A, q1, S, M, H, G⟩ := F
  obtain ⟨T', h', X', e', W', st⟩ := stD X hx hZ eT A (j := j) (inb_of S hj) (g := mkF m pc ls (.double x :: .int j :: .ref a :: rest)) rfl rfl hd
  exact og st (k T' h' X' e' W' (Arv.set A q1 S M H G rfl W' i hi hl))
theorem own_decl {y : MethodName} {bytes : ByteArray} {maxL : Nat} {ret : Option FieldType} (wi : (Cond.instanceMethod y).before a0 Z = true) (wc : (Cond.code y bytes maxL ret).before a0 Z = true) : (Cond.declares y).before a0 Z = true := by
  obtain ⟨mk, meth, h1, h2, h3, -⟩ := Cond.instanceMethod_spec wi
  obtain ⟨m2, cM, q1, -, -, -, -, -, -, hsig⟩ := Cond.code_spec h1 wc
  cases h2.symm.trans q1
  simp [Cond.before, Cond.holds, Cond.value, h1, h2, h3, hsig]
theorem own_nf {args : Array Value} {s : State} {C : String} {y y2 : MethodName} (hsel : (Cond.selects C y2 y2).before args s = true) (hc : y.cls = y2.cls) : NotFace s y := fun r0 h0 => by
  obtain ⟨c2, r2, m2, q1, q2, q3, q4, kP, hkP, hkPi⟩ := Cond.selects_spec hsel
  have e1 := findClass_of_methodNamed h0
  have e2 := findClass_of_methodNamed q3
  rw [hc, e2] at e1
  rw [← Option.some.inj e1]
  exact ⟨kP, hkP, hkPi⟩
theorem own_same {C : String} {y y2 : MethodName} (hsel : (Cond.selects C y2 y2).before a0 Z = true) (wi : (Cond.instanceMethod y).before a0 Z = true) (hc : y.cls = y2.cls := by rfl) (hy : y.cls ≠ "java/lang/invoke/MethodHandle" ∧ y.cls ≠ "java/lang/invoke/VarHandle" := by decide) : (Cond.sameMethod y.cls y.cls y.name y.desc).before a0 Z = true := by
  obtain ⟨mk, meth, h1, h2, -, -⟩ := Cond.instanceMethod_spec wi
  obtain ⟨kr, k1, k2⟩ := own_nf hsel hc mk h1
  have e1 := findClass_of_methodNamed h1
  have e2 := State.methodFound?_of_named h1 hy
  have e3 : Z.methodNamed? ⟨y.cls, y.name, y.desc⟩ = some mk := h1
  simp [Cond.before, Cond.holds, Cond.value, e1, e2, e3, k1, k2]
theorem own_safeA {EL : List (String × Nat)} {vm : Vm} {x : Addr} {q : ClassId} {ty : FieldType} {n : Int32} {vs : List Value} {dv : Value} (hal : Z.vm.Alike vm) (A : Arv Z h x q ty n vs dv) (ht : ty ≠ .byte) : Safe Z EL vm h x := by
  obtain ⟨cl, A, -⟩ := A
  exact Safe.arr hal A ht
theorem cVz {C : String} {nl : Nat} (a : Addr) (argsL rest : List Value) (W : Nat) (X : Stand p l e R s m args below meth c T locs cells slots) (hx : p.tables.exec = Jvm.exec) (hZ : Z.Warmed39 s.vm) (hown : s.vm.findClass own = some m.cls) (w1 : (Cond.methodLink own index y).before a0 Z = true) (w2 : (Cond.declares y).before a0 Z = true) (nf : NotFace s y) (w5 : (Cond.selects C y z).before a0 Z = true) (w6 : (Cond.instanceMethod z).before a0 Z = true) (w3 : (Cond.initialized z.cls).before a0 Z = true) (w4 : (Cond.code z bytes maxL ret).before a0 Z = true) (hM : MetFree l z (head1 [Cond.code z bytes maxL ret] rm) (fun b U => b = (.ref a :: argsL).toArray ∧ Z.Warmed39 U.vm ∧ U.heap = h) (fun _ _ _ _ _ => True) (fun _ U o U' => ∃ v L, o = .returned v ∧ Q v U'.heap L ∧ FrameEnd U o U' L rm.cells rm.slots)) (eT : T.heap = h) (E : Exa Z h a C) (hml : c.maxLocals = nl) (hps : parseMethodDescriptor y.desc = some ⟨ps, r⟩) (hd : decode c.code pc = .ok (.invokevirtual index, 3)) (k : ∀ v T' L, Q v T'.heap L → Stand p l e R s m args below meth c T' (locs ++ L) (cells + rm.cells) (slots + rm.slots) → OG p.tables e below P (T'.setTop (mkF m (pc + 3) ls (v.toList ++ rest)))) (hls : ls.size = nl := by rfl) (hy : y.cls ≠ "java/lang/invoke/MethodHandle" ∧ y.cls ≠ "java/lang/invoke/VarHandle" := by decide) (hlen : argsL.length = ps.length := by rfl) (hst : stk = argsL.reverse ++ .ref a :: rest := by rfl) (hW : (rest.map fun v => v.category).sum = W := by rfl) (hf : rm.frames + 1 ≤ R.frames := by decide) (hl : W + (maxL + 11) + rm.locals ≤ R.locals := by decide) (hc : cells + rm.cells ≤ R.cells := by decide) (hs : slots + rm.slots ≤ R.slots := by decide) : OG p.tables e below P (T.setTop (mkF m pc ls stk)) := by
  obtain ⟨cq, kq, qa, qb, qc⟩ := isOf hZ eT E
  obtain ⟨v, _, ⟨T', L', c', n'⟩, -, X', ⟨L, hQ, l1, y1, z1⟩, st⟩ := X.virtualBack hx (y := y) (z := z) hown (mvT hZ w1) (mvT hZ w2) nf (mvT hZ w5) (mvT hZ w6) hy (backOf (W := W) hM hZ w4 w3 hf hl) qa qc (g := mkF m pc ls stk) rfl (by rw [hml]; exact hls) (Steps.refl _) (argsL := argsL) (rest := rest) (lenOf hps hlen) hst (by rw [← hW]; exact Nat.le_of_eq (Nat.zero_add _)) hd (fun _ _ => ⟨rfl, eT, hc, hs⟩)
  dsimp only [Pt.U, Pt.locs, Pt.cells, Pt.slots] at X' l1 y1 z1 st hQ
  subst l1 y1 z1
  exact og (fun _ q => st.trans q) (k v T' L hQ X')
theorem cU {K : String} {nl : Nat} (a : Addr) (argsL rest : List Value) (W : Nat) (X : Stand p l e R s m args below meth c T locs cells slots) (hx : p.tables.exec = Jvm.exec) (hZ : Z.Warmed39 s.vm) (hown : s.vm.findClass own = some m.cls) (w1 : (Cond.methodLink own index y).before a0 Z = true) (w2 : (Cond.sameMethod y.cls y.cls y.name y.desc).before a0 Z = true) (w5 : (Cond.instanceMethod y).before a0 Z = true) (w6 : (Cond.superclass own y.cls).before a0 Z = true) (w3 : (Cond.initialized y.cls).before a0 Z = true) (w4 : (Cond.code y bytes maxL ret).before a0 Z = true) (hM : MetFree l y (head1 [Cond.code y bytes maxL ret] rm) (fun b U => b = (.ref a :: argsL).toArray ∧ Z.Warmed39 U.vm ∧ U.heap = h) (fun _ _ _ _ _ => True) (fun _ U o U' => ∃ v L, o = .returned v ∧ Q v U'.heap L ∧ FrameEnd U o U' L rm.cells rm.slots)) (eT : T.heap = h) (F : Ins Z h a K true) (hml : c.maxLocals = nl) (hps : parseMethodDescriptor y.desc = some ⟨ps, r⟩) (hd : decode c.code pc = .ok (.invokespecial index, 3)) (k : ∀ v T' L, Q v T'.heap L → Stand p l e R s m args below meth c T' (locs ++ L) (cells + rm.cells) (slots + rm.slots) → OG p.tables e below P (T'.setTop (mkF m (pc + 3) ls (v.toList ++ rest)))) (hn : y.name ≠ "<init>" := by decide) (hls : ls.size = nl := by rfl) (hy : y.cls ≠ "java/lang/invoke/MethodHandle" ∧ y.cls ≠ "java/lang/invoke/VarHandle" := by decide) (hlen : argsL.length = ps.length := by rfl) (hst : stk = argsL.reverse ++ .ref a :: rest := by rfl) (hW : (rest.map fun v => v.category).sum = W := by rfl) (hf : rm.frames + 1 ≤ R.frames := by decide) (hl : W + (maxL + 11) + rm.locals ≤ R.locals := by decide) (hc : cells + rm.cells ≤ R.cells := by decide) (hs : slots + rm.slots ≤ R.slots := by decide) : OG p.tables e below P (T.setTop (mkF m pc ls stk)) := by
  obtain ⟨v, _, ⟨T', L', c', n'⟩, -, X', ⟨L, hQ, l1, y1, z1⟩, st⟩ := superBack X hx hZ hown w1 w2 w5 w6 hn (backOf (W := W) hM hZ w4 w3 hf hl) eT F (g := mkF m pc ls stk) rfl (by rw [hml]; exact hls) w4 (argsL := argsL) (rest := rest) (lenOf hps hlen) hst (by rw [← hW]; exact Nat.le_of_eq (Nat.zero_add _)) hd (fun _ _ => ⟨rfl, eT, hc, hs⟩)
  dsimp only [Pt.U, Pt.locs, Pt.cells, Pt.slots] at X' l1 y1 z1 st hQ
  subst l1 y1 z1
  exact og (fun _ q => st.trans q) (k v T' L hQ X')
theorem cSH {EL : List (String × Nat)} {nl : Nat} (argsL rest : List Value) (W : Nat) (X : Stand p l e R (s.setVm vm0) m args below meth c T locs cells slots) (hx : p.tables.exec = Jvm.exec) (hZ : Z.Warmed39 (s.setVm vm0).vm) (hown : (s.setVm vm0).vm.findClass own = some m.cls) (hS : s.Since vm0 k0) (hk : k0 ≤ h.size) (w1 : (Cond.methodLink own index y).before a0 Z = true) (w2 : (Cond.static y).before a0 Z = true) (w3 : (Cond.initialized y.cls).before a0 Z = true) (w4 : (Cond.code y bytes maxL ret).before a0 Z = true) (hEL : EW Z a0 EL) (hC : CHv Z EL vm0 h) (hM : MetFree l y (head1 [Cond.code y bytes maxL ret] rm) (fun b U => b = (argsL).toArray ∧ Z.Warmed39 U.vm ∧ U.heap = h ∧ CHv Z EL U.vm h) (fun _ _ _ _ _ => True) (fun _ U o U' => ∃ v L, o = .returned v ∧ Q v U'.heap L ∧ CHr Z EL U.vm U.heap U'.vm U'.heap ∧ ReturnedEndW U o U' L rm.cells rm.slots)) (eT : T.heap = h) (hml : c.maxLocals = nl) (hps : parseMethodDescriptor y.desc = some ⟨ps, r⟩) (hd : decode c.code pc = .ok (.invokestatic index, 3)) (k : ∀ v T' L, Q v T'.heap L → Stand p l e R (s.setVm T'.vm) m args below meth c T' (locs ++ L) (cells + rm.cells) (slots + rm.slots) → s.Since T'.vm T'.heap.size → Z.Warmed39 (s.setVm T'.vm).vm → (s.setVm T'.vm).vm.findClass own = some m.cls → CHr Z EL vm0 h T'.vm T'.heap → OG p.tables e below P (T'.setTop (mkF m (pc + 3) ls (v.toList ++ rest)))) (hls : ls.size = nl := by rfl) (hy : y.cls ≠ "java/lang/invoke/MethodHandle" ∧ y.cls ≠ "java/lang/invoke/VarHandle" := by decide) (hlen : argsL.length = ps.length := by rfl) (hst : stk = argsL.reverse ++ rest := by rfl) (hW : (rest.map fun v => v.category).sum = W := by rfl) (hf : rm.frames + 1 ≤ R.frames := by decide) (hl : W + (maxL + 11) + rm.locals ≤ R.locals := by decide) (hc : cells + rm.cells ≤ R.cells := by decide) (hs : slots + rm.slots ≤ R.slots := by decide) : OG p.tables e below P (T.setTop (mkF m pc ls stk)) := by
  obtain ⟨v, _, ⟨T', L', c', n'⟩, -, X', h2, gr, ⟨L, hQ, l1, y1, z1, hCR⟩, st⟩ := callSS X hx (y := y) hown (mvT hZ w1) (mvT hZ w2) (mvT hZ w3) (mvT hZ w4) hy (backOfSH (W := W) hM hZ w4 w3 hf hl hEL hC) (g := mkF m pc ls stk) rfl (by rw [hml]; exact hls) (argsL := argsL) (rest := rest) (lenOf hps hlen) hst (by rw [← hW]; exact Nat.le_of_eq (Nat.zero_add _)) hd (fun _ _ => ⟨rfl, eT, hc, hs⟩)
  dsimp only [Pt.U, Pt.locs, Pt.cells, Pt.slots] at X' h2 gr l1 y1 z1 st hQ hCR
  obtain ⟨X2, hS2, hZ2, hown2⟩ := rebS hS (by rw [eT]; exact hk) X' h2 gr hZ hown
  subst l1 y1 z1
  exact og (fun _ q => st.trans q) (k v T' L hQ X2 hS2 hZ2 hown2 hCR)
theorem cVH {C : String} {EL : List (String × Nat)} {nl : Nat} (a : Addr) (argsL rest : List Value) (W : Nat) (X : Stand p l e R (s.setVm vm0) m args below meth c T locs cells slots) (hx : p.tables.exec = Jvm.exec) (hZ : Z.Warmed39 (s.setVm vm0).vm) (hown : (s.setVm vm0).vm.findClass own = some m.cls) (hS : s.Since vm0 k0) (hk : k0 ≤ h.size) (w1 : (Cond.methodLink own index y).before a0 Z = true) (w2 : (Cond.declares y).before a0 Z = true) (w5 : (Cond.selects C y y).before a0 Z = true) (w6 : (Cond.instanceMethod y).before a0 Z = true) (w3 : (Cond.initialized y.cls).before a0 Z = true) (w4 : (Cond.code y bytes maxL ret).before a0 Z = true) (hEL : EW Z a0 EL) (hC : CHv Z EL vm0 h) (hM : MetFree l y (head1 [Cond.code y bytes maxL ret] rm) (fun b U => b = (.ref a :: argsL).toArray ∧ Z.Warmed39 U.vm ∧ U.heap = h ∧ CHv Z EL U.vm h) (fun _ _ _ _ _ => True) (fun _ U o U' => ∃ v L, o = .returned v ∧ Q v U'.heap L ∧ CHr Z EL U.vm U.heap U'.vm U'.heap ∧ ReturnedEndW U o U' L rm.cells rm.slots)) (eT : T.heap = h) (E : Exa Z h a C) (hml : c.maxLocals = nl) (hps : parseMethodDescriptor y.desc = some ⟨ps, r⟩) (hd : decode c.code pc = .ok (.invokevirtual index, 3)) (k : ∀ v T' L, Q v T'.heap L → Stand p l e R (s.setVm T'.vm) m args below meth c T' (locs ++ L) (cells + rm.cells) (slots + rm.slots) → s.Since T'.vm T'.heap.size → Z.Warmed39 (s.setVm T'.vm).vm → (s.setVm T'.vm).vm.findClass own = some m.cls → CHr Z EL vm0 h T'.vm T'.heap → OG p.tables e below P (T'.setTop (mkF m (pc + 3) ls (v.toList ++ rest)))) (hls : ls.size = nl := by rfl) (hy : y.cls ≠ "java/lang/invoke/MethodHandle" ∧ y.cls ≠ "java/lang/invoke/VarHandle" := by decide) (hlen : argsL.length = ps.length := by rfl) (hst : stk = argsL.reverse ++ .ref a :: rest := by rfl) (hW : (rest.map fun v => v.category).sum = W := by rfl) (hf : rm.frames + 1 ≤ R.frames := by decide) (hl : W + (maxL + 11) + rm.locals ≤ R.locals := by decide) (hc : cells + rm.cells ≤ R.cells := by decide) (hs : slots + rm.slots ≤ R.slots := by decide) : OG p.tables e below P (T.setTop (mkF m pc ls stk)) := by
  obtain ⟨cq, kq, qa, qb, qc⟩ := isOf hZ eT E
  obtain ⟨v, _, ⟨T', L', c', n'⟩, -, X', h2, gr, ⟨L, hQ, l1, y1, z1, hCR⟩, st⟩ := X.virtualBackS hx (y := y) (z := y) hown (mvT hZ w1) (mvT hZ w2) (notFace_of_selects (args := #[]) (mvT hZ w5)) (mvT hZ w5) (mvT hZ w6) hy (backOfSH (W := W) hM hZ w4 w3 hf hl hEL hC) qa qc (g := mkF m pc ls stk) rfl (by rw [hml]; exact hls) (Steps.refl _) (argsL := argsL) (rest := rest) (lenOf hps hlen) hst (by rw [← hW]; exact Nat.le_of_eq (Nat.zero_add _)) hd (fun _ _ => ⟨rfl, eT, hc, hs⟩)
  dsimp only [Pt.U, Pt.locs, Pt.cells, Pt.slots] at X' h2 gr l1 y1 z1 st hQ hCR
  obtain ⟨X2, hS2, hZ2, hown2⟩ := rebS hS (by rw [eT]; exact hk) X' h2 gr hZ hown
  subst l1 y1 z1
  exact og (fun _ q => st.trans q) (k v T' L hQ X2 hS2 hZ2 hown2 hCR)
theorem cIH {EL : List (String × Nat)} {nl : Nat} (a : Addr) (argsL rest : List Value) (W : Nat) (X : Stand p l e R (s.setVm vm0) m args below meth c T locs cells slots) (hx : p.tables.exec = Jvm.exec) (hZ : Z.Warmed39 (s.setVm vm0).vm) (hown : (s.setVm vm0).vm.findClass own = some m.cls) (hS : s.Since vm0 k0) (hk : k0 ≤ h.size) (w1 : (Cond.methodLink own index y).before a0 Z = true) (w2 : (Cond.instanceMethod y).before a0 Z = true) (w3 : (Cond.initialized y.cls).before a0 Z = true) (w4 : (Cond.code y bytes maxL none).before a0 Z = true) (hEL : EW Z a0 EL) (hC : CHv Z EL vm0 h) (hM : MetFree l y (head1 [Cond.code y bytes maxL none] rm) (fun b U => b = (.ref a :: argsL).toArray ∧ Z.Warmed39 U.vm ∧ U.heap = h ∧ CHv Z EL U.vm h) (fun _ _ _ _ _ => True) (fun _ U o U' => ∃ v L, o = .returned v ∧ Q v U'.heap L ∧ CHr Z EL U.vm U.heap U'.vm U'.heap ∧ ReturnedEndW U o U' L rm.cells rm.slots)) (eT : T.heap = h) (hml : c.maxLocals = nl) (hps : parseMethodDescriptor y.desc = some ⟨ps, r⟩) (hd : decode c.code pc = .ok (.invokespecial index, 3)) (k : ∀ v T' L, Q v T'.heap L → Stand p l e R (s.setVm T'.vm) m args below meth c T' (locs ++ L) (cells + rm.cells) (slots + rm.slots) → s.Since T'.vm T'.heap.size → Z.Warmed39 (s.setVm T'.vm).vm → (s.setVm T'.vm).vm.findClass own = some m.cls → CHr Z EL vm0 h T'.vm T'.heap → OG p.tables e below P (T'.setTop (mkF m (pc + 3) ls (v.toList ++ rest)))) (hy1 : y.name = "<init>" := by rfl) (hls : ls.size = nl := by rfl) (hy : y.cls ≠ "java/lang/invoke/MethodHandle" ∧ y.cls ≠ "java/lang/invoke/VarHandle" := by decide) (hlen : argsL.length = ps.length := by rfl) (hst : stk = argsL.reverse ++ .ref a :: rest := by rfl) (hW : (rest.map fun v => v.category).sum = W := by rfl) (hf : rm.frames + 1 ≤ R.frames := by decide) (hl : W + (maxL + 11) + rm.locals ≤ R.locals := by decide) (hc : cells + rm.cells ≤ R.cells := by decide) (hs : slots + rm.slots ≤ R.slots := by decide) : OG p.tables e below P (T.setTop (mkF m pc ls stk)) := by
  obtain ⟨v, _, ⟨T', L', c', n'⟩, -, X', h2, gr, ⟨L, hQ, l1, y1, z1, hCR⟩, st⟩ := X.specialBackS hx (y := y) hy1 hown (mvT hZ w1) (mvT hZ w2) (mvT hZ w4) hy (backOfSH (W := W) hM hZ w4 w3 hf hl hEL hC) (g := mkF m pc ls stk) rfl (by rw [hml]; exact hls) (Steps.refl _) (a := a) (argsL := argsL) (rest := rest) (lenOf hps hlen) hst (by rw [← hW]; exact Nat.le_of_eq (Nat.zero_add _)) hd (fun _ _ => ⟨rfl, eT, hc, hs⟩)
  dsimp only [Pt.U, Pt.locs, Pt.cells, Pt.slots] at X' h2 gr l1 y1 z1 st hQ hCR
  obtain ⟨X2, hS2, hZ2, hown2⟩ := rebS hS (by rw [eT]; exact hk) X' h2 gr hZ hown
  subst l1 y1 z1
  exact og (fun _ q => st.trans q) (k v T' L hQ X2 hS2 hZ2 hown2 hCR)
theorem cSJ {EL : List (String × Nat)} {nl : Nat} (argsL rest : List Value) (W : Nat) (X : Stand p l e R (s.setVm vm0) m args below meth c T locs cells slots) (hx : p.tables.exec = Jvm.exec) (hZ : Z.Warmed39 (s.setVm vm0).vm) (hown : (s.setVm vm0).vm.findClass own = some m.cls) (hS : s.Since vm0 k0) (hk : k0 ≤ h.size) (w1 : (Cond.methodLink own index y).before a0 Z = true) (w2 : (Cond.static y).before a0 Z = true) (w3 : (Cond.initialized y.cls).before a0 Z = true) (w4 : (Cond.code y bytes maxL ret).before a0 Z = true) (hEL : EW Z a0 EL) (hC : CHv Z EL vm0 h) (hM : MetFree l y (head1 [Cond.code y bytes maxL ret] rm) (fun b U => b = (argsL).toArray ∧ Z.Warmed39 U.vm ∧ U.heap = h ∧ CHv Z EL U.vm h) (fun _ _ _ _ _ => True) (fun _ U o U' => ∃ v L, o = .returned v ∧ Q v U'.heap L ∧ ReturnedEndW U o U' L rm.cells rm.slots)) (eT : T.heap = h) (hml : c.maxLocals = nl) (hps : parseMethodDescriptor y.desc = some ⟨ps, r⟩) (hd : decode c.code pc = .ok (.invokestatic index, 3)) (k : ∀ v T' L, Q v T'.heap L → Stand p l e R (s.setVm T'.vm) m args below meth c T' (locs ++ L) (cells + rm.cells) (slots + rm.slots) → s.Since T'.vm T'.heap.size → Z.Warmed39 (s.setVm T'.vm).vm → (s.setVm T'.vm).vm.findClass own = some m.cls → OG p.tables e below P (T'.setTop (mkF m (pc + 3) ls (v.toList ++ rest)))) (hls : ls.size = nl := by rfl) (hy : y.cls ≠ "java/lang/invoke/MethodHandle" ∧ y.cls ≠ "java/lang/invoke/VarHandle" := by decide) (hlen : argsL.length = ps.length := by rfl) (hst : stk = argsL.reverse ++ rest := by rfl) (hW : (rest.map fun v => v.category).sum = W := by rfl) (hf : rm.frames + 1 ≤ R.frames := by decide) (hl : W + (maxL + 11) + rm.locals ≤ R.locals := by decide) (hc : cells + rm.cells ≤ R.cells := by decide) (hs : slots + rm.slots ≤ R.slots := by decide) : OG p.tables e below P (T.setTop (mkF m pc ls stk)) := by
  obtain ⟨v, _, ⟨T', L', c', n'⟩, -, X', h2, gr, ⟨L, hQ, l1, y1, z1⟩, st⟩ := callSS X hx (y := y) hown (mvT hZ w1) (mvT hZ w2) (mvT hZ w3) (mvT hZ w4) hy (own_backSH (W := W) hM hZ w4 w3 hf hl hEL hC) (g := mkF m pc ls stk) rfl (by rw [hml]; exact hls) (argsL := argsL) (rest := rest) (lenOf hps hlen) hst (by rw [← hW]; exact Nat.le_of_eq (Nat.zero_add _)) hd (fun _ _ => ⟨rfl, eT, hc, hs⟩)
  dsimp only [Pt.U, Pt.locs, Pt.cells, Pt.slots] at X' h2 gr l1 y1 z1 st hQ
  obtain ⟨X2, hS2, hZ2, hown2⟩ := rebS hS (by rw [eT]; exact hk) X' h2 gr hZ hown
  subst l1 y1 z1
  exact og (fun _ q => st.trans q) (k v T' L hQ X2 hS2 hZ2 hown2)
theorem cVJ {C : String} {EL : List (String × Nat)} {nl : Nat} (a : Addr) (argsL rest : List Value) (W : Nat) (X : Stand p l e R (s.setVm vm0) m args below meth c T locs cells slots) (hx : p.tables.exec = Jvm.exec) (hZ : Z.Warmed39 (s.setVm vm0).vm) (hown : (s.setVm vm0).vm.findClass own = some m.cls) (hS : s.Since vm0 k0) (hk : k0 ≤ h.size) (w1 : (Cond.methodLink own index y).before a0 Z = true) (w2 : (Cond.declares y).before a0 Z = true) (w5 : (Cond.selects C y y).before a0 Z = true) (w6 : (Cond.instanceMethod y).before a0 Z = true) (w3 : (Cond.initialized y.cls).before a0 Z = true) (w4 : (Cond.code y bytes maxL ret).before a0 Z = true) (hEL : EW Z a0 EL) (hC : CHv Z EL vm0 h) (hM : MetFree l y (head1 [Cond.code y bytes maxL ret] rm) (fun b U => b = (.ref a :: argsL).toArray ∧ Z.Warmed39 U.vm ∧ U.heap = h ∧ CHv Z EL U.vm h) (fun _ _ _ _ _ => True) (fun _ U o U' => ∃ v L, o = .returned v ∧ Q v U'.heap L ∧ ReturnedEndW U o U' L rm.cells rm.slots)) (eT : T.heap = h) (E : Exa Z h a C) (hml : c.maxLocals = nl) (hps : parseMethodDescriptor y.desc = some ⟨ps, r⟩) (hd : decode c.code pc = .ok (.invokevirtual index, 3)) (k : ∀ v T' L, Q v T'.heap L → Stand p l e R (s.setVm T'.vm) m args below meth c T' (locs ++ L) (cells + rm.cells) (slots + rm.slots) → s.Since T'.vm T'.heap.size → Z.Warmed39 (s.setVm T'.vm).vm → (s.setVm T'.vm).vm.findClass own = some m.cls → OG p.tables e below P (T'.setTop (mkF m (pc + 3) ls (v.toList ++ rest)))) (hls : ls.size = nl := by rfl) (hy : y.cls ≠ "java/lang/invoke/MethodHandle" ∧ y.cls ≠ "java/lang/invoke/VarHandle" := by decide) (hlen : argsL.length = ps.length := by rfl) (hst : stk = argsL.reverse ++ .ref a :: rest := by rfl) (hW : (rest.map fun v => v.category).sum = W := by rfl) (hf : rm.frames + 1 ≤ R.frames := by decide) (hl : W + (maxL + 11) + rm.locals ≤ R.locals := by decide) (hc : cells + rm.cells ≤ R.cells := by decide) (hs : slots + rm.slots ≤ R.slots := by decide) : OG p.tables e below P (T.setTop (mkF m pc ls stk)) := by
  obtain ⟨cq, kq, qa, qb, qc⟩ := isOf hZ eT E
  obtain ⟨v, _, ⟨T', L', c', n'⟩, -, X', h2, gr, ⟨L, hQ, l1, y1, z1⟩, st⟩ := X.virtualBackS hx (y := y) (z := y) hown (mvT hZ w1) (mvT hZ w2) (notFace_of_selects (args := #[]) (mvT hZ w5)) (mvT hZ w5) (mvT hZ w6) hy (own_backSH (W := W) hM hZ w4 w3 hf hl hEL hC) qa qc (g := mkF m pc ls stk) rfl (by rw [hml]; exact hls) (Steps.refl _) (argsL := argsL) (rest := rest) (lenOf hps hlen) hst (by rw [← hW]; exact Nat.le_of_eq (Nat.zero_add _)) hd (fun _ _ => ⟨rfl, eT, hc, hs⟩)
  dsimp only [Pt.U, Pt.locs, Pt.cells, Pt.slots] at X' h2 gr l1 y1 z1 st hQ
  obtain ⟨X2, hS2, hZ2, hown2⟩ := rebS hS (by rw [eT]; exact hk) X' h2 gr hZ hown
  subst l1 y1 z1
  exact og (fun _ q => st.trans q) (k v T' L hQ X2 hS2 hZ2 hown2)
theorem cIJ {EL : List (String × Nat)} {nl : Nat} (a : Addr) (argsL rest : List Value) (W : Nat) (X : Stand p l e R (s.setVm vm0) m args below meth c T locs cells slots) (hx : p.tables.exec = Jvm.exec) (hZ : Z.Warmed39 (s.setVm vm0).vm) (hown : (s.setVm vm0).vm.findClass own = some m.cls) (hS : s.Since vm0 k0) (hk : k0 ≤ h.size) (w1 : (Cond.methodLink own index y).before a0 Z = true) (w2 : (Cond.instanceMethod y).before a0 Z = true) (w3 : (Cond.initialized y.cls).before a0 Z = true) (w4 : (Cond.code y bytes maxL none).before a0 Z = true) (hEL : EW Z a0 EL) (hC : CHv Z EL vm0 h) (hM : MetFree l y (head1 [Cond.code y bytes maxL none] rm) (fun b U => b = (.ref a :: argsL).toArray ∧ Z.Warmed39 U.vm ∧ U.heap = h ∧ CHv Z EL U.vm h) (fun _ _ _ _ _ => True) (fun _ U o U' => ∃ v L, o = .returned v ∧ Q v U'.heap L ∧ ReturnedEndW U o U' L rm.cells rm.slots)) (eT : T.heap = h) (hml : c.maxLocals = nl) (hps : parseMethodDescriptor y.desc = some ⟨ps, r⟩) (hd : decode c.code pc = .ok (.invokespecial index, 3)) (k : ∀ v T' L, Q v T'.heap L → Stand p l e R (s.setVm T'.vm) m args below meth c T' (locs ++ L) (cells + rm.cells) (slots + rm.slots) → s.Since T'.vm T'.heap.size → Z.Warmed39 (s.setVm T'.vm).vm → (s.setVm T'.vm).vm.findClass own = some m.cls → OG p.tables e below P (T'.setTop (mkF m (pc + 3) ls (v.toList ++ rest)))) (hy1 : y.name = "<init>" := by rfl) (hls : ls.size = nl := by rfl) (hy : y.cls ≠ "java/lang/invoke/MethodHandle" ∧ y.cls ≠ "java/lang/invoke/VarHandle" := by decide) (hlen : argsL.length = ps.length := by rfl) (hst : stk = argsL.reverse ++ .ref a :: rest := by rfl) (hW : (rest.map fun v => v.category).sum = W := by rfl) (hf : rm.frames + 1 ≤ R.frames := by decide) (hl : W + (maxL + 11) + rm.locals ≤ R.locals := by decide) (hc : cells + rm.cells ≤ R.cells := by decide) (hs : slots + rm.slots ≤ R.slots := by decide) : OG p.tables e below P (T.setTop (mkF m pc ls stk)) := by
  obtain ⟨v, _, ⟨T', L', c', n'⟩, -, X', h2, gr, ⟨L, hQ, l1, y1, z1⟩, st⟩ := X.specialBackS hx (y := y) hy1 hown (mvT hZ w1) (mvT hZ w2) (mvT hZ w4) hy (own_backSH (W := W) hM hZ w4 w3 hf hl hEL hC) (g := mkF m pc ls stk) rfl (by rw [hml]; exact hls) (Steps.refl _) (a := a) (argsL := argsL) (rest := rest) (lenOf hps hlen) hst (by rw [← hW]; exact Nat.le_of_eq (Nat.zero_add _)) hd (fun _ _ => ⟨rfl, eT, hc, hs⟩)
  dsimp only [Pt.U, Pt.locs, Pt.cells, Pt.slots] at X' h2 gr l1 y1 z1 st hQ
  obtain ⟨X2, hS2, hZ2, hown2⟩ := rebS hS (by rw [eT]; exact hk) X' h2 gr hZ hown
  subst l1 y1 z1
  exact og (fun _ q => st.trans q) (k v T' L hQ X2 hS2 hZ2 hown2)
theorem og_startR {EL : List (String × Nat)} {ws : List Jvm.Cond} {A : Array Value} {h0 : Heap} {Q : Array Value → State → Outcome → State → Prop} (hpl : plainFor y = true)
    (body : ∀ p e s m below meth c s₁, BodyLoose p l y (head1 (Cond.code y bytes maxL ret :: ws) R) bytes maxL ret e s m A below meth c s₁ → p.tables.exec = Jvm.exec → c.code = bytes → c.maxLocals = maxL → Z.Warmed39 (s.setVm s.vm).vm → (s.setVm s.vm).vm.findClass y.cls = some m.cls → meth.name = y.name → Stand p l e R (s.setVm s.vm) m A below meth c s₁ [] 0 0 → s₁.heap = h0 → s.Since s.vm h0.size → h0.size ≤ h0.size → CHr Z EL s.vm s.heap s.vm h0 → OG p.tables e below (fun o u => Q A s o u) (s₁.setTop (entryFrame m A maxL))) :
    MetFree l y (head1 (Cond.code y bytes maxL ret :: ws) R) (fun a U => a = A ∧ Z.Warmed39 U.vm ∧ U.heap = h0 ∧ CHv Z EL U.vm h0) (fun _ _ _ _ _ => True) Q := by
  refine MetFree.of_bodySF hpl hisR ?_
  intro p e s m args below meth c s₁ Bd hml0 hP hK
  obtain ⟨rfl, hZ, hh, hC⟩ := hP
  exact body p e s m below meth c s₁ Bd Bd.exec Bd.bytes hml0 hZ (findClass_of_methodNamed Bd.named) (name_of_methodNamed Bd.named Bd.method).1 (Stand.of_body Bd) (by rw [← hh, Bd.state]; rfl) ((State.WarmedH.refl s).since _) (Nat.le_refl _) (by rw [hh]; exact CHr.refl hC)
theorem og_leaveR {EL : List (String × Nat)} {R' : Room} {v : Option Value} {A : State} (X : Stand p l e R (s.setVm vm0) m args below meth c T locs cells slots) (hS : s.Since vm0 k0) (hk : k0 ≤ h.size) (hZ : Z.Warmed39 (s.setVm vm0).vm) (hEL : EW Z a0 EL) (hC : CHr Z EL s.vm s.heap vm0 h) (hv : meth.sig.returnType = none → v = none) (hlk : meth.locks = false) (eT : T.heap = h) (hc : cells ≤ R'.cells) (hs : slots ≤ R'.slots) (hQ : Q v h locs) (st : ∀ fs, (∀ (f : JFrame) (acts : List Action), f.method = m → f.locked = none → f.entered = [] → (doReturn e (T.setTop f) acts v).1 = T.setFrames fs) → Steps p.tables e below A (T.setFrames fs)) : OG p.tables e below (fun o u => ∃ v L, o = .returned v ∧ Q v u.heap L ∧ CHr Z EL s.vm s.heap u.vm u.heap ∧ ReturnedEndW s o u L R'.cells R'.slots) A := by
  obtain ⟨fs, hr, hrun, hended, hend⟩ := X.leaveW hS (by rw [eT]; exact hk) (v := v) hv hlk
  refine ⟨_, _, st fs hr, hrun, hended, v, locs, rfl, ?_, ?_, hend.1, hend.2.1, hend.2.2.1, hend.2.2.2.mono hc hs⟩
  · show Q v T.heap locs
    rw [eT]; exact hQ
  · show CHr Z EL s.vm s.heap T.vm T.heap
    rw [eT]; exact hC.trans (CHv.at X hZ hEL hC.1)
theorem rIR {S : Spec} {s₁ : State} {R' : Room} {EL : List (String × Nat)} {z : Int32} (X : Stand p l e R (s.setVm vm0) m args below meth c T locs cells slots) (hx : p.tables.exec = Jvm.exec) (Bd : BodyLoose p l y S bytes maxL (some .int) e s m args below meth c s₁) (hS : s.Since vm0 k0) (hk : k0 ≤ h.size) (hZ : Z.Warmed39 (s.setVm vm0).vm) (hEL : EW Z a0 EL) (hC : CHr Z EL s.vm s.heap vm0 h) (hd : decode c.code pc = .ok (.ireturn, 1)) (eT : T.heap = h) (hQ : Q (some (.int z)) h locs) (hc : cells ≤ R'.cells := by decide) (hs : slots ≤ R'.slots := by decide) : OG p.tables e below (fun o u => ∃ v L, o = .returned v ∧ Q v u.heap L ∧ CHr Z EL s.vm s.heap u.vm u.heap ∧ ReturnedEndW s o u L R'.cells R'.slots) (T.setTop (mkF m pc ls ((.int z) :: rest))) := og_leaveR X hS hk hZ hEL hC (fun q => by rw [Bd.returns] at q; cases q) Bd.notSynchronized eT hc hs hQ (fun fs hr => retOut X hx Bd.returns rfl (Or.inl ⟨rfl, Or.inl rfl, _, rfl⟩) hd hr)
theorem rNR {S : Spec} {s₁ : State} {R' : Room} {EL : List (String × Nat)} {t : FieldType} {z v : Int32} (X : Stand p l e R (s.setVm vm0) m args below meth c T locs cells slots) (hx : p.tables.exec = Jvm.exec) (Bd : BodyLoose p l y S bytes maxL (some t) e s m args below meth c s₁) (hS : s.Since vm0 k0) (hk : k0 ≤ h.size) (hZ : Z.Warmed39 (s.setVm vm0).vm) (hEL : EW Z a0 EL) (hC : CHr Z EL s.vm s.heap vm0 h) (ht : t = .boolean ∨ t = .byte ∨ t = .char ∨ t = .short) (hv : nar t z = v) (hd : decode c.code pc = .ok (.ireturn, 1)) (eT : T.heap = h) (hQ : Q (some (.int v)) h locs) (hc : cells ≤ R'.cells := by decide) (hs : slots ≤ R'.slots := by decide) : OG p.tables e below (fun o u => ∃ v L, o = .returned v ∧ Q v u.heap L ∧ CHr Z EL s.vm s.heap u.vm u.heap ∧ ReturnedEndW s o u L R'.cells R'.slots) (T.setTop (mkF m pc ls ((.int z) :: rest))) := og_leaveR X hS hk hZ hEL hC (fun q => by rw [Bd.returns] at q; cases q) Bd.notSynchronized eT hc hs hQ (fun fs hr => retN X hx Bd.returns ht hd (by rw [hv]; exact hr))
theorem rAR {S : Spec} {s₁ : State} {R' : Room} {EL : List (String × Nat)} {t : FieldType} {v : Value} (X : Stand p l e R (s.setVm vm0) m args below meth c T locs cells slots) (hx : p.tables.exec = Jvm.exec) (Bd : BodyLoose p l y S bytes maxL (some t) e s m args below meth c s₁) (hS : s.Since vm0 k0) (hk : k0 ≤ h.size) (hZ : Z.Warmed39 (s.setVm vm0).vm) (hEL : EW Z a0 EL) (hC : CHr Z EL s.vm s.heap vm0 h) (hv : v.isRef = true) (ht : t.isReference = true) (hn : narrow t v = v) (hd : decode c.code pc = .ok (.areturn, 1)) (eT : T.heap = h) (hQ : Q (some (v)) h locs) (hc : cells ≤ R'.cells := by decide) (hs : slots ≤ R'.slots := by decide) : OG p.tables e below (fun o u => ∃ v L, o = .returned v ∧ Q v u.heap L ∧ CHr Z EL s.vm s.heap u.vm u.heap ∧ ReturnedEndW s o u L R'.cells R'.slots) (T.setTop (mkF m pc ls ((v) :: rest))) := og_leaveR X hS hk hZ hEL hC (fun q => by rw [Bd.returns] at q; cases q) Bd.notSynchronized eT hc hs hQ (fun fs hr => retOut X hx Bd.returns hn (Or.inr (Or.inr (Or.inr (Or.inr ⟨rfl, ht, hv⟩)))) hd hr)
theorem r0R {S : Spec} {s₁ : State} {R' : Room} {EL : List (String × Nat)} (X : Stand p l e R (s.setVm vm0) m args below meth c T locs cells slots) (hx : p.tables.exec = Jvm.exec) (Bd : BodyLoose p l y S bytes maxL none e s m args below meth c s₁) (hS : s.Since vm0 k0) (hk : k0 ≤ h.size) (hZ : Z.Warmed39 (s.setVm vm0).vm) (hEL : EW Z a0 EL) (hC : CHr Z EL s.vm s.heap vm0 h) (hd : decode c.code pc = .ok (.return_, 1)) (eT : T.heap = h) (hQ : Q none h locs) (hc : cells ≤ R'.cells := by decide) (hs : slots ≤ R'.slots := by decide) : OG p.tables e below (fun o u => ∃ v L, o = .returned v ∧ Q v u.heap L ∧ CHr Z EL s.vm s.heap u.vm u.heap ∧ ReturnedEndW s o u L R'.cells R'.slots) (T.setTop (mkF m pc ls [])) := og_leaveR X hS hk hZ hEL hC (fun _ => rfl) Bd.notSynchronized eT hc hs hQ (fun fs hr => X.returnOut hx Bd.returns hd hr)
theorem sBs {j x v : Int32} {q : ClassId} {n : Int32} {vs vs' : List Value} {dv : Value} (i : Nat) (X : Stand p l e R s m args below meth c T locs cells slots) (hx : p.tables.exec = Jvm.exec) (hZ : Z.Warmed39 s.vm) (eT : T.heap = h) (F : Arv Z h a q .byte n vs dv) (hv : nar .byte x = v) (hj : ¬ j < 0 ∧ j < n) (hi : j.toNatClampNeg = i) (hl : i < vs.length) (he : vs.set i (.int v) = vs') (hd : decode c.code pc = .ok (.bastore, 1))
    (k : ∀ T' h', Stand p l e R s m args below meth c T' (locs ++ [⟨a, j.toNatClampNeg⟩]) cells slots → T'.heap = h' → Wr h h' a j.toNatClampNeg (.int v) → Arv Z h' a q .byte n vs' dv → OG p.tables e below P (T'.setTop (mkF m (pc + 1) ls rest))) : OG p.tables e below P (T.setTop (mkF m pc ls (.int x :: .int j :: .ref a :: rest))) := by
  subst he
  exact g_stB i X hx hZ eT F hj hi hl hv hd k
theorem sCs {j x v : Int32} {q : ClassId} {n : Int32} {vs vs' : List Value} {dv : Value} (i : Nat) (X : Stand p l e R s m args below meth c T locs cells slots) (hx : p.tables.exec = Jvm.exec) (hZ : Z.Warmed39 s.vm) (eT : T.heap = h) (F : Arv Z h a q .char n vs dv) (hv : nar .char x = v) (hj : ¬ j < 0 ∧ j < n) (hi : j.toNatClampNeg = i) (hl : i < vs.length) (he : vs.set i (.int v) = vs') (hd : decode c.code pc = .ok (.castore, 1))
    (k : ∀ T' h', Stand p l e R s m args below meth c T' (locs ++ [⟨a, j.toNatClampNeg⟩]) cells slots → T'.heap = h' → Wr h h' a j.toNatClampNeg (.int v) → Arv Z h' a q .char n vs' dv → OG p.tables e below P (T'.setTop (mkF m (pc + 1) ls rest))) : OG p.tables e below P (T.setTop (mkF m pc ls (.int x :: .int j :: .ref a :: rest))) := by
  subst he
  exact g_stC i X hx hZ eT F hj hi hl hv hd k
theorem gL {text : String} (vs : List Value) (z : Int32) (n : Nat) (X : Stand p l e R (s.setVm vm0) m args below meth c T locs cells slots) (hx : p.tables.exec = Jvm.exec) (hZ : Z.Warmed39 (s.setVm vm0).vm) (hown : (s.setVm vm0).vm.findClass own = some m.cls) (hw : ∀ d ∈ tables_1, d.before a0 Z = true) (w : (Cond.stringLink own index text).before a0 Z = true) (eT : T.heap = h) (hS : s.Since vm0 k0) (hk : k0 ≤ h.size) (hC : CHv Z own_EL vm0 h) (hd : decode c.code pc = .ok (.ldc index, 2)) (k : ∀ a T' h' k1 b q, Stand p l e R (s.setVm T'.vm) m args below meth c T' locs (cells + 2) (slots + (n + 4)) → T'.heap = h' → Ext h h' → s.Since T'.vm k1 → k1 ≤ h'.size → Z.Warmed39 (s.setVm T'.vm).vm → (s.setVm T'.vm).vm.findClass own = some m.cls → Exa Z h' a "java/lang/String" → Fld Z h' a "java/lang/String" "coder" "B" (.int 0) → Fld Z h' a "java/lang/String" "value" "[B" (.ref b) → Arv Z h' b q .byte z vs (.int 0) → CHr Z own_EL vm0 h T'.vm h' → Lit (s.setVm T'.vm) own index a → (∀ x, Safe Z own_EL T'.vm h' x → x ≠ a ∧ x ≠ b) → OG p.tables e below P (T'.setTop (mkF m (pc + 2) ls (.ref a :: stk)))) (hmem : (own, index) ∈ own_EL := by decide) (ht : (∀ c ∈ text.toList, c.toNat < 256) ∧ text.toList.map (fun c => Value.int (Jvm.Lit.byteI c.toNat.toUInt16)) = vs := by decide) (hz : ¬ z < 0 := by decide) (hl : z.toNatClampNeg = vs.length := by decide) (hn : 4 * text.toList.length ≤ n := by decide) (hbig : n ≤ 536870912 := by decide) (hc : cells + 2 ≤ R.cells := by decide) (hl' : slots + (n + 4) ≤ R.slots := by decide) : OG p.tables e below P (T.setTop (mkF m pc ls stk)) := by
  obtain ⟨a, T', h', k1, b, q, X', e', E, hS', hk', hZ', hown', EA, FC, FV, AB, -, -, CR, LT, NS, st⟩ := ldcCH X hx hZ hown w (fun d hd => hw d (own_strAtoms d hd)) eT hS hk (own_EW hw) hmem hC ht hz hl (g := mkF m pc ls stk) rfl hd hn hbig hc hl'
  exact og st (k a T' h' k1 b q X' e' E hS' hk' hZ' hown' EA FC FV AB CR LT NS)
theorem gO {text : String} (n : Nat) (X : Stand p l e R (s.setVm vm0) m args below meth c T locs cells slots) (hx : p.tables.exec = Jvm.exec) (hZ : Z.Warmed39 (s.setVm vm0).vm) (hown : (s.setVm vm0).vm.findClass own = some m.cls) (hw : ∀ d ∈ tables_1, d.before a0 Z = true) (w : (Cond.stringLink own index text).before a0 Z = true) (eT : T.heap = h) (hS : s.Since vm0 k0) (hk : k0 ≤ h.size) (hC : CHv Z own_EL vm0 h) (hd : decode c.code pc = .ok (.ldc index, 2)) (k : ∀ a T' h' k1, Stand p l e R (s.setVm T'.vm) m args below meth c T' locs (cells + 2) (slots + (n + 4)) → T'.heap = h' → Ext h h' → s.Since T'.vm k1 → k1 ≤ h'.size → Z.Warmed39 (s.setVm T'.vm).vm → (s.setVm T'.vm).vm.findClass own = some m.cls → CHr Z own_EL vm0 h T'.vm h' → OG p.tables e below P (T'.setTop (mkF m (pc + 2) ls (.ref a :: stk)))) (hn : 4 * text.toList.length ≤ n := by decide) (hbig : n ≤ 536870912 := by decide) (hc : cells + 2 ≤ R.cells := by decide) (hl' : slots + (n + 4) ≤ R.slots := by decide) : OG p.tables e below P (T.setTop (mkF m pc ls stk)) := by
  obtain ⟨a, T', h', k1, X', e', E, hS', hk', hZ', hown', CR, -, st⟩ := ldcOH X hx hZ hown w (fun d hd => hw d (own_strAtoms d hd)) eT hS hk (own_EW hw) hC (g := mkF m pc ls stk) rfl hd hn hbig hc hl'
  exact og st (k a T' h' k1 X' e' E hS' hk' hZ' hown' CR)
end Og

abbrev R_0_0_0_0 : Room := ({ frames := 0, cells := 0, slots := 0, locals := 0 } : Room)
abbrev k42 := method_3_code
theorem d38_0 : decode k42 0 = .ok (.iload_n 0, 1) := by decide +kernel
theorem d38_1 : decode k42 1 = .ok (.bipush 97, 2) := by decide +kernel
theorem d38_3 : decode k42 3 = .ok (.if_icmp .lt 9, 3) := by decide +kernel
theorem d38_6 : decode k42 6 = .ok (.iload_n 0, 1) := by decide +kernel
theorem d38_7 : decode k42 7 = .ok (.bipush 122, 2) := by decide +kernel
theorem d38_9 : decode k42 9 = .ok (.if_icmp .le 27, 3) := by decide +kernel
theorem d38_12 : decode k42 12 = .ok (.iload_n 0, 1) := by decide +kernel
theorem d38_13 : decode k42 13 = .ok (.bipush 48, 2) := by decide +kernel
theorem d38_15 : decode k42 15 = .ok (.if_icmp .lt 9, 3) := by decide +kernel
theorem d38_18 : decode k42 18 = .ok (.iload_n 0, 1) := by decide +kernel
theorem d38_19 : decode k42 19 = .ok (.bipush 57, 2) := by decide +kernel
theorem d38_21 : decode k42 21 = .ok (.if_icmp .le 15, 3) := by decide +kernel
theorem d38_24 : decode k42 24 = .ok (.iload_n 0, 1) := by decide +kernel
theorem d38_25 : decode k42 25 = .ok (.bipush 65, 2) := by decide +kernel
theorem d38_27 : decode k42 27 = .ok (.if_icmp .lt 13, 3) := by decide +kernel
theorem d38_30 : decode k42 30 = .ok (.iload_n 0, 1) := by decide +kernel
theorem d38_31 : decode k42 31 = .ok (.bipush 90, 2) := by decide +kernel
theorem d38_33 : decode k42 33 = .ok (.if_icmp .gt 7, 3) := by decide +kernel
theorem d38_36 : decode k42 36 = .ok (.iconst 1, 1) := by decide +kernel
theorem d38_37 : decode k42 37 = .ok (.goto 4, 3) := by decide +kernel
theorem d38_40 : decode k42 40 = .ok (.iconst 0, 1) := by decide +kernel
theorem d38_41 : decode k42 41 = .ok (.ireturn, 1) := by decide +kernel
theorem pn_com_example_obieg_obieg_ChoiceIdOfPinLaw : plainName "com/example/obieg/obieg/ChoiceIdOfPinLaw" = true := by first | (simp [plainName, overriddenIn]; done) | decide +kernel
theorem ef0 (m : MethodId) (x0 : Int32) : entryFrame m #[(.int x0)] 1 = (mkF m 0 #[.val (.int x0)] []) := by first | (simp [entryFrame, mkF, argsToLocals, Value.category]; done) | rfl
def QKE (Z : State) (qc : Int32) (h0 : Heap) (n0 : Nat) (v : Option Value) (h : Heap) (L : List Loc) : Prop := v = some (.int (own_kept qc)) ∧ Fr n0 L ∧ h = h0
theorem rmKE (l : Launch) (Z : State) (a0 : Array Value) (hw : HW a0 Z) (ws : List Jvm.Cond) (qc : Int32) (h0 : Heap) (n0 : Nat) (Z0 : n0 ≤ h0.size) :
    MF l Z ⟨"com/example/obieg/obieg/ChoiceIdOfPinLaw", "kept", "(C)Z"⟩ method_3_code 1 (some .boolean) ws R_0_0_0_0 #[(.int qc)] h0 (QKE Z qc h0 n0) := by
  refine og_start (plainFor_of_name pn_com_example_obieg_obieg_ChoiceIdOfPinLaw) fun p e s m below meth c s₁ Bd hx hby hml hZ hown hnm X0 e0 => ?_
  have y := @hb _ _ hby
  refine og (fun t k => castTop (ef0 m qc) k) ?_
  refine og2 X0 hx (fun j _ k => o_iloadN j (y d38_0) rfl <| o_bipushV j 97 (y d38_1) rfl <| k) ?_
  by_cases C1 : qc < (97 : Int32)
  · refine og2 X0 hx (fun j _ k => o_icmpYes j (pc' := 12) (y d38_3) (XT.ii_lt_t C1) <| o_iloadN j (y d38_12) rfl <| o_bipushV j 48 (y d38_13) rfl <| k) ?_
    by_cases C2 : qc < (48 : Int32)
    · refine og2 X0 hx (fun j _ k => o_icmpYes j (pc' := 24) (y d38_15) (XT.ii_lt_t C2) <| o_iloadN j (y d38_24) rfl <| o_bipushV j 65 (y d38_25) rfl <| k) ?_
      by_cases C3 : qc < (65 : Int32)
      · refine og2 X0 hx (fun j _ k => o_icmpYes j (pc' := 40) (y d38_27) (XT.ii_lt_t C3) <| o_iconstV j 0 (y d38_40) rfl <| k) ?_
        exact rN (v := (0 : Int32)) X0 hx Bd (by simp) rfl (y d38_41) e0 ⟨(by simp [own_kept, C1, C2, C3]), (Fr.nil n0), rfl⟩
      · refine og2 X0 hx (fun j _ k => o_icmpNo j (y d38_27) (XT.ii_lt_f C3) <| o_iloadN j (y d38_30) rfl <| o_bipushV j 90 (y d38_31) rfl <| k) ?_
        by_cases C4 : (90 : Int32) < qc
        · refine og2 X0 hx (fun j _ k => o_icmpYes j (pc' := 40) (y d38_33) (XT.ii_gt_t C4) <| o_iconstV j 0 (y d38_40) rfl <| k) ?_
          exact rN (v := (0 : Int32)) X0 hx Bd (by simp) rfl (y d38_41) e0 ⟨(by simp [own_kept, C1, C2, C3, C4]), (Fr.nil n0), rfl⟩
        · refine og2 X0 hx (fun j _ k => o_icmpNo j (y d38_33) (XT.ii_gt_f C4) <| o_iconstV j 1 (y d38_36) rfl <| o_goto j (pc' := 41) (y d38_37) <| k) ?_
          exact rN (v := (1 : Int32)) X0 hx Bd (by simp) rfl (y d38_41) e0 ⟨(by simp [own_kept, C1, C2, C3, C4]), (Fr.nil n0), rfl⟩
    · refine og2 X0 hx (fun j _ k => o_icmpNo j (y d38_15) (XT.ii_lt_f C2) <| o_iloadN j (y d38_18) rfl <| o_bipushV j 57 (y d38_19) rfl <| k) ?_
      by_cases C5 : (57 : Int32) < qc
      · refine og2 X0 hx (fun j _ k => o_icmpNo j (y d38_21) (XT.ii_le_f C5) <| o_iloadN j (y d38_24) rfl <| o_bipushV j 65 (y d38_25) rfl <| k) ?_
        by_cases C6 : qc < (65 : Int32)
        · refine og2 X0 hx (fun j _ k => o_icmpYes j (pc' := 40) (y d38_27) (XT.ii_lt_t C6) <| o_iconstV j 0 (y d38_40) rfl <| k) ?_
          exact rN (v := (0 : Int32)) X0 hx Bd (by simp) rfl (y d38_41) e0 ⟨(by simp [own_kept, C1, C2, C5, C6]), (Fr.nil n0), rfl⟩
        · refine og2 X0 hx (fun j _ k => o_icmpNo j (y d38_27) (XT.ii_lt_f C6) <| o_iloadN j (y d38_30) rfl <| o_bipushV j 90 (y d38_31) rfl <| k) ?_
          by_cases C7 : (90 : Int32) < qc
          · refine og2 X0 hx (fun j _ k => o_icmpYes j (pc' := 40) (y d38_33) (XT.ii_gt_t C7) <| o_iconstV j 0 (y d38_40) rfl <| k) ?_
            exact rN (v := (0 : Int32)) X0 hx Bd (by simp) rfl (y d38_41) e0 ⟨(by simp [own_kept, C1, C2, C5, C6, C7]), (Fr.nil n0), rfl⟩
          · refine og2 X0 hx (fun j _ k => o_icmpNo j (y d38_33) (XT.ii_gt_f C7) <| o_iconstV j 1 (y d38_36) rfl <| o_goto j (pc' := 41) (y d38_37) <| k) ?_
            exact rN (v := (1 : Int32)) X0 hx Bd (by simp) rfl (y d38_41) e0 ⟨(by simp [own_kept, C1, C2, C5, C6, C7]), (Fr.nil n0), rfl⟩
      · refine og2 X0 hx (fun j _ k => o_icmpYes j (pc' := 36) (y d38_21) (XT.ii_le_t C5) <| o_iconstV j 1 (y d38_36) rfl <| o_goto j (pc' := 41) (y d38_37) <| k) ?_
        exact rN (v := (1 : Int32)) X0 hx Bd (by simp) rfl (y d38_41) e0 ⟨(by simp [own_kept, C1, C2, C5]), (Fr.nil n0), rfl⟩
  · refine og2 X0 hx (fun j _ k => o_icmpNo j (y d38_3) (XT.ii_lt_f C1) <| o_iloadN j (y d38_6) rfl <| o_bipushV j 122 (y d38_7) rfl <| k) ?_
    by_cases C8 : (122 : Int32) < qc
    · refine og2 X0 hx (fun j _ k => o_icmpNo j (y d38_9) (XT.ii_le_f C8) <| o_iloadN j (y d38_12) rfl <| o_bipushV j 48 (y d38_13) rfl <| k) ?_
      by_cases C9 : qc < (48 : Int32)
      · refine og2 X0 hx (fun j _ k => o_icmpYes j (pc' := 24) (y d38_15) (XT.ii_lt_t C9) <| o_iloadN j (y d38_24) rfl <| o_bipushV j 65 (y d38_25) rfl <| k) ?_
        by_cases C10 : qc < (65 : Int32)
        · refine og2 X0 hx (fun j _ k => o_icmpYes j (pc' := 40) (y d38_27) (XT.ii_lt_t C10) <| o_iconstV j 0 (y d38_40) rfl <| k) ?_
          exact rN (v := (0 : Int32)) X0 hx Bd (by simp) rfl (y d38_41) e0 ⟨(by simp [own_kept, C1, C8, C9, C10]), (Fr.nil n0), rfl⟩
        · refine og2 X0 hx (fun j _ k => o_icmpNo j (y d38_27) (XT.ii_lt_f C10) <| o_iloadN j (y d38_30) rfl <| o_bipushV j 90 (y d38_31) rfl <| k) ?_
          by_cases C11 : (90 : Int32) < qc
          · refine og2 X0 hx (fun j _ k => o_icmpYes j (pc' := 40) (y d38_33) (XT.ii_gt_t C11) <| o_iconstV j 0 (y d38_40) rfl <| k) ?_
            exact rN (v := (0 : Int32)) X0 hx Bd (by simp) rfl (y d38_41) e0 ⟨(by simp [own_kept, C1, C8, C9, C10, C11]), (Fr.nil n0), rfl⟩
          · refine og2 X0 hx (fun j _ k => o_icmpNo j (y d38_33) (XT.ii_gt_f C11) <| o_iconstV j 1 (y d38_36) rfl <| o_goto j (pc' := 41) (y d38_37) <| k) ?_
            exact rN (v := (1 : Int32)) X0 hx Bd (by simp) rfl (y d38_41) e0 ⟨(by simp [own_kept, C1, C8, C9, C10, C11]), (Fr.nil n0), rfl⟩
      · refine og2 X0 hx (fun j _ k => o_icmpNo j (y d38_15) (XT.ii_lt_f C9) <| o_iloadN j (y d38_18) rfl <| o_bipushV j 57 (y d38_19) rfl <| k) ?_
        by_cases C12 : (57 : Int32) < qc
        · refine og2 X0 hx (fun j _ k => o_icmpNo j (y d38_21) (XT.ii_le_f C12) <| o_iloadN j (y d38_24) rfl <| o_bipushV j 65 (y d38_25) rfl <| k) ?_
          by_cases C13 : qc < (65 : Int32)
          · refine og2 X0 hx (fun j _ k => o_icmpYes j (pc' := 40) (y d38_27) (XT.ii_lt_t C13) <| o_iconstV j 0 (y d38_40) rfl <| k) ?_
            exact rN (v := (0 : Int32)) X0 hx Bd (by simp) rfl (y d38_41) e0 ⟨(by simp [own_kept, C1, C8, C9, C12, C13]), (Fr.nil n0), rfl⟩
          · refine og2 X0 hx (fun j _ k => o_icmpNo j (y d38_27) (XT.ii_lt_f C13) <| o_iloadN j (y d38_30) rfl <| o_bipushV j 90 (y d38_31) rfl <| k) ?_
            by_cases C14 : (90 : Int32) < qc
            · refine og2 X0 hx (fun j _ k => o_icmpYes j (pc' := 40) (y d38_33) (XT.ii_gt_t C14) <| o_iconstV j 0 (y d38_40) rfl <| k) ?_
              exact rN (v := (0 : Int32)) X0 hx Bd (by simp) rfl (y d38_41) e0 ⟨(by simp [own_kept, C1, C8, C9, C12, C13, C14]), (Fr.nil n0), rfl⟩
            · refine og2 X0 hx (fun j _ k => o_icmpNo j (y d38_33) (XT.ii_gt_f C14) <| o_iconstV j 1 (y d38_36) rfl <| o_goto j (pc' := 41) (y d38_37) <| k) ?_
              exact rN (v := (1 : Int32)) X0 hx Bd (by simp) rfl (y d38_41) e0 ⟨(by simp [own_kept, C1, C8, C9, C12, C13, C14]), (Fr.nil n0), rfl⟩
        · refine og2 X0 hx (fun j _ k => o_icmpYes j (pc' := 36) (y d38_21) (XT.ii_le_t C12) <| o_iconstV j 1 (y d38_36) rfl <| o_goto j (pc' := 41) (y d38_37) <| k) ?_
          exact rN (v := (1 : Int32)) X0 hx Bd (by simp) rfl (y d38_41) e0 ⟨(by simp [own_kept, C1, C8, C9, C12]), (Fr.nil n0), rfl⟩
    · refine og2 X0 hx (fun j _ k => o_icmpYes j (pc' := 36) (y d38_9) (XT.ii_le_t C8) <| o_iconstV j 1 (y d38_36) rfl <| o_goto j (pc' := 41) (y d38_37) <| k) ?_
      exact rN (v := (1 : Int32)) X0 hx Bd (by simp) rfl (y d38_41) e0 ⟨(by simp [own_kept, C1, C8]), (Fr.nil n0), rfl⟩

abbrev k43 := method_4_code
theorem d43_0 : decode k43 0 = .ok (.iload_n 0, 1) := by decide +kernel
theorem d43_1 : decode k43 1 = .ok (.bipush 65, 2) := by decide +kernel
theorem d43_3 : decode k43 3 = .ok (.if_icmp .lt 15, 3) := by decide +kernel
theorem d43_6 : decode k43 6 = .ok (.iload_n 0, 1) := by decide +kernel
theorem d43_7 : decode k43 7 = .ok (.bipush 90, 2) := by decide +kernel
theorem d43_9 : decode k43 9 = .ok (.if_icmp .gt 9, 3) := by decide +kernel
theorem d43_12 : decode k43 12 = .ok (.iload_n 0, 1) := by decide +kernel
theorem d43_13 : decode k43 13 = .ok (.bipush 32, 2) := by decide +kernel
theorem d43_15 : decode k43 15 = .ok (.iadd, 1) := by decide +kernel
theorem d43_16 : decode k43 16 = .ok (.i2c, 1) := by decide +kernel
theorem d43_17 : decode k43 17 = .ok (.ireturn, 1) := by decide +kernel
theorem d43_18 : decode k43 18 = .ok (.iload_n 0, 1) := by decide +kernel
theorem d43_19 : decode k43 19 = .ok (.ireturn, 1) := by decide +kernel
def QLW (Z : State) (qc : Int32) (h0 : Heap) (n0 : Nat) (v : Option Value) (h : Heap) (L : List Loc) : Prop := v = some (.int (own_lower qc)) ∧ Fr n0 L ∧ h = h0
theorem rmLW (l : Launch) (Z : State) (a0 : Array Value) (hw : HW a0 Z) (ws : List Jvm.Cond) (qc : Int32) (h0 : Heap) (n0 : Nat) (Z0 : n0 ≤ h0.size) (H0 : OB qc) :
    MF l Z ⟨"com/example/obieg/obieg/ChoiceIdOfPinLaw", "lower", "(C)C"⟩ method_4_code 1 (some .char) ws R_0_0_0_0 #[(.int qc)] h0 (QLW Z qc h0 n0) := by
  refine og_start (plainFor_of_name pn_com_example_obieg_obieg_ChoiceIdOfPinLaw) fun p e s m below meth c s₁ Bd hx hby hml hZ hown hnm X0 e0 => ?_
  have y := @hb _ _ hby
  refine og (fun t k => castTop (ef0 m qc) k) ?_
  refine og2 X0 hx (fun j _ k => o_iloadN j (y d43_0) rfl <| o_bipushV j 65 (y d43_1) rfl <| k) ?_
  by_cases C1 : qc < (65 : Int32)
  · refine og2 X0 hx (fun j _ k => o_icmpYes j (pc' := 18) (y d43_3) (XT.ii_lt_t C1) <| o_iloadN j (y d43_18) rfl <| k) ?_
    exact rN (v := qc) X0 hx Bd (by simp) (own_nar_ob H0) (y d43_19) e0 ⟨(by simp [own_lower, C1]), (Fr.nil n0), rfl⟩
  · refine og2 X0 hx (fun j _ k => o_icmpNo j (y d43_3) (XT.ii_lt_f C1) <| o_iloadN j (y d43_6) rfl <| o_bipushV j 90 (y d43_7) rfl <| k) ?_
    by_cases C2 : (90 : Int32) < qc
    · refine og2 X0 hx (fun j _ k => o_icmpYes j (pc' := 18) (y d43_9) (XT.ii_gt_t C2) <| o_iloadN j (y d43_18) rfl <| k) ?_
      exact rN (v := qc) X0 hx Bd (by simp) (own_nar_ob H0) (y d43_19) e0 ⟨(by simp [own_lower, C1, C2]), (Fr.nil n0), rfl⟩
    · refine og2 X0 hx (fun j _ k => o_icmpNo j (y d43_9) (XT.ii_gt_f C2) <| o_iloadN j (y d43_12) rfl <| o_bipushV j 32 (y d43_13) rfl <| o_iadd j (y d43_15) <| o_i2cO j (y d43_16) <| k) ?_
      exact rN (v := own_i2c (qc + (32 : Int32))) X0 hx Bd (by simp) (own_nar_c _) (y d43_17) e0 ⟨(by simp [own_lower, C1, C2]), (Fr.nil n0), rfl⟩

abbrev k44 := method_5_code
theorem d37_0 : decode k44 0 = .ok (.iload_n 2, 1) := by decide +kernel
theorem d37_1 : decode k44 1 = .ok (.iload_n 1, 1) := by decide +kernel
theorem d37_2 : decode k44 2 = .ok (.if_icmp .ge 12, 3) := by decide +kernel
theorem d37_14 : decode k44 14 = .ok (.iload 4, 2) := by decide +kernel
theorem d37_16 : decode k44 16 = .ok (.ireturn, 1) := by decide +kernel
theorem ef1 (m : MethodId) (x0 : Addr) (x1 : Int32) (x2 : Int32) (x3 : Addr) (x4 : Int32) : entryFrame m #[(.ref x0), (.int x1), (.int x2), (.ref x3), (.int x4)] 6 = (mkF m 0 #[.val (.ref x0), .val (.int x1), .val (.int x2), .val (.ref x3), .val (.int x4), .unset] []) := by first | (simp [entryFrame, mkF, argsToLocals, Value.category]; done) | rfl
def QPS (Z : State) (aa : Addr) (qn : Int32) (qi : Int32) (oa : Addr) (qp : Int32) (h0 : Heap) (n0 : Nat) (v : Option Value) (h : Heap) (L : List Loc) : Prop := v = some (.int qp) ∧ Fr n0 L ∧ h = h0
theorem rmPS (l : Launch) (Z : State) (a0 : Array Value) (hw : HW a0 Z) (ws : List Jvm.Cond) (aa : Addr) (qn : Int32) (qi : Int32) (oa : Addr) (qp : Int32) (h0 : Heap) (n0 : Nat) (Z0 : n0 ≤ h0.size) (H0 : ¬ qi < qn) :
    MF l Z ⟨"com/example/obieg/obieg/ChoiceIdOfPinLaw", "put", "([CII[CI)I"⟩ method_5_code 6 (some .int) ws R_0_0_0_0 #[(.ref aa), (.int qn), (.int qi), (.ref oa), (.int qp)] h0 (QPS Z aa qn qi oa qp h0 n0) := by
  refine og_start (plainFor_of_name pn_com_example_obieg_obieg_ChoiceIdOfPinLaw) fun p e s m below meth c s₁ Bd hx hby hml hZ hown hnm X0 e0 => ?_
  have y := @hb _ _ hby
  refine og (fun t k => castTop (ef1 m aa qn qi oa qp) k) ?_
  refine og2 X0 hx (fun j _ k => o_iloadN j (y d37_0) rfl <| o_iloadN j (y d37_1) rfl <| o_icmpYes j (pc' := 14) (y d37_2) (XT.ii_ge_t H0) <| o_iload j (y d37_14) rfl <| k) ?_
  exact rI X0 hx Bd (y d37_16) e0 ⟨rfl, (Fr.nil n0), rfl⟩

abbrev R_1_0_0_14 : Room := ({ frames := 1, cells := 0, slots := 0, locals := 14 } : Room)
theorem d37_5 : decode k44 5 = .ok (.aload_n 0, 1) := by decide +kernel
theorem d37_6 : decode k44 6 = .ok (.iload_n 2, 1) := by decide +kernel
theorem d37_7 : decode k44 7 = .ok (.caload, 1) := by decide +kernel
theorem d37_8 : decode k44 8 = .ok (.invokestatic 32, 3) := by decide +kernel
theorem d37_11 : decode k44 11 = .ok (.ifCond .ne 6, 3) := by decide +kernel
theorem d37_17 : decode k44 17 = .ok (.iload 4, 2) := by decide +kernel
theorem d37_19 : decode k44 19 = .ok (.istore 5, 2) := by decide +kernel
theorem d37_21 : decode k44 21 = .ok (.iload 5, 2) := by decide +kernel
theorem d37_23 : decode k44 23 = .ok (.iconst 3, 1) := by decide +kernel
theorem d37_24 : decode k44 24 = .ok (.if_icmp .le 30, 3) := by decide +kernel
theorem d37_27 : decode k44 27 = .ok (.iload_n 2, 1) := by decide +kernel
theorem d37_28 : decode k44 28 = .ok (.ifCond .le 26, 3) := by decide +kernel
theorem d37_54 : decode k44 54 = .ok (.aload_n 3, 1) := by decide +kernel
theorem d37_55 : decode k44 55 = .ok (.iload 5, 2) := by decide +kernel
theorem d37_57 : decode k44 57 = .ok (.aload_n 0, 1) := by decide +kernel
theorem d37_58 : decode k44 58 = .ok (.iload_n 2, 1) := by decide +kernel
theorem d37_59 : decode k44 59 = .ok (.caload, 1) := by decide +kernel
theorem d37_60 : decode k44 60 = .ok (.invokestatic 36, 3) := by decide +kernel
theorem d37_63 : decode k44 63 = .ok (.castore, 1) := by decide +kernel
theorem d37_64 : decode k44 64 = .ok (.iload 5, 2) := by decide +kernel
theorem d37_66 : decode k44 66 = .ok (.iconst 1, 1) := by decide +kernel
theorem d37_67 : decode k44 67 = .ok (.iadd, 1) := by decide +kernel
theorem d37_68 : decode k44 68 = .ok (.ireturn, 1) := by decide +kernel
theorem pd_oCcZ : parseMethodDescriptor "(C)Z" = some ⟨[.char], some .boolean⟩ := by decide +kernel
theorem pd_oCcC : parseMethodDescriptor "(C)C" = some ⟨[.char], some .char⟩ := by decide +kernel
def QPU0 (Z : State) (aa : Addr) (ak : ClassId) (oa : Addr) (ok1 : ClassId) (qn : Int32) (c0 : Int32) (c1 : Int32) (c2 : Int32) (c3 : Int32) (c4 : Int32) (L0 : List Int32) (h0 : Heap) (n0 : Nat) (v : Option Value) (h : Heap) (L : List Loc) : Prop := v = some (.int (own_ln (own_nx L0 (0 : Int32) (own_low c0)))) ∧ Fr n0 L ∧ Keep h0 h [oa] ∧ Arv Z h oa ok1 .char (13 : Int32) (own_pc (own_nx L0 (0 : Int32) (own_low c0))) (.int 0)
theorem rmPU0 (l : Launch) (Z : State) (a0 : Array Value) (hw : HW a0 Z) (ws : List Jvm.Cond) (aa : Addr) (ak : ClassId) (oa : Addr) (ok1 : ClassId) (qn : Int32) (c0 : Int32) (c1 : Int32) (c2 : Int32) (c3 : Int32) (c4 : Int32) (L0 : List Int32) (h0 : Heap) (n0 : Nat) (Z0 : n0 ≤ h0.size) (pr0 : Arv Z h0 aa ak .char (5 : Int32) [(.int c0), (.int c1), (.int c2), (.int c3), (.int c4)] (.int 0)) (pr1 : Arv Z h0 oa ok1 .char (13 : Int32) (own_pc (L0)) (.int 0)) (H2 : n0 ≤ oa) (H3 : (0 : Int32) < qn) (H4 : L0.length < 12) (H5 : OB c0) (H6 : aa ≠ oa) :
    MF l Z ⟨"com/example/obieg/obieg/ChoiceIdOfPinLaw", "put", "([CII[CI)I"⟩ method_5_code 6 (some .int) ws R_1_0_0_14 #[(.ref aa), (.int qn), (.int 0), (.ref oa), (.int (own_ln L0))] h0 (QPU0 Z aa ak oa ok1 qn c0 c1 c2 c3 c4 L0 h0 n0) := by
  refine og_start (plainFor_of_name pn_com_example_obieg_obieg_ChoiceIdOfPinLaw) fun p e s m below meth c s₁ Bd hx hby hml hZ hown hnm X0 e0 => ?_
  have y := @hb _ _ hby
  have w := @wd _ _ hw
  refine og (fun t k => castTop (ef1 m aa qn (0 : Int32) oa (own_ln L0)) k) ?_
  refine og2 X0 hx (fun j _ k => o_iloadN j (y d37_0) rfl <| o_iloadN j (y d37_1) rfl <| o_icmpNo j (y d37_2) (XT.ii_ge_f H3) <| o_aloadN j (y d37_5) rfl rfl <| o_iloadN j (y d37_6) rfl <| o_caload (v := (.int c0)) X0 hx hZ e0 pr0 ⟨by decide, by decide⟩ rfl (y d37_7) <| k) ?_
  refine cS [(.int c0)] [] 0 X0 hx hZ hown (w 196 rfl) (w 197 rfl) (w 194 rfl) (w 198 rfl) (rmKE l Z a0 hw [] c0 h0 n0 Z0) e0 hml pd_oCcZ (y d37_8) (fun v1 T1 L1 hQ1 X1 => ?_)
  obtain ⟨rfl, N1a, eh1⟩ := hQ1
  have N1 := Fr.app (Fr.nil n0) N1a
  have e1 : T1.heap = h0 := eh1
  by_cases C2 : own_kept c0 = 0
  · refine og2 X1 hx (fun j _ k => o_ifNo j (y d37_11) (XT.i0_ne_f C2) <| o_iload j (y d37_14) rfl <| k) ?_
    exact rI X1 hx Bd (y d37_16) e1 ⟨(by rw [(own_nx0 ((own_kk H5).mp C2))]), N1, (Keep.refl h0 [oa]), (by rw [(own_nx0 ((own_kk H5).mp C2))]; exact pr1)⟩
  · refine og2 X1 hx (fun j _ k => o_ifYes j (pc' := 17) (y d37_11) (XT.i0_ne_t C2) <| o_iload j (y d37_17) rfl <| o_istore j (y d37_19) (l' := #[.val (.ref aa), .val (.int qn), .val (.int 0), .val (.ref oa), .val (.int (own_ln L0)), .val (.int (own_ln L0))]) rfl <| o_iload j (y d37_21) rfl <| o_iconstV j 3 (y d37_23) rfl <| k) ?_
    by_cases C3 : (3 : Int32) < (own_ln L0)
    · refine og2 X1 hx (fun j _ k => o_icmpNo j (y d37_24) (XT.ii_le_f C3) <| o_iloadN j (y d37_27) rfl <| o_ifYes j (pc' := 54) (y d37_28) (by decide) <| o_aloadN j (y d37_54) rfl rfl <| o_iload j (y d37_55) rfl <| o_aloadN j (y d37_57) rfl rfl <| o_iloadN j (y d37_58) rfl <| o_caload (v := (.int c0)) X1 hx hZ e1 pr0 ⟨by decide, by decide⟩ rfl (y d37_59) <| k) ?_
      refine cS [(.int c0)] [(.int (own_ln L0)), (.ref oa)] 2 X1 hx hZ hown (w 220 rfl) (w 221 rfl) (w 194 rfl) (w 222 rfl) (rmLW l Z a0 hw [] c0 h0 n0 Z0 H5) e1 hml pd_oCcC (y d37_60) (fun v4 T4 L4 hQ4 X4 => ?_)
      obtain ⟨rfl, N4a, eh4⟩ := hQ4
      have N4 := Fr.app N1 N4a
      have e4 : T4.heap = h0 := eh4
      refine sCs (v := own_low c0) ((L0).length) X4 hx hZ e4 pr1 ((own_lower_ch H5).trans (own_ll H5 C2)) ⟨own_ln0 (by first | omega | (simp only [List.length_append, List.length_cons, List.length_nil]; omega)), own_ln13 (by first | omega | (simp only [List.length_append, List.length_cons, List.length_nil]; omega))⟩ (own_ln_nat (by first | omega | (simp only [List.length_append, List.length_cons, List.length_nil]; omega))) (by rw [own_pc_len (by first | omega | (simp only [List.length_append, List.length_cons, List.length_nil]; omega))]; exact (by first | omega | (simp only [List.length_append, List.length_cons, List.length_nil]; omega))) (own_pc_set _ (by first | omega | (simp only [List.length_append, List.length_cons, List.length_nil]; omega))) (y d37_63) (fun T5 h5 X5 e5 W5 A5 => ?_)
      have N5 := Fr.snoc X5 N4 H2
      have P5 := (Keep.refl h0 [oa]).wr W5 (Or.inl (List.mem_of_getElem? (i := 0) rfl))
      have A5v : Arv Z h5 oa ok1 .char (13 : Int32) (own_pc ((L0) ++ [own_low c0])) (.int 0) := A5
      refine og2 X5 hx (fun j _ k => o_iload j (y d37_64) rfl <| o_iconstV j 1 (y d37_66) rfl <| o_iadd j (y d37_67) <| k) ?_
      rw [(own_ln_app (L0) (own_low c0))]
      exact rI X5 hx Bd (y d37_68) e5 ⟨(by rw [(own_nx1 (Decidable.not_not.mp (mt (own_kk H5).mpr C2)) (Or.inl rfl))]), N5, P5, (by rw [(own_nx1 (Decidable.not_not.mp (mt (own_kk H5).mpr C2)) (Or.inl rfl))]; exact A5v)⟩
    · refine og2 X1 hx (fun j _ k => o_icmpYes j (pc' := 54) (y d37_24) (XT.ii_le_t C3) <| o_aloadN j (y d37_54) rfl rfl <| o_iload j (y d37_55) rfl <| o_aloadN j (y d37_57) rfl rfl <| o_iloadN j (y d37_58) rfl <| o_caload (v := (.int c0)) X1 hx hZ e1 pr0 ⟨by decide, by decide⟩ rfl (y d37_59) <| k) ?_
      refine cS [(.int c0)] [(.int (own_ln L0)), (.ref oa)] 2 X1 hx hZ hown (w 220 rfl) (w 221 rfl) (w 194 rfl) (w 222 rfl) (rmLW l Z a0 hw [] c0 h0 n0 Z0 H5) e1 hml pd_oCcC (y d37_60) (fun v7 T7 L7 hQ7 X7 => ?_)
      obtain ⟨rfl, N7a, eh7⟩ := hQ7
      have N7 := Fr.app N1 N7a
      have e7 : T7.heap = h0 := eh7
      refine sCs (v := own_low c0) ((L0).length) X7 hx hZ e7 pr1 ((own_lower_ch H5).trans (own_ll H5 C2)) ⟨own_ln0 (by first | omega | (simp only [List.length_append, List.length_cons, List.length_nil]; omega)), own_ln13 (by first | omega | (simp only [List.length_append, List.length_cons, List.length_nil]; omega))⟩ (own_ln_nat (by first | omega | (simp only [List.length_append, List.length_cons, List.length_nil]; omega))) (by rw [own_pc_len (by first | omega | (simp only [List.length_append, List.length_cons, List.length_nil]; omega))]; exact (by first | omega | (simp only [List.length_append, List.length_cons, List.length_nil]; omega))) (own_pc_set _ (by first | omega | (simp only [List.length_append, List.length_cons, List.length_nil]; omega))) (y d37_63) (fun T8 h8 X8 e8 W8 A8 => ?_)
      have N8 := Fr.snoc X8 N7 H2
      have P8 := (Keep.refl h0 [oa]).wr W8 (Or.inl (List.mem_of_getElem? (i := 0) rfl))
      have A8v : Arv Z h8 oa ok1 .char (13 : Int32) (own_pc ((L0) ++ [own_low c0])) (.int 0) := A8
      refine og2 X8 hx (fun j _ k => o_iload j (y d37_64) rfl <| o_iconstV j 1 (y d37_66) rfl <| o_iadd j (y d37_67) <| k) ?_
      rw [(own_ln_app (L0) (own_low c0))]
      exact rI X8 hx Bd (y d37_68) e8 ⟨(by rw [(own_nx1 (Decidable.not_not.mp (mt (own_kk H5).mpr C2)) (Or.inr C3))]), N8, P8, (by rw [(own_nx1 (Decidable.not_not.mp (mt (own_kk H5).mpr C2)) (Or.inr C3))]; exact A8v)⟩

theorem d37_31 : decode k44 31 = .ok (.aload_n 0, 1) := by decide +kernel
theorem d37_32 : decode k44 32 = .ok (.iload_n 2, 1) := by decide +kernel
theorem d37_33 : decode k44 33 = .ok (.iconst 1, 1) := by decide +kernel
theorem d37_34 : decode k44 34 = .ok (.isub, 1) := by decide +kernel
theorem d37_35 : decode k44 35 = .ok (.caload, 1) := by decide +kernel
theorem d37_36 : decode k44 36 = .ok (.invokestatic 32, 3) := by decide +kernel
theorem d37_39 : decode k44 39 = .ok (.ifCond .ne 15, 3) := by decide +kernel
theorem d37_42 : decode k44 42 = .ok (.aload_n 3, 1) := by decide +kernel
theorem d37_43 : decode k44 43 = .ok (.iload 5, 2) := by decide +kernel
theorem d37_45 : decode k44 45 = .ok (.bipush 95, 2) := by decide +kernel
theorem d37_47 : decode k44 47 = .ok (.castore, 1) := by decide +kernel
theorem d37_48 : decode k44 48 = .ok (.iload 5, 2) := by decide +kernel
theorem d37_50 : decode k44 50 = .ok (.iconst 1, 1) := by decide +kernel
theorem d37_51 : decode k44 51 = .ok (.iadd, 1) := by decide +kernel
theorem d37_52 : decode k44 52 = .ok (.istore 5, 2) := by decide +kernel
def QPU1 (Z : State) (aa : Addr) (ak : ClassId) (oa : Addr) (ok1 : ClassId) (qn : Int32) (c0 : Int32) (c1 : Int32) (c2 : Int32) (c3 : Int32) (c4 : Int32) (L0 : List Int32) (h0 : Heap) (n0 : Nat) (v : Option Value) (h : Heap) (L : List Loc) : Prop := v = some (.int (own_ln (own_nx L0 (own_sp (own_low c0)) (own_low c1)))) ∧ Fr n0 L ∧ Keep h0 h [oa] ∧ Arv Z h oa ok1 .char (13 : Int32) (own_pc (own_nx L0 (own_sp (own_low c0)) (own_low c1))) (.int 0)
theorem rmPU1 (l : Launch) (Z : State) (a0 : Array Value) (hw : HW a0 Z) (ws : List Jvm.Cond) (aa : Addr) (ak : ClassId) (oa : Addr) (ok1 : ClassId) (qn : Int32) (c0 : Int32) (c1 : Int32) (c2 : Int32) (c3 : Int32) (c4 : Int32) (L0 : List Int32) (h0 : Heap) (n0 : Nat) (Z0 : n0 ≤ h0.size) (pr0 : Arv Z h0 aa ak .char (5 : Int32) [(.int c0), (.int c1), (.int c2), (.int c3), (.int c4)] (.int 0)) (pr1 : Arv Z h0 oa ok1 .char (13 : Int32) (own_pc (L0)) (.int 0)) (H2 : n0 ≤ oa) (H3 : (1 : Int32) < qn) (H4 : L0.length < 12) (H5 : OB c1) (H6 : aa ≠ oa) (H7 : OB c0) :
    MF l Z ⟨"com/example/obieg/obieg/ChoiceIdOfPinLaw", "put", "([CII[CI)I"⟩ method_5_code 6 (some .int) ws R_1_0_0_14 #[(.ref aa), (.int qn), (.int 1), (.ref oa), (.int (own_ln L0))] h0 (QPU1 Z aa ak oa ok1 qn c0 c1 c2 c3 c4 L0 h0 n0) := by
  refine og_start (plainFor_of_name pn_com_example_obieg_obieg_ChoiceIdOfPinLaw) fun p e s m below meth c s₁ Bd hx hby hml hZ hown hnm X0 e0 => ?_
  have y := @hb _ _ hby
  have w := @wd _ _ hw
  refine og (fun t k => castTop (ef1 m aa qn (1 : Int32) oa (own_ln L0)) k) ?_
  refine og2 X0 hx (fun j _ k => o_iloadN j (y d37_0) rfl <| o_iloadN j (y d37_1) rfl <| o_icmpNo j (y d37_2) (XT.ii_ge_f H3) <| o_aloadN j (y d37_5) rfl rfl <| o_iloadN j (y d37_6) rfl <| o_caload (v := (.int c1)) X0 hx hZ e0 pr0 ⟨by decide, by decide⟩ rfl (y d37_7) <| k) ?_
  refine cS [(.int c1)] [] 0 X0 hx hZ hown (w 196 rfl) (w 197 rfl) (w 194 rfl) (w 198 rfl) (rmKE l Z a0 hw [] c1 h0 n0 Z0) e0 hml pd_oCcZ (y d37_8) (fun v1 T1 L1 hQ1 X1 => ?_)
  obtain ⟨rfl, N1a, eh1⟩ := hQ1
  have N1 := Fr.app (Fr.nil n0) N1a
  have e1 : T1.heap = h0 := eh1
  by_cases C2 : own_kept c1 = 0
  · refine og2 X1 hx (fun j _ k => o_ifNo j (y d37_11) (XT.i0_ne_f C2) <| o_iload j (y d37_14) rfl <| k) ?_
    exact rI X1 hx Bd (y d37_16) e1 ⟨(by rw [(own_nx0 ((own_kk H5).mp C2))]), N1, (Keep.refl h0 [oa]), (by rw [(own_nx0 ((own_kk H5).mp C2))]; exact pr1)⟩
  · refine og2 X1 hx (fun j _ k => o_ifYes j (pc' := 17) (y d37_11) (XT.i0_ne_t C2) <| o_iload j (y d37_17) rfl <| o_istore j (y d37_19) (l' := #[.val (.ref aa), .val (.int qn), .val (.int 1), .val (.ref oa), .val (.int (own_ln L0)), .val (.int (own_ln L0))]) rfl <| o_iload j (y d37_21) rfl <| o_iconstV j 3 (y d37_23) rfl <| k) ?_
    by_cases C3 : (3 : Int32) < (own_ln L0)
    · refine og2 X1 hx (fun j _ k => o_icmpNo j (y d37_24) (XT.ii_le_f C3) <| o_iloadN j (y d37_27) rfl <| o_ifNo j (y d37_28) (by decide) <| o_aloadN j (y d37_31) rfl rfl <| o_iloadN j (y d37_32) rfl <| o_iconstV j 1 (y d37_33) rfl <| o_isub j (y d37_34) <| k) ?_
      rw [(by decide : (1 : Int32) - (1 : Int32) = (0 : Int32))]
      refine og (fun _ k => o_caload (v := (.int c0)) X1 hx hZ e1 pr0 ⟨by decide, by decide⟩ rfl (y d37_35) <| k) ?_
      refine cS [(.int c0)] [] 0 X1 hx hZ hown (w 196 rfl) (w 197 rfl) (w 194 rfl) (w 198 rfl) (rmKE l Z a0 hw [] c0 h0 n0 Z0) e1 hml pd_oCcZ (y d37_36) (fun v4 T4 L4 hQ4 X4 => ?_)
      obtain ⟨rfl, N4a, eh4⟩ := hQ4
      have N4 := Fr.app N1 N4a
      have e4 : T4.heap = h0 := eh4
      by_cases C5 : own_kept c0 = 0
      · refine og2 X4 hx (fun j _ k => o_ifNo j (y d37_39) (XT.i0_ne_f C5) <| o_aloadN j (y d37_42) rfl rfl <| o_iload j (y d37_43) rfl <| o_bipushV j 95 (y d37_45) rfl <| k) ?_
        refine sCs (v := (95 : Int32)) (L0.length) X4 hx hZ e4 pr1 (by decide) ⟨own_ln0 (by omega), own_ln13 (by omega)⟩ (own_ln_nat (by omega)) (by rw [own_pc_len (by omega)]; omega) (own_pc_set _ (by omega)) (y d37_47) (fun T6 h6 X6 e6 W6 A6 => ?_)
        have N6 := Fr.snoc X6 N4 H2
        have P6 := (Keep.refl h0 [oa]).wr W6 (Or.inl (List.mem_of_getElem? (i := 0) rfl))
        have Z6 : n0 ≤ h6.size := (by rw [W6.size]; exact Z0)
        have A7 := (pr0.other W6 H6)
        have A6v : Arv Z h6 oa ok1 .char (13 : Int32) (own_pc (L0 ++ [(95 : Int32)])) (.int 0) := A6
        refine og2 X6 hx (fun j _ k => o_iload j (y d37_48) rfl <| o_iconstV j 1 (y d37_50) rfl <| o_iadd j (y d37_51) <| k) ?_
        rw [(own_ln_app L0 (95 : Int32))]
        refine og2 X6 hx (fun j _ k => o_istore j (y d37_52) (l' := #[.val (.ref aa), .val (.int qn), .val (.int 1), .val (.ref oa), .val (.int (own_ln L0)), .val (.int (own_ln (L0 ++ [(95 : Int32)])))]) rfl <| o_aloadN j (y d37_54) rfl rfl <| o_iload j (y d37_55) rfl <| o_aloadN j (y d37_57) rfl rfl <| o_iloadN j (y d37_58) rfl <| o_caload (v := (.int c1)) X6 hx hZ e6 A7 ⟨by decide, by decide⟩ rfl (y d37_59) <| k) ?_
        refine cS [(.int c1)] [(.int (own_ln (L0 ++ [(95 : Int32)]))), (.ref oa)] 2 X6 hx hZ hown (w 220 rfl) (w 221 rfl) (w 194 rfl) (w 222 rfl) (rmLW l Z a0 hw [] c1 h6 n0 Z6 H5) e6 hml pd_oCcC (y d37_60) (fun v8 T8 L8 hQ8 X8 => ?_)
        obtain ⟨rfl, N8a, eh8⟩ := hQ8
        have N8 := Fr.app N6 N8a
        have e8 : T8.heap = h6 := eh8
        refine sCs (v := own_low c1) ((L0 ++ [(95 : Int32)]).length) X8 hx hZ e8 A6v ((own_lower_ch H5).trans (own_ll H5 C2)) ⟨own_ln0 (by first | omega | (simp only [List.length_append, List.length_cons, List.length_nil]; omega)), own_ln13 (by first | omega | (simp only [List.length_append, List.length_cons, List.length_nil]; omega))⟩ (own_ln_nat (by first | omega | (simp only [List.length_append, List.length_cons, List.length_nil]; omega))) (by rw [own_pc_len (by first | omega | (simp only [List.length_append, List.length_cons, List.length_nil]; omega))]; exact (by first | omega | (simp only [List.length_append, List.length_cons, List.length_nil]; omega))) (own_pc_set _ (by first | omega | (simp only [List.length_append, List.length_cons, List.length_nil]; omega))) (y d37_63) (fun T9 h9 X9 e9 W9 A9 => ?_)
        have N9 := Fr.snoc X9 N8 H2
        have P9 := P6.wr W9 (Or.inl (List.mem_of_getElem? (i := 0) rfl))
        have A9v : Arv Z h9 oa ok1 .char (13 : Int32) (own_pc ((L0 ++ [(95 : Int32)]) ++ [own_low c1])) (.int 0) := A9
        refine og2 X9 hx (fun j _ k => o_iload j (y d37_64) rfl <| o_iconstV j 1 (y d37_66) rfl <| o_iadd j (y d37_67) <| k) ?_
        rw [(own_ln_app (L0 ++ [(95 : Int32)]) (own_low c1))]
        exact rI X9 hx Bd (y d37_68) e9 ⟨(by rw [(own_nx2 (Decidable.not_not.mp (mt (own_kk H5).mpr C2)) (by rw [own_sp1 ((own_kk H7).mp C5)]; decide) C3)]), N9, P9, (by rw [(own_nx2 (Decidable.not_not.mp (mt (own_kk H5).mpr C2)) (by rw [own_sp1 ((own_kk H7).mp C5)]; decide) C3)]; exact A9v)⟩
      · refine og2 X4 hx (fun j _ k => o_ifYes j (pc' := 54) (y d37_39) (XT.i0_ne_t C5) <| o_aloadN j (y d37_54) rfl rfl <| o_iload j (y d37_55) rfl <| o_aloadN j (y d37_57) rfl rfl <| o_iloadN j (y d37_58) rfl <| o_caload (v := (.int c1)) X4 hx hZ e4 pr0 ⟨by decide, by decide⟩ rfl (y d37_59) <| k) ?_
        refine cS [(.int c1)] [(.int (own_ln L0)), (.ref oa)] 2 X4 hx hZ hown (w 220 rfl) (w 221 rfl) (w 194 rfl) (w 222 rfl) (rmLW l Z a0 hw [] c1 h0 n0 Z0 H5) e4 hml pd_oCcC (y d37_60) (fun v11 T11 L11 hQ11 X11 => ?_)
        obtain ⟨rfl, N11a, eh11⟩ := hQ11
        have N11 := Fr.app N4 N11a
        have e11 : T11.heap = h0 := eh11
        refine sCs (v := own_low c1) ((L0).length) X11 hx hZ e11 pr1 ((own_lower_ch H5).trans (own_ll H5 C2)) ⟨own_ln0 (by first | omega | (simp only [List.length_append, List.length_cons, List.length_nil]; omega)), own_ln13 (by first | omega | (simp only [List.length_append, List.length_cons, List.length_nil]; omega))⟩ (own_ln_nat (by first | omega | (simp only [List.length_append, List.length_cons, List.length_nil]; omega))) (by rw [own_pc_len (by first | omega | (simp only [List.length_append, List.length_cons, List.length_nil]; omega))]; exact (by first | omega | (simp only [List.length_append, List.length_cons, List.length_nil]; omega))) (own_pc_set _ (by first | omega | (simp only [List.length_append, List.length_cons, List.length_nil]; omega))) (y d37_63) (fun T12 h12 X12 e12 W12 A12 => ?_)
        have N12 := Fr.snoc X12 N11 H2
        have P12 := (Keep.refl h0 [oa]).wr W12 (Or.inl (List.mem_of_getElem? (i := 0) rfl))
        have A12v : Arv Z h12 oa ok1 .char (13 : Int32) (own_pc ((L0) ++ [own_low c1])) (.int 0) := A12
        refine og2 X12 hx (fun j _ k => o_iload j (y d37_64) rfl <| o_iconstV j 1 (y d37_66) rfl <| o_iadd j (y d37_67) <| k) ?_
        rw [(own_ln_app (L0) (own_low c1))]
        exact rI X12 hx Bd (y d37_68) e12 ⟨(by rw [(own_nx1 (Decidable.not_not.mp (mt (own_kk H5).mpr C2)) (Or.inl (own_sp0 (Decidable.not_not.mp (mt (own_kk H7).mpr C5)))))]), N12, P12, (by rw [(own_nx1 (Decidable.not_not.mp (mt (own_kk H5).mpr C2)) (Or.inl (own_sp0 (Decidable.not_not.mp (mt (own_kk H7).mpr C5)))))]; exact A12v)⟩
    · refine og2 X1 hx (fun j _ k => o_icmpYes j (pc' := 54) (y d37_24) (XT.ii_le_t C3) <| o_aloadN j (y d37_54) rfl rfl <| o_iload j (y d37_55) rfl <| o_aloadN j (y d37_57) rfl rfl <| o_iloadN j (y d37_58) rfl <| o_caload (v := (.int c1)) X1 hx hZ e1 pr0 ⟨by decide, by decide⟩ rfl (y d37_59) <| k) ?_
      refine cS [(.int c1)] [(.int (own_ln L0)), (.ref oa)] 2 X1 hx hZ hown (w 220 rfl) (w 221 rfl) (w 194 rfl) (w 222 rfl) (rmLW l Z a0 hw [] c1 h0 n0 Z0 H5) e1 hml pd_oCcC (y d37_60) (fun v14 T14 L14 hQ14 X14 => ?_)
      obtain ⟨rfl, N14a, eh14⟩ := hQ14
      have N14 := Fr.app N1 N14a
      have e14 : T14.heap = h0 := eh14
      refine sCs (v := own_low c1) ((L0).length) X14 hx hZ e14 pr1 ((own_lower_ch H5).trans (own_ll H5 C2)) ⟨own_ln0 (by first | omega | (simp only [List.length_append, List.length_cons, List.length_nil]; omega)), own_ln13 (by first | omega | (simp only [List.length_append, List.length_cons, List.length_nil]; omega))⟩ (own_ln_nat (by first | omega | (simp only [List.length_append, List.length_cons, List.length_nil]; omega))) (by rw [own_pc_len (by first | omega | (simp only [List.length_append, List.length_cons, List.length_nil]; omega))]; exact (by first | omega | (simp only [List.length_append, List.length_cons, List.length_nil]; omega))) (own_pc_set _ (by first | omega | (simp only [List.length_append, List.length_cons, List.length_nil]; omega))) (y d37_63) (fun T15 h15 X15 e15 W15 A15 => ?_)
      have N15 := Fr.snoc X15 N14 H2
      have P15 := (Keep.refl h0 [oa]).wr W15 (Or.inl (List.mem_of_getElem? (i := 0) rfl))
      have A15v : Arv Z h15 oa ok1 .char (13 : Int32) (own_pc ((L0) ++ [own_low c1])) (.int 0) := A15
      refine og2 X15 hx (fun j _ k => o_iload j (y d37_64) rfl <| o_iconstV j 1 (y d37_66) rfl <| o_iadd j (y d37_67) <| k) ?_
      rw [(own_ln_app (L0) (own_low c1))]
      exact rI X15 hx Bd (y d37_68) e15 ⟨(by rw [(own_nx1 (Decidable.not_not.mp (mt (own_kk H5).mpr C2)) (Or.inr C3))]), N15, P15, (by rw [(own_nx1 (Decidable.not_not.mp (mt (own_kk H5).mpr C2)) (Or.inr C3))]; exact A15v)⟩

def QPU2 (Z : State) (aa : Addr) (ak : ClassId) (oa : Addr) (ok1 : ClassId) (qn : Int32) (c0 : Int32) (c1 : Int32) (c2 : Int32) (c3 : Int32) (c4 : Int32) (L0 : List Int32) (h0 : Heap) (n0 : Nat) (v : Option Value) (h : Heap) (L : List Loc) : Prop := v = some (.int (own_ln (own_nx L0 (own_sp (own_low c1)) (own_low c2)))) ∧ Fr n0 L ∧ Keep h0 h [oa] ∧ Arv Z h oa ok1 .char (13 : Int32) (own_pc (own_nx L0 (own_sp (own_low c1)) (own_low c2))) (.int 0)
theorem rmPU2 (l : Launch) (Z : State) (a0 : Array Value) (hw : HW a0 Z) (ws : List Jvm.Cond) (aa : Addr) (ak : ClassId) (oa : Addr) (ok1 : ClassId) (qn : Int32) (c0 : Int32) (c1 : Int32) (c2 : Int32) (c3 : Int32) (c4 : Int32) (L0 : List Int32) (h0 : Heap) (n0 : Nat) (Z0 : n0 ≤ h0.size) (pr0 : Arv Z h0 aa ak .char (5 : Int32) [(.int c0), (.int c1), (.int c2), (.int c3), (.int c4)] (.int 0)) (pr1 : Arv Z h0 oa ok1 .char (13 : Int32) (own_pc (L0)) (.int 0)) (H2 : n0 ≤ oa) (H3 : (2 : Int32) < qn) (H4 : L0.length < 12) (H5 : OB c2) (H6 : aa ≠ oa) (H7 : OB c1) :
    MF l Z ⟨"com/example/obieg/obieg/ChoiceIdOfPinLaw", "put", "([CII[CI)I"⟩ method_5_code 6 (some .int) ws R_1_0_0_14 #[(.ref aa), (.int qn), (.int 2), (.ref oa), (.int (own_ln L0))] h0 (QPU2 Z aa ak oa ok1 qn c0 c1 c2 c3 c4 L0 h0 n0) := by
  refine og_start (plainFor_of_name pn_com_example_obieg_obieg_ChoiceIdOfPinLaw) fun p e s m below meth c s₁ Bd hx hby hml hZ hown hnm X0 e0 => ?_
  have y := @hb _ _ hby
  have w := @wd _ _ hw
  refine og (fun t k => castTop (ef1 m aa qn (2 : Int32) oa (own_ln L0)) k) ?_
  refine og2 X0 hx (fun j _ k => o_iloadN j (y d37_0) rfl <| o_iloadN j (y d37_1) rfl <| o_icmpNo j (y d37_2) (XT.ii_ge_f H3) <| o_aloadN j (y d37_5) rfl rfl <| o_iloadN j (y d37_6) rfl <| o_caload (v := (.int c2)) X0 hx hZ e0 pr0 ⟨by decide, by decide⟩ rfl (y d37_7) <| k) ?_
  refine cS [(.int c2)] [] 0 X0 hx hZ hown (w 196 rfl) (w 197 rfl) (w 194 rfl) (w 198 rfl) (rmKE l Z a0 hw [] c2 h0 n0 Z0) e0 hml pd_oCcZ (y d37_8) (fun v1 T1 L1 hQ1 X1 => ?_)
  obtain ⟨rfl, N1a, eh1⟩ := hQ1
  have N1 := Fr.app (Fr.nil n0) N1a
  have e1 : T1.heap = h0 := eh1
  by_cases C2 : own_kept c2 = 0
  · refine og2 X1 hx (fun j _ k => o_ifNo j (y d37_11) (XT.i0_ne_f C2) <| o_iload j (y d37_14) rfl <| k) ?_
    exact rI X1 hx Bd (y d37_16) e1 ⟨(by rw [(own_nx0 ((own_kk H5).mp C2))]), N1, (Keep.refl h0 [oa]), (by rw [(own_nx0 ((own_kk H5).mp C2))]; exact pr1)⟩
  · refine og2 X1 hx (fun j _ k => o_ifYes j (pc' := 17) (y d37_11) (XT.i0_ne_t C2) <| o_iload j (y d37_17) rfl <| o_istore j (y d37_19) (l' := #[.val (.ref aa), .val (.int qn), .val (.int 2), .val (.ref oa), .val (.int (own_ln L0)), .val (.int (own_ln L0))]) rfl <| o_iload j (y d37_21) rfl <| o_iconstV j 3 (y d37_23) rfl <| k) ?_
    by_cases C3 : (3 : Int32) < (own_ln L0)
    · refine og2 X1 hx (fun j _ k => o_icmpNo j (y d37_24) (XT.ii_le_f C3) <| o_iloadN j (y d37_27) rfl <| o_ifNo j (y d37_28) (by decide) <| o_aloadN j (y d37_31) rfl rfl <| o_iloadN j (y d37_32) rfl <| o_iconstV j 1 (y d37_33) rfl <| o_isub j (y d37_34) <| k) ?_
      rw [(by decide : (2 : Int32) - (1 : Int32) = (1 : Int32))]
      refine og (fun _ k => o_caload (v := (.int c1)) X1 hx hZ e1 pr0 ⟨by decide, by decide⟩ rfl (y d37_35) <| k) ?_
      refine cS [(.int c1)] [] 0 X1 hx hZ hown (w 196 rfl) (w 197 rfl) (w 194 rfl) (w 198 rfl) (rmKE l Z a0 hw [] c1 h0 n0 Z0) e1 hml pd_oCcZ (y d37_36) (fun v4 T4 L4 hQ4 X4 => ?_)
      obtain ⟨rfl, N4a, eh4⟩ := hQ4
      have N4 := Fr.app N1 N4a
      have e4 : T4.heap = h0 := eh4
      by_cases C5 : own_kept c1 = 0
      · refine og2 X4 hx (fun j _ k => o_ifNo j (y d37_39) (XT.i0_ne_f C5) <| o_aloadN j (y d37_42) rfl rfl <| o_iload j (y d37_43) rfl <| o_bipushV j 95 (y d37_45) rfl <| k) ?_
        refine sCs (v := (95 : Int32)) (L0.length) X4 hx hZ e4 pr1 (by decide) ⟨own_ln0 (by omega), own_ln13 (by omega)⟩ (own_ln_nat (by omega)) (by rw [own_pc_len (by omega)]; omega) (own_pc_set _ (by omega)) (y d37_47) (fun T6 h6 X6 e6 W6 A6 => ?_)
        have N6 := Fr.snoc X6 N4 H2
        have P6 := (Keep.refl h0 [oa]).wr W6 (Or.inl (List.mem_of_getElem? (i := 0) rfl))
        have Z6 : n0 ≤ h6.size := (by rw [W6.size]; exact Z0)
        have A7 := (pr0.other W6 H6)
        have A6v : Arv Z h6 oa ok1 .char (13 : Int32) (own_pc (L0 ++ [(95 : Int32)])) (.int 0) := A6
        refine og2 X6 hx (fun j _ k => o_iload j (y d37_48) rfl <| o_iconstV j 1 (y d37_50) rfl <| o_iadd j (y d37_51) <| k) ?_
        rw [(own_ln_app L0 (95 : Int32))]
        refine og2 X6 hx (fun j _ k => o_istore j (y d37_52) (l' := #[.val (.ref aa), .val (.int qn), .val (.int 2), .val (.ref oa), .val (.int (own_ln L0)), .val (.int (own_ln (L0 ++ [(95 : Int32)])))]) rfl <| o_aloadN j (y d37_54) rfl rfl <| o_iload j (y d37_55) rfl <| o_aloadN j (y d37_57) rfl rfl <| o_iloadN j (y d37_58) rfl <| o_caload (v := (.int c2)) X6 hx hZ e6 A7 ⟨by decide, by decide⟩ rfl (y d37_59) <| k) ?_
        refine cS [(.int c2)] [(.int (own_ln (L0 ++ [(95 : Int32)]))), (.ref oa)] 2 X6 hx hZ hown (w 220 rfl) (w 221 rfl) (w 194 rfl) (w 222 rfl) (rmLW l Z a0 hw [] c2 h6 n0 Z6 H5) e6 hml pd_oCcC (y d37_60) (fun v8 T8 L8 hQ8 X8 => ?_)
        obtain ⟨rfl, N8a, eh8⟩ := hQ8
        have N8 := Fr.app N6 N8a
        have e8 : T8.heap = h6 := eh8
        refine sCs (v := own_low c2) ((L0 ++ [(95 : Int32)]).length) X8 hx hZ e8 A6v ((own_lower_ch H5).trans (own_ll H5 C2)) ⟨own_ln0 (by first | omega | (simp only [List.length_append, List.length_cons, List.length_nil]; omega)), own_ln13 (by first | omega | (simp only [List.length_append, List.length_cons, List.length_nil]; omega))⟩ (own_ln_nat (by first | omega | (simp only [List.length_append, List.length_cons, List.length_nil]; omega))) (by rw [own_pc_len (by first | omega | (simp only [List.length_append, List.length_cons, List.length_nil]; omega))]; exact (by first | omega | (simp only [List.length_append, List.length_cons, List.length_nil]; omega))) (own_pc_set _ (by first | omega | (simp only [List.length_append, List.length_cons, List.length_nil]; omega))) (y d37_63) (fun T9 h9 X9 e9 W9 A9 => ?_)
        have N9 := Fr.snoc X9 N8 H2
        have P9 := P6.wr W9 (Or.inl (List.mem_of_getElem? (i := 0) rfl))
        have A9v : Arv Z h9 oa ok1 .char (13 : Int32) (own_pc ((L0 ++ [(95 : Int32)]) ++ [own_low c2])) (.int 0) := A9
        refine og2 X9 hx (fun j _ k => o_iload j (y d37_64) rfl <| o_iconstV j 1 (y d37_66) rfl <| o_iadd j (y d37_67) <| k) ?_
        rw [(own_ln_app (L0 ++ [(95 : Int32)]) (own_low c2))]
        exact rI X9 hx Bd (y d37_68) e9 ⟨(by rw [(own_nx2 (Decidable.not_not.mp (mt (own_kk H5).mpr C2)) (by rw [own_sp1 ((own_kk H7).mp C5)]; decide) C3)]), N9, P9, (by rw [(own_nx2 (Decidable.not_not.mp (mt (own_kk H5).mpr C2)) (by rw [own_sp1 ((own_kk H7).mp C5)]; decide) C3)]; exact A9v)⟩
      · refine og2 X4 hx (fun j _ k => o_ifYes j (pc' := 54) (y d37_39) (XT.i0_ne_t C5) <| o_aloadN j (y d37_54) rfl rfl <| o_iload j (y d37_55) rfl <| o_aloadN j (y d37_57) rfl rfl <| o_iloadN j (y d37_58) rfl <| o_caload (v := (.int c2)) X4 hx hZ e4 pr0 ⟨by decide, by decide⟩ rfl (y d37_59) <| k) ?_
        refine cS [(.int c2)] [(.int (own_ln L0)), (.ref oa)] 2 X4 hx hZ hown (w 220 rfl) (w 221 rfl) (w 194 rfl) (w 222 rfl) (rmLW l Z a0 hw [] c2 h0 n0 Z0 H5) e4 hml pd_oCcC (y d37_60) (fun v11 T11 L11 hQ11 X11 => ?_)
        obtain ⟨rfl, N11a, eh11⟩ := hQ11
        have N11 := Fr.app N4 N11a
        have e11 : T11.heap = h0 := eh11
        refine sCs (v := own_low c2) ((L0).length) X11 hx hZ e11 pr1 ((own_lower_ch H5).trans (own_ll H5 C2)) ⟨own_ln0 (by first | omega | (simp only [List.length_append, List.length_cons, List.length_nil]; omega)), own_ln13 (by first | omega | (simp only [List.length_append, List.length_cons, List.length_nil]; omega))⟩ (own_ln_nat (by first | omega | (simp only [List.length_append, List.length_cons, List.length_nil]; omega))) (by rw [own_pc_len (by first | omega | (simp only [List.length_append, List.length_cons, List.length_nil]; omega))]; exact (by first | omega | (simp only [List.length_append, List.length_cons, List.length_nil]; omega))) (own_pc_set _ (by first | omega | (simp only [List.length_append, List.length_cons, List.length_nil]; omega))) (y d37_63) (fun T12 h12 X12 e12 W12 A12 => ?_)
        have N12 := Fr.snoc X12 N11 H2
        have P12 := (Keep.refl h0 [oa]).wr W12 (Or.inl (List.mem_of_getElem? (i := 0) rfl))
        have A12v : Arv Z h12 oa ok1 .char (13 : Int32) (own_pc ((L0) ++ [own_low c2])) (.int 0) := A12
        refine og2 X12 hx (fun j _ k => o_iload j (y d37_64) rfl <| o_iconstV j 1 (y d37_66) rfl <| o_iadd j (y d37_67) <| k) ?_
        rw [(own_ln_app (L0) (own_low c2))]
        exact rI X12 hx Bd (y d37_68) e12 ⟨(by rw [(own_nx1 (Decidable.not_not.mp (mt (own_kk H5).mpr C2)) (Or.inl (own_sp0 (Decidable.not_not.mp (mt (own_kk H7).mpr C5)))))]), N12, P12, (by rw [(own_nx1 (Decidable.not_not.mp (mt (own_kk H5).mpr C2)) (Or.inl (own_sp0 (Decidable.not_not.mp (mt (own_kk H7).mpr C5)))))]; exact A12v)⟩
    · refine og2 X1 hx (fun j _ k => o_icmpYes j (pc' := 54) (y d37_24) (XT.ii_le_t C3) <| o_aloadN j (y d37_54) rfl rfl <| o_iload j (y d37_55) rfl <| o_aloadN j (y d37_57) rfl rfl <| o_iloadN j (y d37_58) rfl <| o_caload (v := (.int c2)) X1 hx hZ e1 pr0 ⟨by decide, by decide⟩ rfl (y d37_59) <| k) ?_
      refine cS [(.int c2)] [(.int (own_ln L0)), (.ref oa)] 2 X1 hx hZ hown (w 220 rfl) (w 221 rfl) (w 194 rfl) (w 222 rfl) (rmLW l Z a0 hw [] c2 h0 n0 Z0 H5) e1 hml pd_oCcC (y d37_60) (fun v14 T14 L14 hQ14 X14 => ?_)
      obtain ⟨rfl, N14a, eh14⟩ := hQ14
      have N14 := Fr.app N1 N14a
      have e14 : T14.heap = h0 := eh14
      refine sCs (v := own_low c2) ((L0).length) X14 hx hZ e14 pr1 ((own_lower_ch H5).trans (own_ll H5 C2)) ⟨own_ln0 (by first | omega | (simp only [List.length_append, List.length_cons, List.length_nil]; omega)), own_ln13 (by first | omega | (simp only [List.length_append, List.length_cons, List.length_nil]; omega))⟩ (own_ln_nat (by first | omega | (simp only [List.length_append, List.length_cons, List.length_nil]; omega))) (by rw [own_pc_len (by first | omega | (simp only [List.length_append, List.length_cons, List.length_nil]; omega))]; exact (by first | omega | (simp only [List.length_append, List.length_cons, List.length_nil]; omega))) (own_pc_set _ (by first | omega | (simp only [List.length_append, List.length_cons, List.length_nil]; omega))) (y d37_63) (fun T15 h15 X15 e15 W15 A15 => ?_)
      have N15 := Fr.snoc X15 N14 H2
      have P15 := (Keep.refl h0 [oa]).wr W15 (Or.inl (List.mem_of_getElem? (i := 0) rfl))
      have A15v : Arv Z h15 oa ok1 .char (13 : Int32) (own_pc ((L0) ++ [own_low c2])) (.int 0) := A15
      refine og2 X15 hx (fun j _ k => o_iload j (y d37_64) rfl <| o_iconstV j 1 (y d37_66) rfl <| o_iadd j (y d37_67) <| k) ?_
      rw [(own_ln_app (L0) (own_low c2))]
      exact rI X15 hx Bd (y d37_68) e15 ⟨(by rw [(own_nx1 (Decidable.not_not.mp (mt (own_kk H5).mpr C2)) (Or.inr C3))]), N15, P15, (by rw [(own_nx1 (Decidable.not_not.mp (mt (own_kk H5).mpr C2)) (Or.inr C3))]; exact A15v)⟩

def QPU3 (Z : State) (aa : Addr) (ak : ClassId) (oa : Addr) (ok1 : ClassId) (qn : Int32) (c0 : Int32) (c1 : Int32) (c2 : Int32) (c3 : Int32) (c4 : Int32) (L0 : List Int32) (h0 : Heap) (n0 : Nat) (v : Option Value) (h : Heap) (L : List Loc) : Prop := v = some (.int (own_ln (own_nx L0 (own_sp (own_low c2)) (own_low c3)))) ∧ Fr n0 L ∧ Keep h0 h [oa] ∧ Arv Z h oa ok1 .char (13 : Int32) (own_pc (own_nx L0 (own_sp (own_low c2)) (own_low c3))) (.int 0)
theorem rmPU3 (l : Launch) (Z : State) (a0 : Array Value) (hw : HW a0 Z) (ws : List Jvm.Cond) (aa : Addr) (ak : ClassId) (oa : Addr) (ok1 : ClassId) (qn : Int32) (c0 : Int32) (c1 : Int32) (c2 : Int32) (c3 : Int32) (c4 : Int32) (L0 : List Int32) (h0 : Heap) (n0 : Nat) (Z0 : n0 ≤ h0.size) (pr0 : Arv Z h0 aa ak .char (5 : Int32) [(.int c0), (.int c1), (.int c2), (.int c3), (.int c4)] (.int 0)) (pr1 : Arv Z h0 oa ok1 .char (13 : Int32) (own_pc (L0)) (.int 0)) (H2 : n0 ≤ oa) (H3 : (3 : Int32) < qn) (H4 : L0.length < 12) (H5 : OB c3) (H6 : aa ≠ oa) (H7 : OB c2) :
    MF l Z ⟨"com/example/obieg/obieg/ChoiceIdOfPinLaw", "put", "([CII[CI)I"⟩ method_5_code 6 (some .int) ws R_1_0_0_14 #[(.ref aa), (.int qn), (.int 3), (.ref oa), (.int (own_ln L0))] h0 (QPU3 Z aa ak oa ok1 qn c0 c1 c2 c3 c4 L0 h0 n0) := by
  refine og_start (plainFor_of_name pn_com_example_obieg_obieg_ChoiceIdOfPinLaw) fun p e s m below meth c s₁ Bd hx hby hml hZ hown hnm X0 e0 => ?_
  have y := @hb _ _ hby
  have w := @wd _ _ hw
  refine og (fun t k => castTop (ef1 m aa qn (3 : Int32) oa (own_ln L0)) k) ?_
  refine og2 X0 hx (fun j _ k => o_iloadN j (y d37_0) rfl <| o_iloadN j (y d37_1) rfl <| o_icmpNo j (y d37_2) (XT.ii_ge_f H3) <| o_aloadN j (y d37_5) rfl rfl <| o_iloadN j (y d37_6) rfl <| o_caload (v := (.int c3)) X0 hx hZ e0 pr0 ⟨by decide, by decide⟩ rfl (y d37_7) <| k) ?_
  refine cS [(.int c3)] [] 0 X0 hx hZ hown (w 196 rfl) (w 197 rfl) (w 194 rfl) (w 198 rfl) (rmKE l Z a0 hw [] c3 h0 n0 Z0) e0 hml pd_oCcZ (y d37_8) (fun v1 T1 L1 hQ1 X1 => ?_)
  obtain ⟨rfl, N1a, eh1⟩ := hQ1
  have N1 := Fr.app (Fr.nil n0) N1a
  have e1 : T1.heap = h0 := eh1
  by_cases C2 : own_kept c3 = 0
  · refine og2 X1 hx (fun j _ k => o_ifNo j (y d37_11) (XT.i0_ne_f C2) <| o_iload j (y d37_14) rfl <| k) ?_
    exact rI X1 hx Bd (y d37_16) e1 ⟨(by rw [(own_nx0 ((own_kk H5).mp C2))]), N1, (Keep.refl h0 [oa]), (by rw [(own_nx0 ((own_kk H5).mp C2))]; exact pr1)⟩
  · refine og2 X1 hx (fun j _ k => o_ifYes j (pc' := 17) (y d37_11) (XT.i0_ne_t C2) <| o_iload j (y d37_17) rfl <| o_istore j (y d37_19) (l' := #[.val (.ref aa), .val (.int qn), .val (.int 3), .val (.ref oa), .val (.int (own_ln L0)), .val (.int (own_ln L0))]) rfl <| o_iload j (y d37_21) rfl <| o_iconstV j 3 (y d37_23) rfl <| k) ?_
    by_cases C3 : (3 : Int32) < (own_ln L0)
    · refine og2 X1 hx (fun j _ k => o_icmpNo j (y d37_24) (XT.ii_le_f C3) <| o_iloadN j (y d37_27) rfl <| o_ifNo j (y d37_28) (by decide) <| o_aloadN j (y d37_31) rfl rfl <| o_iloadN j (y d37_32) rfl <| o_iconstV j 1 (y d37_33) rfl <| o_isub j (y d37_34) <| k) ?_
      rw [(by decide : (3 : Int32) - (1 : Int32) = (2 : Int32))]
      refine og (fun _ k => o_caload (v := (.int c2)) X1 hx hZ e1 pr0 ⟨by decide, by decide⟩ rfl (y d37_35) <| k) ?_
      refine cS [(.int c2)] [] 0 X1 hx hZ hown (w 196 rfl) (w 197 rfl) (w 194 rfl) (w 198 rfl) (rmKE l Z a0 hw [] c2 h0 n0 Z0) e1 hml pd_oCcZ (y d37_36) (fun v4 T4 L4 hQ4 X4 => ?_)
      obtain ⟨rfl, N4a, eh4⟩ := hQ4
      have N4 := Fr.app N1 N4a
      have e4 : T4.heap = h0 := eh4
      by_cases C5 : own_kept c2 = 0
      · refine og2 X4 hx (fun j _ k => o_ifNo j (y d37_39) (XT.i0_ne_f C5) <| o_aloadN j (y d37_42) rfl rfl <| o_iload j (y d37_43) rfl <| o_bipushV j 95 (y d37_45) rfl <| k) ?_
        refine sCs (v := (95 : Int32)) (L0.length) X4 hx hZ e4 pr1 (by decide) ⟨own_ln0 (by omega), own_ln13 (by omega)⟩ (own_ln_nat (by omega)) (by rw [own_pc_len (by omega)]; omega) (own_pc_set _ (by omega)) (y d37_47) (fun T6 h6 X6 e6 W6 A6 => ?_)
        have N6 := Fr.snoc X6 N4 H2
        have P6 := (Keep.refl h0 [oa]).wr W6 (Or.inl (List.mem_of_getElem? (i := 0) rfl))
        have Z6 : n0 ≤ h6.size := (by rw [W6.size]; exact Z0)
        have A7 := (pr0.other W6 H6)
        have A6v : Arv Z h6 oa ok1 .char (13 : Int32) (own_pc (L0 ++ [(95 : Int32)])) (.int 0) := A6
        refine og2 X6 hx (fun j _ k => o_iload j (y d37_48) rfl <| o_iconstV j 1 (y d37_50) rfl <| o_iadd j (y d37_51) <| k) ?_
        rw [(own_ln_app L0 (95 : Int32))]
        refine og2 X6 hx (fun j _ k => o_istore j (y d37_52) (l' := #[.val (.ref aa), .val (.int qn), .val (.int 3), .val (.ref oa), .val (.int (own_ln L0)), .val (.int (own_ln (L0 ++ [(95 : Int32)])))]) rfl <| o_aloadN j (y d37_54) rfl rfl <| o_iload j (y d37_55) rfl <| o_aloadN j (y d37_57) rfl rfl <| o_iloadN j (y d37_58) rfl <| o_caload (v := (.int c3)) X6 hx hZ e6 A7 ⟨by decide, by decide⟩ rfl (y d37_59) <| k) ?_
        refine cS [(.int c3)] [(.int (own_ln (L0 ++ [(95 : Int32)]))), (.ref oa)] 2 X6 hx hZ hown (w 220 rfl) (w 221 rfl) (w 194 rfl) (w 222 rfl) (rmLW l Z a0 hw [] c3 h6 n0 Z6 H5) e6 hml pd_oCcC (y d37_60) (fun v8 T8 L8 hQ8 X8 => ?_)
        obtain ⟨rfl, N8a, eh8⟩ := hQ8
        have N8 := Fr.app N6 N8a
        have e8 : T8.heap = h6 := eh8
        refine sCs (v := own_low c3) ((L0 ++ [(95 : Int32)]).length) X8 hx hZ e8 A6v ((own_lower_ch H5).trans (own_ll H5 C2)) ⟨own_ln0 (by first | omega | (simp only [List.length_append, List.length_cons, List.length_nil]; omega)), own_ln13 (by first | omega | (simp only [List.length_append, List.length_cons, List.length_nil]; omega))⟩ (own_ln_nat (by first | omega | (simp only [List.length_append, List.length_cons, List.length_nil]; omega))) (by rw [own_pc_len (by first | omega | (simp only [List.length_append, List.length_cons, List.length_nil]; omega))]; exact (by first | omega | (simp only [List.length_append, List.length_cons, List.length_nil]; omega))) (own_pc_set _ (by first | omega | (simp only [List.length_append, List.length_cons, List.length_nil]; omega))) (y d37_63) (fun T9 h9 X9 e9 W9 A9 => ?_)
        have N9 := Fr.snoc X9 N8 H2
        have P9 := P6.wr W9 (Or.inl (List.mem_of_getElem? (i := 0) rfl))
        have A9v : Arv Z h9 oa ok1 .char (13 : Int32) (own_pc ((L0 ++ [(95 : Int32)]) ++ [own_low c3])) (.int 0) := A9
        refine og2 X9 hx (fun j _ k => o_iload j (y d37_64) rfl <| o_iconstV j 1 (y d37_66) rfl <| o_iadd j (y d37_67) <| k) ?_
        rw [(own_ln_app (L0 ++ [(95 : Int32)]) (own_low c3))]
        exact rI X9 hx Bd (y d37_68) e9 ⟨(by rw [(own_nx2 (Decidable.not_not.mp (mt (own_kk H5).mpr C2)) (by rw [own_sp1 ((own_kk H7).mp C5)]; decide) C3)]), N9, P9, (by rw [(own_nx2 (Decidable.not_not.mp (mt (own_kk H5).mpr C2)) (by rw [own_sp1 ((own_kk H7).mp C5)]; decide) C3)]; exact A9v)⟩
      · refine og2 X4 hx (fun j _ k => o_ifYes j (pc' := 54) (y d37_39) (XT.i0_ne_t C5) <| o_aloadN j (y d37_54) rfl rfl <| o_iload j (y d37_55) rfl <| o_aloadN j (y d37_57) rfl rfl <| o_iloadN j (y d37_58) rfl <| o_caload (v := (.int c3)) X4 hx hZ e4 pr0 ⟨by decide, by decide⟩ rfl (y d37_59) <| k) ?_
        refine cS [(.int c3)] [(.int (own_ln L0)), (.ref oa)] 2 X4 hx hZ hown (w 220 rfl) (w 221 rfl) (w 194 rfl) (w 222 rfl) (rmLW l Z a0 hw [] c3 h0 n0 Z0 H5) e4 hml pd_oCcC (y d37_60) (fun v11 T11 L11 hQ11 X11 => ?_)
        obtain ⟨rfl, N11a, eh11⟩ := hQ11
        have N11 := Fr.app N4 N11a
        have e11 : T11.heap = h0 := eh11
        refine sCs (v := own_low c3) ((L0).length) X11 hx hZ e11 pr1 ((own_lower_ch H5).trans (own_ll H5 C2)) ⟨own_ln0 (by first | omega | (simp only [List.length_append, List.length_cons, List.length_nil]; omega)), own_ln13 (by first | omega | (simp only [List.length_append, List.length_cons, List.length_nil]; omega))⟩ (own_ln_nat (by first | omega | (simp only [List.length_append, List.length_cons, List.length_nil]; omega))) (by rw [own_pc_len (by first | omega | (simp only [List.length_append, List.length_cons, List.length_nil]; omega))]; exact (by first | omega | (simp only [List.length_append, List.length_cons, List.length_nil]; omega))) (own_pc_set _ (by first | omega | (simp only [List.length_append, List.length_cons, List.length_nil]; omega))) (y d37_63) (fun T12 h12 X12 e12 W12 A12 => ?_)
        have N12 := Fr.snoc X12 N11 H2
        have P12 := (Keep.refl h0 [oa]).wr W12 (Or.inl (List.mem_of_getElem? (i := 0) rfl))
        have A12v : Arv Z h12 oa ok1 .char (13 : Int32) (own_pc ((L0) ++ [own_low c3])) (.int 0) := A12
        refine og2 X12 hx (fun j _ k => o_iload j (y d37_64) rfl <| o_iconstV j 1 (y d37_66) rfl <| o_iadd j (y d37_67) <| k) ?_
        rw [(own_ln_app (L0) (own_low c3))]
        exact rI X12 hx Bd (y d37_68) e12 ⟨(by rw [(own_nx1 (Decidable.not_not.mp (mt (own_kk H5).mpr C2)) (Or.inl (own_sp0 (Decidable.not_not.mp (mt (own_kk H7).mpr C5)))))]), N12, P12, (by rw [(own_nx1 (Decidable.not_not.mp (mt (own_kk H5).mpr C2)) (Or.inl (own_sp0 (Decidable.not_not.mp (mt (own_kk H7).mpr C5)))))]; exact A12v)⟩
    · refine og2 X1 hx (fun j _ k => o_icmpYes j (pc' := 54) (y d37_24) (XT.ii_le_t C3) <| o_aloadN j (y d37_54) rfl rfl <| o_iload j (y d37_55) rfl <| o_aloadN j (y d37_57) rfl rfl <| o_iloadN j (y d37_58) rfl <| o_caload (v := (.int c3)) X1 hx hZ e1 pr0 ⟨by decide, by decide⟩ rfl (y d37_59) <| k) ?_
      refine cS [(.int c3)] [(.int (own_ln L0)), (.ref oa)] 2 X1 hx hZ hown (w 220 rfl) (w 221 rfl) (w 194 rfl) (w 222 rfl) (rmLW l Z a0 hw [] c3 h0 n0 Z0 H5) e1 hml pd_oCcC (y d37_60) (fun v14 T14 L14 hQ14 X14 => ?_)
      obtain ⟨rfl, N14a, eh14⟩ := hQ14
      have N14 := Fr.app N1 N14a
      have e14 : T14.heap = h0 := eh14
      refine sCs (v := own_low c3) ((L0).length) X14 hx hZ e14 pr1 ((own_lower_ch H5).trans (own_ll H5 C2)) ⟨own_ln0 (by first | omega | (simp only [List.length_append, List.length_cons, List.length_nil]; omega)), own_ln13 (by first | omega | (simp only [List.length_append, List.length_cons, List.length_nil]; omega))⟩ (own_ln_nat (by first | omega | (simp only [List.length_append, List.length_cons, List.length_nil]; omega))) (by rw [own_pc_len (by first | omega | (simp only [List.length_append, List.length_cons, List.length_nil]; omega))]; exact (by first | omega | (simp only [List.length_append, List.length_cons, List.length_nil]; omega))) (own_pc_set _ (by first | omega | (simp only [List.length_append, List.length_cons, List.length_nil]; omega))) (y d37_63) (fun T15 h15 X15 e15 W15 A15 => ?_)
      have N15 := Fr.snoc X15 N14 H2
      have P15 := (Keep.refl h0 [oa]).wr W15 (Or.inl (List.mem_of_getElem? (i := 0) rfl))
      have A15v : Arv Z h15 oa ok1 .char (13 : Int32) (own_pc ((L0) ++ [own_low c3])) (.int 0) := A15
      refine og2 X15 hx (fun j _ k => o_iload j (y d37_64) rfl <| o_iconstV j 1 (y d37_66) rfl <| o_iadd j (y d37_67) <| k) ?_
      rw [(own_ln_app (L0) (own_low c3))]
      exact rI X15 hx Bd (y d37_68) e15 ⟨(by rw [(own_nx1 (Decidable.not_not.mp (mt (own_kk H5).mpr C2)) (Or.inr C3))]), N15, P15, (by rw [(own_nx1 (Decidable.not_not.mp (mt (own_kk H5).mpr C2)) (Or.inr C3))]; exact A15v)⟩

def QPU4 (Z : State) (aa : Addr) (ak : ClassId) (oa : Addr) (ok1 : ClassId) (qn : Int32) (c0 : Int32) (c1 : Int32) (c2 : Int32) (c3 : Int32) (c4 : Int32) (L0 : List Int32) (h0 : Heap) (n0 : Nat) (v : Option Value) (h : Heap) (L : List Loc) : Prop := v = some (.int (own_ln (own_nx L0 (own_sp (own_low c3)) (own_low c4)))) ∧ Fr n0 L ∧ Keep h0 h [oa] ∧ Arv Z h oa ok1 .char (13 : Int32) (own_pc (own_nx L0 (own_sp (own_low c3)) (own_low c4))) (.int 0)
theorem rmPU4 (l : Launch) (Z : State) (a0 : Array Value) (hw : HW a0 Z) (ws : List Jvm.Cond) (aa : Addr) (ak : ClassId) (oa : Addr) (ok1 : ClassId) (qn : Int32) (c0 : Int32) (c1 : Int32) (c2 : Int32) (c3 : Int32) (c4 : Int32) (L0 : List Int32) (h0 : Heap) (n0 : Nat) (Z0 : n0 ≤ h0.size) (pr0 : Arv Z h0 aa ak .char (5 : Int32) [(.int c0), (.int c1), (.int c2), (.int c3), (.int c4)] (.int 0)) (pr1 : Arv Z h0 oa ok1 .char (13 : Int32) (own_pc (L0)) (.int 0)) (H2 : n0 ≤ oa) (H3 : (4 : Int32) < qn) (H4 : L0.length < 12) (H5 : OB c4) (H6 : aa ≠ oa) (H7 : OB c3) :
    MF l Z ⟨"com/example/obieg/obieg/ChoiceIdOfPinLaw", "put", "([CII[CI)I"⟩ method_5_code 6 (some .int) ws R_1_0_0_14 #[(.ref aa), (.int qn), (.int 4), (.ref oa), (.int (own_ln L0))] h0 (QPU4 Z aa ak oa ok1 qn c0 c1 c2 c3 c4 L0 h0 n0) := by
  refine og_start (plainFor_of_name pn_com_example_obieg_obieg_ChoiceIdOfPinLaw) fun p e s m below meth c s₁ Bd hx hby hml hZ hown hnm X0 e0 => ?_
  have y := @hb _ _ hby
  have w := @wd _ _ hw
  refine og (fun t k => castTop (ef1 m aa qn (4 : Int32) oa (own_ln L0)) k) ?_
  refine og2 X0 hx (fun j _ k => o_iloadN j (y d37_0) rfl <| o_iloadN j (y d37_1) rfl <| o_icmpNo j (y d37_2) (XT.ii_ge_f H3) <| o_aloadN j (y d37_5) rfl rfl <| o_iloadN j (y d37_6) rfl <| o_caload (v := (.int c4)) X0 hx hZ e0 pr0 ⟨by decide, by decide⟩ rfl (y d37_7) <| k) ?_
  refine cS [(.int c4)] [] 0 X0 hx hZ hown (w 196 rfl) (w 197 rfl) (w 194 rfl) (w 198 rfl) (rmKE l Z a0 hw [] c4 h0 n0 Z0) e0 hml pd_oCcZ (y d37_8) (fun v1 T1 L1 hQ1 X1 => ?_)
  obtain ⟨rfl, N1a, eh1⟩ := hQ1
  have N1 := Fr.app (Fr.nil n0) N1a
  have e1 : T1.heap = h0 := eh1
  by_cases C2 : own_kept c4 = 0
  · refine og2 X1 hx (fun j _ k => o_ifNo j (y d37_11) (XT.i0_ne_f C2) <| o_iload j (y d37_14) rfl <| k) ?_
    exact rI X1 hx Bd (y d37_16) e1 ⟨(by rw [(own_nx0 ((own_kk H5).mp C2))]), N1, (Keep.refl h0 [oa]), (by rw [(own_nx0 ((own_kk H5).mp C2))]; exact pr1)⟩
  · refine og2 X1 hx (fun j _ k => o_ifYes j (pc' := 17) (y d37_11) (XT.i0_ne_t C2) <| o_iload j (y d37_17) rfl <| o_istore j (y d37_19) (l' := #[.val (.ref aa), .val (.int qn), .val (.int 4), .val (.ref oa), .val (.int (own_ln L0)), .val (.int (own_ln L0))]) rfl <| o_iload j (y d37_21) rfl <| o_iconstV j 3 (y d37_23) rfl <| k) ?_
    by_cases C3 : (3 : Int32) < (own_ln L0)
    · refine og2 X1 hx (fun j _ k => o_icmpNo j (y d37_24) (XT.ii_le_f C3) <| o_iloadN j (y d37_27) rfl <| o_ifNo j (y d37_28) (by decide) <| o_aloadN j (y d37_31) rfl rfl <| o_iloadN j (y d37_32) rfl <| o_iconstV j 1 (y d37_33) rfl <| o_isub j (y d37_34) <| k) ?_
      rw [(by decide : (4 : Int32) - (1 : Int32) = (3 : Int32))]
      refine og (fun _ k => o_caload (v := (.int c3)) X1 hx hZ e1 pr0 ⟨by decide, by decide⟩ rfl (y d37_35) <| k) ?_
      refine cS [(.int c3)] [] 0 X1 hx hZ hown (w 196 rfl) (w 197 rfl) (w 194 rfl) (w 198 rfl) (rmKE l Z a0 hw [] c3 h0 n0 Z0) e1 hml pd_oCcZ (y d37_36) (fun v4 T4 L4 hQ4 X4 => ?_)
      obtain ⟨rfl, N4a, eh4⟩ := hQ4
      have N4 := Fr.app N1 N4a
      have e4 : T4.heap = h0 := eh4
      by_cases C5 : own_kept c3 = 0
      · refine og2 X4 hx (fun j _ k => o_ifNo j (y d37_39) (XT.i0_ne_f C5) <| o_aloadN j (y d37_42) rfl rfl <| o_iload j (y d37_43) rfl <| o_bipushV j 95 (y d37_45) rfl <| k) ?_
        refine sCs (v := (95 : Int32)) (L0.length) X4 hx hZ e4 pr1 (by decide) ⟨own_ln0 (by omega), own_ln13 (by omega)⟩ (own_ln_nat (by omega)) (by rw [own_pc_len (by omega)]; omega) (own_pc_set _ (by omega)) (y d37_47) (fun T6 h6 X6 e6 W6 A6 => ?_)
        have N6 := Fr.snoc X6 N4 H2
        have P6 := (Keep.refl h0 [oa]).wr W6 (Or.inl (List.mem_of_getElem? (i := 0) rfl))
        have Z6 : n0 ≤ h6.size := (by rw [W6.size]; exact Z0)
        have A7 := (pr0.other W6 H6)
        have A6v : Arv Z h6 oa ok1 .char (13 : Int32) (own_pc (L0 ++ [(95 : Int32)])) (.int 0) := A6
        refine og2 X6 hx (fun j _ k => o_iload j (y d37_48) rfl <| o_iconstV j 1 (y d37_50) rfl <| o_iadd j (y d37_51) <| k) ?_
        rw [(own_ln_app L0 (95 : Int32))]
        refine og2 X6 hx (fun j _ k => o_istore j (y d37_52) (l' := #[.val (.ref aa), .val (.int qn), .val (.int 4), .val (.ref oa), .val (.int (own_ln L0)), .val (.int (own_ln (L0 ++ [(95 : Int32)])))]) rfl <| o_aloadN j (y d37_54) rfl rfl <| o_iload j (y d37_55) rfl <| o_aloadN j (y d37_57) rfl rfl <| o_iloadN j (y d37_58) rfl <| o_caload (v := (.int c4)) X6 hx hZ e6 A7 ⟨by decide, by decide⟩ rfl (y d37_59) <| k) ?_
        refine cS [(.int c4)] [(.int (own_ln (L0 ++ [(95 : Int32)]))), (.ref oa)] 2 X6 hx hZ hown (w 220 rfl) (w 221 rfl) (w 194 rfl) (w 222 rfl) (rmLW l Z a0 hw [] c4 h6 n0 Z6 H5) e6 hml pd_oCcC (y d37_60) (fun v8 T8 L8 hQ8 X8 => ?_)
        obtain ⟨rfl, N8a, eh8⟩ := hQ8
        have N8 := Fr.app N6 N8a
        have e8 : T8.heap = h6 := eh8
        refine sCs (v := own_low c4) ((L0 ++ [(95 : Int32)]).length) X8 hx hZ e8 A6v ((own_lower_ch H5).trans (own_ll H5 C2)) ⟨own_ln0 (by first | omega | (simp only [List.length_append, List.length_cons, List.length_nil]; omega)), own_ln13 (by first | omega | (simp only [List.length_append, List.length_cons, List.length_nil]; omega))⟩ (own_ln_nat (by first | omega | (simp only [List.length_append, List.length_cons, List.length_nil]; omega))) (by rw [own_pc_len (by first | omega | (simp only [List.length_append, List.length_cons, List.length_nil]; omega))]; exact (by first | omega | (simp only [List.length_append, List.length_cons, List.length_nil]; omega))) (own_pc_set _ (by first | omega | (simp only [List.length_append, List.length_cons, List.length_nil]; omega))) (y d37_63) (fun T9 h9 X9 e9 W9 A9 => ?_)
        have N9 := Fr.snoc X9 N8 H2
        have P9 := P6.wr W9 (Or.inl (List.mem_of_getElem? (i := 0) rfl))
        have A9v : Arv Z h9 oa ok1 .char (13 : Int32) (own_pc ((L0 ++ [(95 : Int32)]) ++ [own_low c4])) (.int 0) := A9
        refine og2 X9 hx (fun j _ k => o_iload j (y d37_64) rfl <| o_iconstV j 1 (y d37_66) rfl <| o_iadd j (y d37_67) <| k) ?_
        rw [(own_ln_app (L0 ++ [(95 : Int32)]) (own_low c4))]
        exact rI X9 hx Bd (y d37_68) e9 ⟨(by rw [(own_nx2 (Decidable.not_not.mp (mt (own_kk H5).mpr C2)) (by rw [own_sp1 ((own_kk H7).mp C5)]; decide) C3)]), N9, P9, (by rw [(own_nx2 (Decidable.not_not.mp (mt (own_kk H5).mpr C2)) (by rw [own_sp1 ((own_kk H7).mp C5)]; decide) C3)]; exact A9v)⟩
      · refine og2 X4 hx (fun j _ k => o_ifYes j (pc' := 54) (y d37_39) (XT.i0_ne_t C5) <| o_aloadN j (y d37_54) rfl rfl <| o_iload j (y d37_55) rfl <| o_aloadN j (y d37_57) rfl rfl <| o_iloadN j (y d37_58) rfl <| o_caload (v := (.int c4)) X4 hx hZ e4 pr0 ⟨by decide, by decide⟩ rfl (y d37_59) <| k) ?_
        refine cS [(.int c4)] [(.int (own_ln L0)), (.ref oa)] 2 X4 hx hZ hown (w 220 rfl) (w 221 rfl) (w 194 rfl) (w 222 rfl) (rmLW l Z a0 hw [] c4 h0 n0 Z0 H5) e4 hml pd_oCcC (y d37_60) (fun v11 T11 L11 hQ11 X11 => ?_)
        obtain ⟨rfl, N11a, eh11⟩ := hQ11
        have N11 := Fr.app N4 N11a
        have e11 : T11.heap = h0 := eh11
        refine sCs (v := own_low c4) ((L0).length) X11 hx hZ e11 pr1 ((own_lower_ch H5).trans (own_ll H5 C2)) ⟨own_ln0 (by first | omega | (simp only [List.length_append, List.length_cons, List.length_nil]; omega)), own_ln13 (by first | omega | (simp only [List.length_append, List.length_cons, List.length_nil]; omega))⟩ (own_ln_nat (by first | omega | (simp only [List.length_append, List.length_cons, List.length_nil]; omega))) (by rw [own_pc_len (by first | omega | (simp only [List.length_append, List.length_cons, List.length_nil]; omega))]; exact (by first | omega | (simp only [List.length_append, List.length_cons, List.length_nil]; omega))) (own_pc_set _ (by first | omega | (simp only [List.length_append, List.length_cons, List.length_nil]; omega))) (y d37_63) (fun T12 h12 X12 e12 W12 A12 => ?_)
        have N12 := Fr.snoc X12 N11 H2
        have P12 := (Keep.refl h0 [oa]).wr W12 (Or.inl (List.mem_of_getElem? (i := 0) rfl))
        have A12v : Arv Z h12 oa ok1 .char (13 : Int32) (own_pc ((L0) ++ [own_low c4])) (.int 0) := A12
        refine og2 X12 hx (fun j _ k => o_iload j (y d37_64) rfl <| o_iconstV j 1 (y d37_66) rfl <| o_iadd j (y d37_67) <| k) ?_
        rw [(own_ln_app (L0) (own_low c4))]
        exact rI X12 hx Bd (y d37_68) e12 ⟨(by rw [(own_nx1 (Decidable.not_not.mp (mt (own_kk H5).mpr C2)) (Or.inl (own_sp0 (Decidable.not_not.mp (mt (own_kk H7).mpr C5)))))]), N12, P12, (by rw [(own_nx1 (Decidable.not_not.mp (mt (own_kk H5).mpr C2)) (Or.inl (own_sp0 (Decidable.not_not.mp (mt (own_kk H7).mpr C5)))))]; exact A12v)⟩
    · refine og2 X1 hx (fun j _ k => o_icmpYes j (pc' := 54) (y d37_24) (XT.ii_le_t C3) <| o_aloadN j (y d37_54) rfl rfl <| o_iload j (y d37_55) rfl <| o_aloadN j (y d37_57) rfl rfl <| o_iloadN j (y d37_58) rfl <| o_caload (v := (.int c4)) X1 hx hZ e1 pr0 ⟨by decide, by decide⟩ rfl (y d37_59) <| k) ?_
      refine cS [(.int c4)] [(.int (own_ln L0)), (.ref oa)] 2 X1 hx hZ hown (w 220 rfl) (w 221 rfl) (w 194 rfl) (w 222 rfl) (rmLW l Z a0 hw [] c4 h0 n0 Z0 H5) e1 hml pd_oCcC (y d37_60) (fun v14 T14 L14 hQ14 X14 => ?_)
      obtain ⟨rfl, N14a, eh14⟩ := hQ14
      have N14 := Fr.app N1 N14a
      have e14 : T14.heap = h0 := eh14
      refine sCs (v := own_low c4) ((L0).length) X14 hx hZ e14 pr1 ((own_lower_ch H5).trans (own_ll H5 C2)) ⟨own_ln0 (by first | omega | (simp only [List.length_append, List.length_cons, List.length_nil]; omega)), own_ln13 (by first | omega | (simp only [List.length_append, List.length_cons, List.length_nil]; omega))⟩ (own_ln_nat (by first | omega | (simp only [List.length_append, List.length_cons, List.length_nil]; omega))) (by rw [own_pc_len (by first | omega | (simp only [List.length_append, List.length_cons, List.length_nil]; omega))]; exact (by first | omega | (simp only [List.length_append, List.length_cons, List.length_nil]; omega))) (own_pc_set _ (by first | omega | (simp only [List.length_append, List.length_cons, List.length_nil]; omega))) (y d37_63) (fun T15 h15 X15 e15 W15 A15 => ?_)
      have N15 := Fr.snoc X15 N14 H2
      have P15 := (Keep.refl h0 [oa]).wr W15 (Or.inl (List.mem_of_getElem? (i := 0) rfl))
      have A15v : Arv Z h15 oa ok1 .char (13 : Int32) (own_pc ((L0) ++ [own_low c4])) (.int 0) := A15
      refine og2 X15 hx (fun j _ k => o_iload j (y d37_64) rfl <| o_iconstV j 1 (y d37_66) rfl <| o_iadd j (y d37_67) <| k) ?_
      rw [(own_ln_app (L0) (own_low c4))]
      exact rI X15 hx Bd (y d37_68) e15 ⟨(by rw [(own_nx1 (Decidable.not_not.mp (mt (own_kk H5).mpr C2)) (Or.inr C3))]), N15, P15, (by rw [(own_nx1 (Decidable.not_not.mp (mt (own_kk H5).mpr C2)) (Or.inr C3))]; exact A15v)⟩

abbrev k12 := jdk_42_method_154_code
theorem d9_0 : decode k12 0 = .ok (.getstatic 38, 3) := by decide +kernel
theorem d9_3 : decode k12 3 = .ok (.ifCond .eq 14, 3) := by decide +kernel
theorem d9_6 : decode k12 6 = .ok (.aload_n 0, 1) := by decide +kernel
theorem d9_7 : decode k12 7 = .ok (.getfield 15, 3) := by decide +kernel
theorem d9_10 : decode k12 10 = .ok (.ifCond .ne 7, 3) := by decide +kernel
theorem d9_13 : decode k12 13 = .ok (.iconst 1, 1) := by decide +kernel
theorem d9_14 : decode k12 14 = .ok (.goto 4, 3) := by decide +kernel
theorem d9_18 : decode k12 18 = .ok (.ireturn, 1) := by decide +kernel
theorem pn_java_lang_String : plainName "java/lang/String" = true := by first | (simp [plainName, overriddenIn]; done) | decide +kernel
theorem ef2 (m : MethodId) (x0 : Addr) : entryFrame m #[(.ref x0)] 1 = (mkF m 0 #[.val (.ref x0)] []) := by first | (simp [entryFrame, mkF, argsToLocals, Value.category]; done) | rfl
def QIL (Z : State) (cs : Int32) (fm : Value) (lo : Addr) (bl : Addr) (la : Addr) (lb : Addr) (li : Addr) (sa : Addr) (h0 : Heap) (n0 : Nat) (v : Option Value) (h : Heap) (L : List Loc) : Prop := v = some (.int 1) ∧ Fr n0 L ∧ h = h0
theorem rmIL (l : Launch) (Z : State) (a0 : Array Value) (hw : HW a0 Z) (ws : List Jvm.Cond) (cs : Int32) (fm : Value) (lo : Addr) (bl : Addr) (la : Addr) (lb : Addr) (li : Addr) (sa : Addr) (h0 : Heap) (n0 : Nat) (Z0 : n0 ≤ h0.size) (H0 : OSt Z cs fm lo bl la lb li) (pr1 : Old Z n0 h0) (pr2 : Fld Z h0 sa "java/lang/String" "coder" "B" (.int 0)) :
    MF l Z ⟨"java/lang/String", "isLatin1", "()Z"⟩ jdk_42_method_154_code 1 (some .boolean) ws R_0_0_0_0 #[(.ref sa)] h0 (QIL Z cs fm lo bl la lb li sa h0 n0) := by
  refine og_start (plainFor_of_name pn_java_lang_String) fun p e s m below meth c s₁ Bd hx hby hml hZ hown hnm X0 e0 => ?_
  have y := @hb _ _ hby
  have w := @wd _ _ hw
  refine og (fun t k => castTop (ef2 m sa) k) ?_
  refine g_getS X0 hx hZ hown (w 14 rfl) e0 (Sta.ext pr1.2 H0.cs) (y d9_0) (fun T1 X1 e1 => ?_)
  refine og2 X1 hx (fun j _ k => o_ifNo j (y d9_3) (XT.i0_eq_f H0.csn) <| o_aloadN j (y d9_6) rfl rfl <| k) ?_
  refine g_getF X1 hx hZ hown (w 26 rfl) e1 pr2 (y d9_7) (fun T2 X2 e2 => ?_)
  refine og2 X2 hx (fun j _ k => o_ifNo j (y d9_10) (by decide) <| o_iconstV j 1 (y d9_13) rfl <| o_goto j (pc' := 18) (y d9_14) <| k) ?_
  exact rN (v := (1 : Int32)) X2 hx Bd (by simp) rfl (y d9_18) e2 ⟨rfl, (Fr.nil n0), rfl⟩

abbrev k11 := jdk_42_method_152_code
theorem d13_0 : decode k11 0 = .ok (.getstatic 38, 3) := by decide +kernel
theorem d13_3 : decode k11 3 = .ok (.ifCond .eq 10, 3) := by decide +kernel
theorem d13_6 : decode k11 6 = .ok (.aload_n 0, 1) := by decide +kernel
theorem d13_7 : decode k11 7 = .ok (.getfield 15, 3) := by decide +kernel
theorem d13_10 : decode k11 10 = .ok (.goto 4, 3) := by decide +kernel
theorem d13_14 : decode k11 14 = .ok (.ireturn, 1) := by decide +kernel
def QCO (Z : State) (cs : Int32) (fm : Value) (lo : Addr) (bl : Addr) (la : Addr) (lb : Addr) (li : Addr) (sa : Addr) (h0 : Heap) (n0 : Nat) (v : Option Value) (h : Heap) (L : List Loc) : Prop := v = some (.int 0) ∧ Fr n0 L ∧ h = h0
theorem rmCO (l : Launch) (Z : State) (a0 : Array Value) (hw : HW a0 Z) (ws : List Jvm.Cond) (cs : Int32) (fm : Value) (lo : Addr) (bl : Addr) (la : Addr) (lb : Addr) (li : Addr) (sa : Addr) (h0 : Heap) (n0 : Nat) (Z0 : n0 ≤ h0.size) (H0 : OSt Z cs fm lo bl la lb li) (pr1 : Old Z n0 h0) (pr2 : Fld Z h0 sa "java/lang/String" "coder" "B" (.int 0)) :
    MF l Z ⟨"java/lang/String", "coder", "()B"⟩ jdk_42_method_152_code 1 (some .byte) ws R_0_0_0_0 #[(.ref sa)] h0 (QCO Z cs fm lo bl la lb li sa h0 n0) := by
  refine og_start (plainFor_of_name pn_java_lang_String) fun p e s m below meth c s₁ Bd hx hby hml hZ hown hnm X0 e0 => ?_
  have y := @hb _ _ hby
  have w := @wd _ _ hw
  refine og (fun t k => castTop (ef2 m sa) k) ?_
  refine g_getS X0 hx hZ hown (w 14 rfl) e0 (Sta.ext pr1.2 H0.cs) (y d13_0) (fun T1 X1 e1 => ?_)
  refine og2 X1 hx (fun j _ k => o_ifNo j (y d13_3) (XT.i0_eq_f H0.csn) <| o_aloadN j (y d13_6) rfl rfl <| k) ?_
  refine g_getF X1 hx hZ hown (w 26 rfl) e1 pr2 (y d13_7) (fun T2 X2 e2 => ?_)
  refine og2 X2 hx (fun j _ k => o_goto j (pc' := 14) (y d13_10) <| k) ?_
  exact rN (v := (0 : Int32)) X2 hx Bd (by simp) rfl (y d13_14) e2 ⟨rfl, (Fr.nil n0), rfl⟩

abbrev R_1_0_0_13 : Room := ({ frames := 1, cells := 0, slots := 0, locals := 13 } : Room)
abbrev k16 := jdk_42_method_54_code
theorem d12_0 : decode k16 0 = .ok (.aload_n 0, 1) := by decide +kernel
theorem d12_1 : decode k16 1 = .ok (.getfield 9, 3) := by decide +kernel
theorem d12_4 : decode k16 4 = .ok (.arraylength, 1) := by decide +kernel
theorem d12_5 : decode k16 5 = .ok (.aload_n 0, 1) := by decide +kernel
theorem d12_6 : decode k16 6 = .ok (.invokevirtual 335, 3) := by decide +kernel
theorem d12_9 : decode k16 9 = .ok (.ishr, 1) := by decide +kernel
theorem d12_10 : decode k16 10 = .ok (.ireturn, 1) := by decide +kernel
theorem pd_ocB : parseMethodDescriptor "()B" = some ⟨[], some .byte⟩ := by decide +kernel
def QLE (Z : State) (cs : Int32) (fm : Value) (lo : Addr) (bl : Addr) (la : Addr) (lb : Addr) (li : Addr) (sa : Addr) (ba : Addr) (bk : ClassId) (qn : Int32) (vs : List Value) (h0 : Heap) (n0 : Nat) (v : Option Value) (h : Heap) (L : List Loc) : Prop := v = some (.int qn) ∧ Fr n0 L ∧ h = h0
theorem rmLE (l : Launch) (Z : State) (a0 : Array Value) (hw : HW a0 Z) (ws : List Jvm.Cond) (cs : Int32) (fm : Value) (lo : Addr) (bl : Addr) (la : Addr) (lb : Addr) (li : Addr) (sa : Addr) (ba : Addr) (bk : ClassId) (qn : Int32) (vs : List Value) (h0 : Heap) (n0 : Nat) (Z0 : n0 ≤ h0.size) (H0 : OSt Z cs fm lo bl la lb li) (pr1 : Old Z n0 h0) (pr2 : Fld Z h0 sa "java/lang/String" "value" "[B" (.ref ba)) (pr3 : Fld Z h0 sa "java/lang/String" "coder" "B" (.int 0)) (pr4 : Exa Z h0 sa "java/lang/String") (pr5 : Arv Z h0 ba bk .byte qn vs (.int 0)) :
    MF l Z ⟨"java/lang/String", "length", "()I"⟩ jdk_42_method_54_code 1 (some .int) ws R_1_0_0_13 #[(.ref sa)] h0 (QLE Z cs fm lo bl la lb li sa ba bk qn vs h0 n0) := by
  refine og_start (plainFor_of_name pn_java_lang_String) fun p e s m below meth c s₁ Bd hx hby hml hZ hown hnm X0 e0 => ?_
  have y := @hb _ _ hby
  have w := @wd _ _ hw
  refine og (fun t k => castTop (ef2 m sa) k) ?_
  refine og2 X0 hx (fun j _ k => o_aloadN j (y d12_0) rfl rfl <| k) ?_
  refine g_getF X0 hx hZ hown (w 28 rfl) e0 pr2 (y d12_1) (fun T1 X1 e1 => ?_)
  refine og2 X1 hx (fun j _ k => o_alen X1 hx hZ e1 pr5 (y d12_4) <| o_aloadN j (y d12_5) rfl rfl <| k) ?_
  refine cV sa [] [(.int qn)] 1 X1 hx hZ hown (w 73 rfl) (w 74 rfl) (w 76 rfl) (w 75 rfl) (w 3 rfl) (w 77 rfl) (rmCO l Z a0 hw [] cs fm lo bl la lb li sa h0 n0 Z0 H0 pr1 pr3) e1 pr4 hml pd_ocB (y d12_6) (fun v2 T2 L2 hQ2 X2 => ?_)
  obtain ⟨rfl, N2a, eh2⟩ := hQ2
  have N2 := Fr.app (Fr.nil n0) N2a
  have e2 : T2.heap = h0 := eh2
  refine og2 X2 hx (fun j _ k => o_ishr j (y d12_9) <| k) ?_
  rw [(own_shr0 _)]
  exact rI X2 hx Bd (y d12_10) e2 ⟨rfl, N2, rfl⟩

abbrev k5 := jdk_41_method_11_code
theorem d25_0 : decode k5 0 = .ok (.iload_n 0, 1) := by decide +kernel
theorem d25_1 : decode k5 1 = .ok (.ifCond .lt 8, 3) := by decide +kernel
theorem d25_4 : decode k5 4 = .ok (.iload_n 0, 1) := by decide +kernel
theorem d25_5 : decode k5 5 = .ok (.iload_n 1, 1) := by decide +kernel
theorem d25_6 : decode k5 6 = .ok (.if_icmp .lt 10, 3) := by decide +kernel
theorem d25_16 : decode k5 16 = .ok (.iload_n 0, 1) := by decide +kernel
theorem d25_17 : decode k5 17 = .ok (.ireturn, 1) := by decide +kernel
theorem pn_jdk_internal_util_Preconditions : plainName "jdk/internal/util/Preconditions" = true := by first | (simp [plainName, overriddenIn]; done) | decide +kernel
theorem ef3 (m : MethodId) (x0 : Int32) (x1 : Int32) (x2 : Value) (hcx2 : x2.category = 1) : entryFrame m #[(.int x0), (.int x1), x2] 3 = (mkF m 0 #[.val (.int x0), .val (.int x1), .val x2] []) := by first | (simp [entryFrame, mkF, argsToLocals, Value.category, hcx2]; done) | rfl | (cases x2 <;> first | rfl | (cases hcx2))
def QPC (Z : State) (cs : Int32) (fm : Value) (lo : Addr) (bl : Addr) (la : Addr) (lb : Addr) (li : Addr) (qi : Int32) (qn : Int32) (h0 : Heap) (n0 : Nat) (v : Option Value) (h : Heap) (L : List Loc) : Prop := v = some (.int qi) ∧ Fr n0 L ∧ h = h0
theorem rmPC (l : Launch) (Z : State) (a0 : Array Value) (hw : HW a0 Z) (ws : List Jvm.Cond) (cs : Int32) (fm : Value) (lo : Addr) (bl : Addr) (la : Addr) (lb : Addr) (li : Addr) (qi : Int32) (qn : Int32) (h0 : Heap) (n0 : Nat) (Z0 : n0 ≤ h0.size) (H0 : OSt Z cs fm lo bl la lb li) (pr1 : Old Z n0 h0) (H2 : ¬ qi < 0) (H3 : qi < qn) :
    MF l Z ⟨"jdk/internal/util/Preconditions", "checkIndex", "(IILjava/util/function/BiFunction;)I"⟩ jdk_41_method_11_code 3 (some .int) ws R_0_0_0_0 #[(.int qi), (.int qn), fm] h0 (QPC Z cs fm lo bl la lb li qi qn h0 n0) := by
  refine og_start (plainFor_of_name pn_jdk_internal_util_Preconditions) fun p e s m below meth c s₁ Bd hx hby hml hZ hown hnm X0 e0 => ?_
  have y := @hb _ _ hby
  refine og (fun t k => castTop (ef3 m qi qn fm (own_fmc H0.fmr)) k) ?_
  refine og2 X0 hx (fun j _ k => o_iloadN j (y d25_0) rfl <| o_ifNo j (y d25_1) (XT.i0_lt_f H2) <| o_iloadN j (y d25_4) rfl <| o_iloadN j (y d25_5) rfl <| o_icmpYes j (pc' := 16) (y d25_6) (XT.ii_lt_t H3) <| o_iloadN j (y d25_16) rfl <| k) ?_
  exact rI X0 hx Bd (y d25_17) e0 ⟨rfl, (Fr.nil n0), rfl⟩

abbrev k13 := jdk_42_method_155_code
theorem d24_0 : decode k13 0 = .ok (.iload_n 0, 1) := by decide +kernel
theorem d24_1 : decode k13 1 = .ok (.iload_n 1, 1) := by decide +kernel
theorem d24_2 : decode k13 2 = .ok (.getstatic 1053, 3) := by decide +kernel
theorem d24_5 : decode k13 5 = .ok (.invokestatic 1059, 3) := by decide +kernel
theorem d24_8 : decode k13 8 = .ok (.pop, 1) := by decide +kernel
theorem d24_9 : decode k13 9 = .ok (.return_, 1) := by decide +kernel
theorem pd_oIILjava_util_function_BiFunctionscI : parseMethodDescriptor "(IILjava/util/function/BiFunction;)I" = some ⟨[.int, .int, (.object "java/util/function/BiFunction")], some .int⟩ := by decide +kernel
theorem ef4 (m : MethodId) (x0 : Int32) (x1 : Int32) : entryFrame m #[(.int x0), (.int x1)] 2 = (mkF m 0 #[.val (.int x0), .val (.int x1)] []) := by first | (simp [entryFrame, mkF, argsToLocals, Value.category]; done) | rfl
def QCX (Z : State) (cs : Int32) (fm : Value) (lo : Addr) (bl : Addr) (la : Addr) (lb : Addr) (li : Addr) (qi : Int32) (qn : Int32) (h0 : Heap) (n0 : Nat) (v : Option Value) (h : Heap) (L : List Loc) : Prop := v = none ∧ Fr n0 L ∧ h = h0
theorem rmCX (l : Launch) (Z : State) (a0 : Array Value) (hw : HW a0 Z) (ws : List Jvm.Cond) (cs : Int32) (fm : Value) (lo : Addr) (bl : Addr) (la : Addr) (lb : Addr) (li : Addr) (qi : Int32) (qn : Int32) (h0 : Heap) (n0 : Nat) (Z0 : n0 ≤ h0.size) (H0 : OSt Z cs fm lo bl la lb li) (pr1 : Old Z n0 h0) (H2 : ¬ qi < 0) (H3 : qi < qn) :
    MF l Z ⟨"java/lang/String", "checkIndex", "(II)V"⟩ jdk_42_method_155_code 2 none ws R_1_0_0_14 #[(.int qi), (.int qn)] h0 (QCX Z cs fm lo bl la lb li qi qn h0 n0) := by
  refine og_start (plainFor_of_name pn_java_lang_String) fun p e s m below meth c s₁ Bd hx hby hml hZ hown hnm X0 e0 => ?_
  have y := @hb _ _ hby
  have w := @wd _ _ hw
  refine og (fun t k => castTop (ef4 m qi qn) k) ?_
  refine og2 X0 hx (fun j _ k => o_iloadN j (y d24_0) rfl <| o_iloadN j (y d24_1) rfl <| k) ?_
  refine g_getS X0 hx hZ hown (w 142 rfl) e0 (Sta.ext pr1.2 H0.fm) (y d24_2) (fun T1 X1 e1 => ?_)
  refine cS [(.int qi), (.int qn), fm] [] 0 X1 hx hZ hown (w 144 rfl) (w 145 rfl) (w 143 rfl) (w 146 rfl) (rmPC l Z a0 hw [] cs fm lo bl la lb li qi qn h0 n0 Z0 H0 pr1 H2 H3) e1 hml pd_oIILjava_util_function_BiFunctionscI (y d24_5) (fun v2 T2 L2 hQ2 X2 => ?_)
  obtain ⟨rfl, N2a, eh2⟩ := hQ2
  have N2 := Fr.app (Fr.nil n0) N2a
  have e2 : T2.heap = h0 := eh2
  refine og2 X2 hx (fun j _ k => o_pop j (y d24_8) rfl <| k) ?_
  exact r0 X2 hx Bd (y d24_9) e2 ⟨rfl, N2, rfl⟩

abbrev R_2_0_0_27 : Room := ({ frames := 2, cells := 0, slots := 0, locals := 27 } : Room)
abbrev k18 := jdk_43_method_2_code
theorem d23_0 : decode k18 0 = .ok (.iload_n 1, 1) := by decide +kernel
theorem d23_1 : decode k18 1 = .ok (.aload_n 0, 1) := by decide +kernel
theorem d23_2 : decode k18 2 = .ok (.arraylength, 1) := by decide +kernel
theorem d23_3 : decode k18 3 = .ok (.invokestatic 9, 3) := by decide +kernel
theorem d23_6 : decode k18 6 = .ok (.aload_n 0, 1) := by decide +kernel
theorem d23_7 : decode k18 7 = .ok (.iload_n 1, 1) := by decide +kernel
theorem d23_8 : decode k18 8 = .ok (.baload, 1) := by decide +kernel
theorem d23_9 : decode k18 9 = .ok (.sipush 255, 3) := by decide +kernel
theorem d23_12 : decode k18 12 = .ok (.iand, 1) := by decide +kernel
theorem d23_13 : decode k18 13 = .ok (.i2c, 1) := by decide +kernel
theorem d23_14 : decode k18 14 = .ok (.ireturn, 1) := by decide +kernel
theorem pd_oIIcV : parseMethodDescriptor "(II)V" = some ⟨[.int, .int], none⟩ := by decide +kernel
theorem pn_java_lang_StringLatin1 : plainName "java/lang/StringLatin1" = true := by first | (simp [plainName, overriddenIn]; done) | decide +kernel
theorem ef5 (m : MethodId) (x0 : Addr) (x1 : Int32) : entryFrame m #[(.ref x0), (.int x1)] 2 = (mkF m 0 #[.val (.ref x0), .val (.int x1)] []) := by first | (simp [entryFrame, mkF, argsToLocals, Value.category]; done) | rfl
def QSC (Z : State) (cs : Int32) (fm : Value) (lo : Addr) (bl : Addr) (la : Addr) (lb : Addr) (li : Addr) (ba : Addr) (bk : ClassId) (L0 : List Int32) (qi : Int32) (h0 : Heap) (n0 : Nat) (v : Option Value) (h : Heap) (L : List Loc) : Prop := v = some (.int (own_at L0 qi)) ∧ Fr n0 L ∧ h = h0
theorem rmSC (l : Launch) (Z : State) (a0 : Array Value) (hw : HW a0 Z) (ws : List Jvm.Cond) (cs : Int32) (fm : Value) (lo : Addr) (bl : Addr) (la : Addr) (lb : Addr) (li : Addr) (ba : Addr) (bk : ClassId) (L0 : List Int32) (qi : Int32) (h0 : Heap) (n0 : Nat) (Z0 : n0 ≤ h0.size) (H0 : OSt Z cs fm lo bl la lb li) (pr1 : Old Z n0 h0) (H2 : ¬ qi < 0) (H3 : qi < own_ln L0) (pr4 : Arv Z h0 ba bk .byte (own_ln L0) (own_vb L0) (.int 0)) (H5 : OL L0) :
    MF l Z ⟨"java/lang/StringLatin1", "charAt", "([BI)C"⟩ jdk_43_method_2_code 2 (some .char) ws R_2_0_0_27 #[(.ref ba), (.int qi)] h0 (QSC Z cs fm lo bl la lb li ba bk L0 qi h0 n0) := by
  refine og_start (plainFor_of_name pn_java_lang_StringLatin1) fun p e s m below meth c s₁ Bd hx hby hml hZ hown hnm X0 e0 => ?_
  have y := @hb _ _ hby
  have w := @wd _ _ hw
  refine og (fun t k => castTop (ef5 m ba qi) k) ?_
  refine og2 X0 hx (fun j _ k => o_iloadN j (y d23_0) rfl <| o_aloadN j (y d23_1) rfl rfl <| o_alen X0 hx hZ e0 pr4 (y d23_2) <| k) ?_
  refine cS [(.int qi), (.int (own_ln L0))] [] 0 X0 hx hZ hown (w 139 rfl) (w 140 rfl) (w 3 rfl) (w 141 rfl) (rmCX l Z a0 hw [] cs fm lo bl la lb li qi (own_ln L0) h0 n0 Z0 H0 pr1 H2 H3) e0 hml pd_oIIcV (y d23_3) (fun v1 T1 L1 hQ1 X1 => ?_)
  obtain ⟨rfl, N1a, eh1⟩ := hQ1
  have N1 := Fr.app (Fr.nil n0) N1a
  have e1 : T1.heap = h0 := eh1
  refine og2 X1 hx (fun j _ k => o_aloadN j (y d23_6) rfl rfl <| o_iloadN j (y d23_7) rfl <| o_baload (v := (.int (own_b (own_at L0 qi)))) X1 hx hZ e1 pr4 ⟨H2, H3⟩ (own_vb_at L0 qi) (y d23_8) <| o_sipushV j 255 (y d23_9) rfl <| o_iand j (y d23_12) <| o_i2cO j (y d23_13) <| k) ?_
  rw [(own_chr (own_at_ob H5 qi))]
  exact rN (v := own_at L0 qi) X1 hx Bd (by simp) (own_nar_ob (own_at_ob H5 qi)) (y d23_14) e1 ⟨rfl, N1, rfl⟩

abbrev R_3_0_0_40 : Room := ({ frames := 3, cells := 0, slots := 0, locals := 40 } : Room)
abbrev k17 := jdk_42_method_56_code
theorem d22_0 : decode k17 0 = .ok (.aload_n 0, 1) := by decide +kernel
theorem d22_1 : decode k17 1 = .ok (.invokevirtual 492, 3) := by decide +kernel
theorem d22_4 : decode k17 4 = .ok (.ifCond .eq 12, 3) := by decide +kernel
theorem d22_7 : decode k17 7 = .ok (.aload_n 0, 1) := by decide +kernel
theorem d22_8 : decode k17 8 = .ok (.getfield 9, 3) := by decide +kernel
theorem d22_11 : decode k17 11 = .ok (.iload_n 1, 1) := by decide +kernel
theorem d22_12 : decode k17 12 = .ok (.invokestatic 495, 3) := by decide +kernel
theorem d22_15 : decode k17 15 = .ok (.ireturn, 1) := by decide +kernel
theorem pd_ocZ : parseMethodDescriptor "()Z" = some ⟨[], some .boolean⟩ := by decide +kernel
theorem pd_oaBIcC : parseMethodDescriptor "([BI)C" = some ⟨[(.array .byte), .int], some .char⟩ := by decide +kernel
def QCA (Z : State) (cs : Int32) (fm : Value) (lo : Addr) (bl : Addr) (la : Addr) (lb : Addr) (li : Addr) (sa : Addr) (ba : Addr) (bk : ClassId) (L0 : List Int32) (qi : Int32) (h0 : Heap) (n0 : Nat) (v : Option Value) (h : Heap) (L : List Loc) : Prop := v = some (.int (own_at L0 qi)) ∧ Fr n0 L ∧ h = h0
theorem rmCA (l : Launch) (Z : State) (a0 : Array Value) (hw : HW a0 Z) (ws : List Jvm.Cond) (cs : Int32) (fm : Value) (lo : Addr) (bl : Addr) (la : Addr) (lb : Addr) (li : Addr) (sa : Addr) (ba : Addr) (bk : ClassId) (L0 : List Int32) (qi : Int32) (h0 : Heap) (n0 : Nat) (Z0 : n0 ≤ h0.size) (H0 : OSt Z cs fm lo bl la lb li) (pr1 : Old Z n0 h0) (H2 : ¬ qi < 0) (H3 : qi < own_ln L0) (pr4 : Arv Z h0 ba bk .byte (own_ln L0) (own_vb L0) (.int 0)) (H5 : OL L0) (pr6 : Fld Z h0 sa "java/lang/String" "value" "[B" (.ref ba)) (pr7 : Fld Z h0 sa "java/lang/String" "coder" "B" (.int 0)) (pr8 : Exa Z h0 sa "java/lang/String") :
    MF l Z ⟨"java/lang/String", "charAt", "(I)C"⟩ jdk_42_method_56_code 2 (some .char) ws R_3_0_0_40 #[(.ref sa), (.int qi)] h0 (QCA Z cs fm lo bl la lb li sa ba bk L0 qi h0 n0) := by
  refine og_start (plainFor_of_name pn_java_lang_String) fun p e s m below meth c s₁ Bd hx hby hml hZ hown hnm X0 e0 => ?_
  have y := @hb _ _ hby
  have w := @wd _ _ hw
  refine og (fun t k => castTop (ef5 m sa qi) k) ?_
  refine og2 X0 hx (fun j _ k => o_aloadN j (y d22_0) rfl rfl <| k) ?_
  refine cV sa [] [] 0 X0 hx hZ hown (w 48 rfl) (w 49 rfl) (w 51 rfl) (w 50 rfl) (w 3 rfl) (w 52 rfl) (rmIL l Z a0 hw [] cs fm lo bl la lb li sa h0 n0 Z0 H0 pr1 pr7) e0 pr8 hml pd_ocZ (y d22_1) (fun v1 T1 L1 hQ1 X1 => ?_)
  obtain ⟨rfl, N1a, eh1⟩ := hQ1
  have N1 := Fr.app (Fr.nil n0) N1a
  have e1 : T1.heap = h0 := eh1
  refine og2 X1 hx (fun j _ k => o_ifNo j (y d22_4) (by decide) <| o_aloadN j (y d22_7) rfl rfl <| k) ?_
  refine g_getF X1 hx hZ hown (w 28 rfl) e1 pr6 (y d22_8) (fun T2 X2 e2 => ?_)
  refine og2 X2 hx (fun j _ k => o_iloadN j (y d22_11) rfl <| k) ?_
  refine cS [(.ref ba), (.int qi)] [] 0 X2 hx hZ hown (w 136 rfl) (w 137 rfl) (w 55 rfl) (w 138 rfl) (rmSC l Z a0 hw [] cs fm lo bl la lb li ba bk L0 qi h0 n0 Z0 H0 pr1 H2 H3 pr4 H5) e2 hml pd_oaBIcC (y d22_12) (fun v3 T3 L3 hQ3 X3 => ?_)
  obtain ⟨rfl, N3a, eh3⟩ := hQ3
  have N3 := Fr.app N1 N3a
  have e3 : T3.heap = h0 := eh3
  exact rN (v := own_at L0 qi) X3 hx Bd (by simp) (own_nar_ob (own_at_ob H5 qi)) (y d22_15) e3 ⟨rfl, N3, rfl⟩

abbrev R_4_0_0_53 : Room := ({ frames := 4, cells := 0, slots := 0, locals := 53 } : Room)
abbrev k45 := method_6_code
theorem d39_0 : decode k45 0 = .ok (.iload_n 3, 1) := by decide +kernel
theorem d39_1 : decode k45 1 = .ok (.iload_n 2, 1) := by decide +kernel
theorem d39_2 : decode k45 2 = .ok (.if_icmp .ge 14, 3) := by decide +kernel
theorem d39_5 : decode k45 5 = .ok (.aload_n 0, 1) := by decide +kernel
theorem d39_6 : decode k45 6 = .ok (.iload_n 3, 1) := by decide +kernel
theorem d39_7 : decode k45 7 = .ok (.invokevirtual 40, 3) := by decide +kernel
theorem d39_10 : decode k45 10 = .ok (.aload_n 1, 1) := by decide +kernel
theorem d39_11 : decode k45 11 = .ok (.iload_n 3, 1) := by decide +kernel
theorem d39_12 : decode k45 12 = .ok (.caload, 1) := by decide +kernel
theorem d39_13 : decode k45 13 = .ok (.if_icmp .ne 7, 3) := by decide +kernel
theorem d39_16 : decode k45 16 = .ok (.iconst 1, 1) := by decide +kernel
theorem d39_17 : decode k45 17 = .ok (.goto 4, 3) := by decide +kernel
theorem d39_21 : decode k45 21 = .ok (.ireturn, 1) := by decide +kernel
theorem pd_oIcC : parseMethodDescriptor "(I)C" = some ⟨[.int], some .char⟩ := by decide +kernel
theorem ef6 (m : MethodId) (x0 : Addr) (x1 : Addr) (x2 : Int32) (x3 : Int32) : entryFrame m #[(.ref x0), (.ref x1), (.int x2), (.int x3)] 4 = (mkF m 0 #[.val (.ref x0), .val (.ref x1), .val (.int x2), .val (.int x3)] []) := by first | (simp [entryFrame, mkF, argsToLocals, Value.category]; done) | rfl
def QEQ (Z : State) (cs : Int32) (fm : Value) (lo : Addr) (bl : Addr) (la : Addr) (lb : Addr) (li : Addr) (sa : Addr) (ba : Addr) (bk : ClassId) (oa : Addr) (ok1 : ClassId) (L0 : List Int32) (qj : Int32) (h0 : Heap) (n0 : Nat) (v : Option Value) (h : Heap) (L : List Loc) : Prop := v = some (.int 1) ∧ Fr n0 L ∧ h = h0
theorem rmEQ (l : Launch) (Z : State) (a0 : Array Value) (hw : HW a0 Z) (ws : List Jvm.Cond) (cs : Int32) (fm : Value) (lo : Addr) (bl : Addr) (la : Addr) (lb : Addr) (li : Addr) (sa : Addr) (ba : Addr) (bk : ClassId) (oa : Addr) (ok1 : ClassId) (L0 : List Int32) (qj : Int32) (h0 : Heap) (n0 : Nat) (Z0 : n0 ≤ h0.size) (H0 : OSt Z cs fm lo bl la lb li) (pr1 : Old Z n0 h0) (pr2 : Fld Z h0 sa "java/lang/String" "value" "[B" (.ref ba)) (pr3 : Fld Z h0 sa "java/lang/String" "coder" "B" (.int 0)) (pr4 : Exa Z h0 sa "java/lang/String") (pr5 : Arv Z h0 ba bk .byte (own_ln L0) (own_vb L0) (.int 0)) (pr6 : Arv Z h0 oa ok1 .char (13 : Int32) (own_pc (L0)) (.int 0)) (H7 : OL L0) (H8 : ¬ qj < 0) (H9 : qj < (13 : Int32)) :
    MF l Z ⟨"com/example/obieg/obieg/ChoiceIdOfPinLaw", "eq", "(Ljava/lang/String;[CII)Z"⟩ method_6_code 4 (some .boolean) ws R_4_0_0_53 #[(.ref sa), (.ref oa), (.int (own_ln L0)), (.int qj)] h0 (QEQ Z cs fm lo bl la lb li sa ba bk oa ok1 L0 qj h0 n0) := by
  refine og_start (plainFor_of_name pn_com_example_obieg_obieg_ChoiceIdOfPinLaw) fun p e s m below meth c s₁ Bd hx hby hml hZ hown hnm X0 e0 => ?_
  have y := @hb _ _ hby
  have w := @wd _ _ hw
  refine og (fun t k => castTop (ef6 m sa oa (own_ln L0) qj) k) ?_
  refine og2 X0 hx (fun j _ k => o_iloadN j (y d39_0) rfl <| o_iloadN j (y d39_1) rfl <| k) ?_
  by_cases C1 : qj < (own_ln L0)
  · refine og2 X0 hx (fun j _ k => o_icmpNo j (y d39_2) (XT.ii_ge_f C1) <| o_aloadN j (y d39_5) rfl rfl <| o_iloadN j (y d39_6) rfl <| k) ?_
    refine cV sa [(.int qj)] [] 0 X0 hx hZ hown (w 203 rfl) (w 132 rfl) (w 134 rfl) (w 133 rfl) (w 3 rfl) (w 135 rfl) (rmCA l Z a0 hw [] cs fm lo bl la lb li sa ba bk L0 qj h0 n0 Z0 H0 pr1 H8 C1 pr5 H7 pr2 pr3 pr4) e0 pr4 hml pd_oIcC (y d39_7) (fun v2 T2 L2 hQ2 X2 => ?_)
    obtain ⟨rfl, N2a, eh2⟩ := hQ2
    have N2 := Fr.app (Fr.nil n0) N2a
    have e2 : T2.heap = h0 := eh2
    refine og2 X2 hx (fun j _ k => o_aloadN j (y d39_10) rfl rfl <| o_iloadN j (y d39_11) rfl <| o_caload (v := (.int (own_at L0 qj))) X2 hx hZ e2 pr6 ⟨H8, H9⟩ (own_pc_at L0 qj) (y d39_12) <| o_icmpNo j (y d39_13) (XT.ii_ne_f rfl) <| o_iconstV j 1 (y d39_16) rfl <| o_goto j (pc' := 21) (y d39_17) <| k) ?_
    exact rN (v := (1 : Int32)) X2 hx Bd (by simp) rfl (y d39_21) e2 ⟨rfl, N2, rfl⟩
  · refine og2 X0 hx (fun j _ k => o_icmpYes j (pc' := 16) (y d39_2) (XT.ii_ge_t C1) <| o_iconstV j 1 (y d39_16) rfl <| o_goto j (pc' := 21) (y d39_17) <| k) ?_
    exact rN (v := (1 : Int32)) X0 hx Bd (by simp) rfl (y d39_21) e0 ⟨rfl, (Fr.nil n0), rfl⟩

abbrev k24 := jdk_52_method_21_code
theorem d4_0 : decode k24 0 = .ok (.iconst 0, 1) := by decide +kernel
theorem d4_1 : decode k24 1 = .ok (.istore 5, 2) := by decide +kernel
theorem d4_3 : decode k24 3 = .ok (.iload 5, 2) := by decide +kernel
theorem d4_5 : decode k24 5 = .ok (.iload 4, 2) := by decide +kernel
theorem d4_7 : decode k24 7 = .ok (.if_icmp .ge 37, 3) := by decide +kernel
theorem d4_10 : decode k24 10 = .ok (.aload_n 0, 1) := by decide +kernel
theorem d4_11 : decode k24 11 = .ok (.iload_n 1, 1) := by decide +kernel
theorem d4_12 : decode k24 12 = .ok (.caload, 1) := by decide +kernel
theorem d4_13 : decode k24 13 = .ok (.istore 6, 2) := by decide +kernel
theorem d4_15 : decode k24 15 = .ok (.iload 6, 2) := by decide +kernel
theorem d4_17 : decode k24 17 = .ok (.sipush 255, 3) := by decide +kernel
theorem d4_20 : decode k24 20 = .ok (.if_icmp .le 6, 3) := by decide +kernel
theorem d4_26 : decode k24 26 = .ok (.aload_n 2, 1) := by decide +kernel
theorem d4_27 : decode k24 27 = .ok (.iload_n 3, 1) := by decide +kernel
theorem d4_28 : decode k24 28 = .ok (.iload 6, 2) := by decide +kernel
theorem d4_30 : decode k24 30 = .ok (.i2b, 1) := by decide +kernel
theorem d4_31 : decode k24 31 = .ok (.bastore, 1) := by decide +kernel
theorem d4_32 : decode k24 32 = .ok (.iinc 1 1, 3) := by decide +kernel
theorem d4_35 : decode k24 35 = .ok (.iinc 3 1, 3) := by decide +kernel
theorem d4_38 : decode k24 38 = .ok (.iinc 5 1, 3) := by decide +kernel
theorem d4_41 : decode k24 41 = .ok (.goto (-38), 3) := by decide +kernel
theorem d4_44 : decode k24 44 = .ok (.iload 4, 2) := by decide +kernel
theorem d4_46 : decode k24 46 = .ok (.ireturn, 1) := by decide +kernel
theorem pn_java_lang_StringUTF16 : plainName "java/lang/StringUTF16" = true := by first | (simp [plainName, overriddenIn]; done) | decide +kernel
theorem ef7 (m : MethodId) (x0 : Addr) (x1 : Int32) (x2 : Addr) (x3 : Int32) (x4 : Int32) : entryFrame m #[(.ref x0), (.int x1), (.ref x2), (.int x3), (.int x4)] 7 = (mkF m 0 #[.val (.ref x0), .val (.int x1), .val (.ref x2), .val (.int x3), .val (.int x4), .unset, .unset] []) := by first | (simp [entryFrame, mkF, argsToLocals, Value.category]; done) | rfl
def QC5 (Z : State) (ca : Addr) (ck : ClassId) (ba : Addr) (bk : ClassId) (L0 : List Int32) (h0 : Heap) (n0 : Nat) (v : Option Value) (h : Heap) (L : List Loc) : Prop := v = some (.int (own_ln L0)) ∧ Fr n0 L ∧ Keep h0 h [ba] ∧ Arv Z h ba bk .byte (own_ln L0) (own_vb L0) (.int 0)
theorem rmC5 (l : Launch) (Z : State) (a0 : Array Value) (hw : HW a0 Z) (ws : List Jvm.Cond) (ca : Addr) (ck : ClassId) (ba : Addr) (bk : ClassId) (L0 : List Int32) (h0 : Heap) (n0 : Nat) (Z0 : n0 ≤ h0.size) (pr0 : Arv Z h0 ca ck .char (own_ln L0) (own_vc L0) (.int 0)) (pr1 : Arv Z h0 ba bk .byte (own_ln L0) (own_pb L0.length []) (.int 0)) (H2 : n0 ≤ ba) (H3 : OL L0) (H4 : L0.length < 20) :
    MF l Z ⟨"java/lang/StringUTF16", "compress", "([CI[BII)I"⟩ jdk_52_method_21_code 7 (some .int) ws R_0_0_0_0 #[(.ref ca), (.int 0), (.ref ba), (.int 0), (.int (own_ln L0))] h0 (QC5 Z ca ck ba bk L0 h0 n0) := by
  refine og_start (plainFor_of_name pn_java_lang_StringUTF16) fun p e s m below meth c s₁ Bd hx hby hml hZ hown hnm X0 e0 => ?_
  have y := @hb _ _ hby
  refine og (fun t k => castTop (ef7 m ca (0 : Int32) ba (0 : Int32) (own_ln L0)) k) ?_
  refine og2 X0 hx (fun j _ k => o_iconstV j 0 (y d4_0) rfl <| o_istore j (y d4_1) (l' := #[.val (.ref ca), .val (.int 0), .val (.ref ba), .val (.int 0), .val (.int (own_ln L0)), .val (.int 0), .unset]) rfl <| k) ?_
  have LPp : ∀ (rp Ap : List Int32) (Ttp : State) (ltp : List Loc) (x6p : Slot) (htp : Heap), Ap ++ rp = L0 → (x6p = .unset ∨ ∃ z, x6p = .val (.int z)) → Stand p l e R_0_0_0_0 s m #[(.ref ca), (.int 0), (.ref ba), (.int 0), (.int (own_ln L0))] below meth c Ttp ltp 0 0 → Ttp.heap = htp → Fr n0 ltp → n0 ≤ htp.size → Keep h0 htp [ba] → Arv Z htp ca ck .char (own_ln L0) (own_vc L0) (.int 0) → Arv Z htp ba bk .byte (own_ln L0) (own_pb L0.length Ap) (.int 0) → OG p.tables e below (fun o u => ∃ v L, o = .returned v ∧ QC5 Z ca ck ba bk L0 h0 n0 v u.heap L ∧ FrameEnd s o u L R_0_0_0_0.cells R_0_0_0_0.slots) (Ttp.setTop (mkF m 3 #[.val (.ref ca), .val (.int (own_ln Ap)), .val (.ref ba), .val (.int (own_ln Ap)), .val (.int (own_ln L0)), .val (.int (own_ln Ap)), x6p] [])) := by
    intro rp
    induction rp with
    | nil =>
      intro Ap Ttp ltp x6p htp hAp hx6p Xtp etp Ntp Ztp Ptp Fpt0 Fpt1
      have hAp : Ap = L0 := by rw [← hAp]; exact (List.append_nil _).symm
      refine og2 Xtp hx (fun j _ k => o_iload j (y d4_3) rfl <| o_iload j (y d4_5) rfl <| o_icmpYes j (pc' := 44) (y d4_7) (XT.ii_ge_t (by rw [hAp]; exact own_irr32 _)) <| o_iload j (y d4_44) rfl <| k) ?_
      exact rI Xtp hx Bd (y d4_46) etp ⟨rfl, Ntp, Ptp, (by have q := Fpt1; rw [hAp, own_pb_full rfl] at q; exact q)⟩
    | cons cp rp ihp =>
      intro Ap Ttp ltp x6p htp hAp hx6p Xtp etp Ntp Ztp Ptp Fpt0 Fpt1
      refine og2 Xtp hx (fun j _ k => o_iload j (y d4_3) rfl <| o_iload j (y d4_5) rfl <| o_icmpNo j (y d4_7) (XT.ii_ge_f (own_mid hAp (Nat.lt_trans H4 (by decide)))) <| o_aloadN j (y d4_10) rfl rfl <| o_iloadN j (y d4_11) rfl <| o_caload (v := (.int cp)) Xtp hx hZ etp Fpt0 ⟨own_ln0 (Nat.lt_trans (own_midlt hAp) (Nat.lt_trans H4 (by decide))), own_mid hAp (Nat.lt_trans H4 (by decide))⟩ (own_vc_mid hAp (Nat.lt_trans H4 (by decide))) (y d4_12) <| o_istore j (y d4_13) (l' := #[.val (.ref ca), .val (.int (own_ln Ap)), .val (.ref ba), .val (.int (own_ln Ap)), .val (.int (own_ln L0)), .val (.int (own_ln Ap)), .val (.int cp)]) (own_st_7_6 _ hx6p) <| o_iload j (y d4_15) rfl <| o_sipushV j 255 (y d4_17) rfl <| o_icmpYes j (pc' := 26) (y d4_20) (XT.ii_le_t (own_ob255 (own_mid_ob hAp H3))) <| o_aloadN j (y d4_26) rfl rfl <| o_iloadN j (y d4_27) rfl <| o_iload j (y d4_28) rfl <| o_i2bO j (y d4_30) <| k) ?_
      refine sBs (v := own_b cp) (Ap.length) Xtp hx hZ etp Fpt1 (own_nar_b _) ⟨own_ln0 (Nat.lt_trans (own_midlt hAp) (Nat.lt_trans H4 (by decide))), own_mid hAp (Nat.lt_trans H4 (by decide))⟩ (own_ln_nat (Nat.lt_trans (own_midlt hAp) (Nat.lt_trans H4 (by decide)))) (by rw [own_pb_len (Nat.le_of_lt (own_midlt hAp))]; exact own_midlt hAp) (own_pb_set _ (own_midlt hAp)) (y d4_31) (fun T1 h1 X1 e1 W1 A1 => ?_)
      have N1 := Fr.snoc X1 Ntp H2
      have P1 := Ptp.wr W1 (Or.inl (List.mem_of_getElem? (i := 0) rfl))
      have Z1 : n0 ≤ h1.size := (by rw [W1.size]; exact Ztp)
      have A2 := (Fpt0.other W1 (own_ane Fpt0 Fpt1 (by decide)))
      have A1v : Arv Z h1 ba bk .byte (own_ln L0) (own_pb L0.length (Ap ++ [cp])) (.int 0) := A1
      refine og2 X1 hx (fun j _ k => o_iincV j 1 (y d4_32) rfl rfl (l' := #[.val (.ref ca), .val (.int ((own_ln Ap) + (1 : Int32))), .val (.ref ba), .val (.int (own_ln Ap)), .val (.int (own_ln L0)), .val (.int (own_ln Ap)), .val (.int cp)]) rfl <| k) ?_
      rw [(own_ln_app Ap cp)]
      refine og2 X1 hx (fun j _ k => o_iincV j 1 (y d4_35) rfl rfl (l' := #[.val (.ref ca), .val (.int (own_ln (Ap ++ [cp]))), .val (.ref ba), .val (.int ((own_ln Ap) + (1 : Int32))), .val (.int (own_ln L0)), .val (.int (own_ln Ap)), .val (.int cp)]) rfl <| k) ?_
      rw [(own_ln_app Ap cp)]
      refine og2 X1 hx (fun j _ k => o_iincV j 1 (y d4_38) rfl rfl (l' := #[.val (.ref ca), .val (.int (own_ln (Ap ++ [cp]))), .val (.ref ba), .val (.int (own_ln (Ap ++ [cp]))), .val (.int (own_ln L0)), .val (.int ((own_ln Ap) + (1 : Int32))), .val (.int cp)]) rfl <| k) ?_
      rw [(own_ln_app Ap cp)]
      refine og2 X1 hx (fun j _ k => o_goto j (pc' := 3) (y d4_41) <| k) ?_
      exact ihp (Ap ++ [cp]) _ _ (.val (.int cp)) _ (by rw [List.append_assoc]; exact hAp) (Or.inr ⟨_, rfl⟩) X1 e1 N1 Z1 P1 A2 A1v
  exact LPp (L0) [] _ _ .unset _ rfl (Or.inl rfl) X0 e0 (Fr.nil n0) Z0 (Keep.refl h0 [ba]) pr0 pr1

abbrev R_1_1_20_18 : Room := ({ frames := 1, cells := 1, slots := 20, locals := 18 } : Room)
abbrev k23 := jdk_52_method_16_code
theorem d3_0 : decode k23 0 = .ok (.iload_n 2, 1) := by decide +kernel
theorem d3_1 : decode k23 1 = .ok (.newarray .byte, 2) := by decide +kernel
theorem d3_3 : decode k23 3 = .ok (.astore_n 3, 1) := by decide +kernel
theorem d3_4 : decode k23 4 = .ok (.aload_n 0, 1) := by decide +kernel
theorem d3_5 : decode k23 5 = .ok (.iload_n 1, 1) := by decide +kernel
theorem d3_6 : decode k23 6 = .ok (.aload_n 3, 1) := by decide +kernel
theorem d3_7 : decode k23 7 = .ok (.iconst 0, 1) := by decide +kernel
theorem d3_8 : decode k23 8 = .ok (.iload_n 2, 1) := by decide +kernel
theorem d3_9 : decode k23 9 = .ok (.invokestatic 115, 3) := by decide +kernel
theorem d3_12 : decode k23 12 = .ok (.istore 4, 2) := by decide +kernel
theorem d3_14 : decode k23 14 = .ok (.iload 4, 2) := by decide +kernel
theorem d3_16 : decode k23 16 = .ok (.iload_n 2, 1) := by decide +kernel
theorem d3_17 : decode k23 17 = .ok (.if_icmp .eq 40, 3) := by decide +kernel
theorem d3_57 : decode k23 57 = .ok (.aload_n 3, 1) := by decide +kernel
theorem d3_58 : decode k23 58 = .ok (.areturn, 1) := by decide +kernel
theorem pd_oaCIaBIIcI : parseMethodDescriptor "([CI[BII)I" = some ⟨[(.array .char), .int, (.array .byte), .int, .int], some .int⟩ := by decide +kernel
theorem ef8 (m : MethodId) (x0 : Addr) (x1 : Int32) (x2 : Int32) : entryFrame m #[(.ref x0), (.int x1), (.int x2)] 6 = (mkF m 0 #[.val (.ref x0), .val (.int x1), .val (.int x2), .unset, .unset, .unset] []) := by first | (simp [entryFrame, mkF, argsToLocals, Value.category]; done) | rfl
def QC3 (Z : State) (ca : Addr) (ck : ClassId) (L0 : List Int32) (h0 : Heap) (n0 : Nat) (v : Option Value) (h : Heap) (L : List Loc) : Prop := ∃ r : Addr, ∃ rk : ClassId, v = some (.ref r) ∧ Fr n0 L ∧ Keep h0 h [] ∧ Arv Z h r rk .byte (own_ln L0) (own_vb L0) (.int 0) ∧ h0.size ≤ r
theorem rmC3 (l : Launch) (Z : State) (a0 : Array Value) (hw : HW a0 Z) (ws : List Jvm.Cond) (ca : Addr) (ck : ClassId) (L0 : List Int32) (h0 : Heap) (n0 : Nat) (Z0 : n0 ≤ h0.size) (pr0 : Arv Z h0 ca ck .char (own_ln L0) (own_vc L0) (.int 0)) (H1 : OL L0) (H2 : L0.length < 20) :
    MF l Z ⟨"java/lang/StringUTF16", "compress", "([CII)[B"⟩ jdk_52_method_16_code 6 (some (.array .byte)) ws R_1_1_20_18 #[(.ref ca), (.int 0), (.int (own_ln L0))] h0 (QC3 Z ca ck L0 h0 n0) := by
  refine og_start (plainFor_of_name pn_java_lang_StringUTF16) fun p e s m below meth c s₁ Bd hx hby hml hZ hown hnm X0 e0 => ?_
  have y := @hb _ _ hby
  have w := @wd _ _ hw
  refine og (fun t k => castTop (ef8 m ca (0 : Int32) (own_ln L0)) k) ?_
  refine og2 X0 hx (fun j _ k => o_iloadN j (y d3_0) rfl <| k) ?_
  refine nP .byte 20 "[B" X0 hx hZ (w 19 rfl) e0 (y d3_1) (fun T1 h1 a1 kc1 g1 X1 e1 E1 A1 D1 => ?_) (hn := (own_ln0 (Nat.lt_trans H2 (by decide)))) (hcap := (by rw [own_ln_nat (Nat.lt_trans H2 (by decide))]; exact Nat.le_of_lt H2))
  have Z1 : n0 ≤ h1.size := Nat.le_trans Z0 E1.1
  have G1 : n0 ≤ a1 := Nat.le_trans Z0 (Nat.le_of_eq g1.symm)
  have GK1 : h0.size ≤ a1 := Nat.le_trans (Keep.refl h0 []).1 (Nat.le_of_eq g1.symm)
  have P1 := (Keep.refl h0 []).ext E1
  have A2 := (pr0.ext E1)
  have A3 : Arv Z h1 a1 kc1 .byte (own_ln L0) (own_pb L0.length []) (.int 0) := (A1.pad (pad_rep [] _ L0.length))
  refine og2 X1 hx (fun j _ k => o_astoreN j (y d3_3) rfl (l' := #[.val (.ref ca), .val (.int 0), .val (.int (own_ln L0)), .val (.ref a1), .unset, .unset]) rfl <| o_aloadN j (y d3_4) rfl rfl <| o_iloadN j (y d3_5) rfl <| o_aloadN j (y d3_6) rfl rfl <| o_iconstV j 0 (y d3_7) rfl <| o_iloadN j (y d3_8) rfl <| k) ?_
  refine cS [(.ref ca), (.int 0), (.ref a1), (.int 0), (.int (own_ln L0))] [] 0 X1 hx hZ hown (w 20 rfl) (w 21 rfl) (w 17 rfl) (w 22 rfl) (rmC5 l Z a0 hw [] ca ck a1 kc1 L0 h1 n0 Z1 A2 A3 G1 H1 H2) e1 hml pd_oaCIaBIIcI (y d3_9) (fun v4 T4 L4 hQ4 X4 => ?_)
  obtain ⟨rfl, N4a, K4, Q4_0⟩ := hQ4
  have N4 := Fr.app (Fr.nil n0) N4a
  have e4 : T4.heap = T4.heap := rfl
  have P4 : Keep h0 T4.heap [] := (P1.trans K4 (allS (Or.inr GK1) all0))
  refine og2 X4 hx (fun j _ k => o_istore j (y d3_12) (l' := #[.val (.ref ca), .val (.int 0), .val (.int (own_ln L0)), .val (.ref a1), .val (.int (own_ln L0)), .unset]) rfl <| o_iload j (y d3_14) rfl <| o_iloadN j (y d3_16) rfl <| o_icmpYes j (pc' := 57) (y d3_17) (XT.ii_eq_t rfl) <| o_aloadN j (y d3_57) rfl rfl <| k) ?_
  exact rA X4 hx Bd rfl rfl rfl (y d3_58) e4 ⟨a1, _, rfl, N4, P4, Q4_0, GK1⟩

abbrev k22 := jdk_52_method_15_code
theorem d5_0 : decode k22 0 = .ok (.iload_n 1, 1) := by decide +kernel
theorem d5_1 : decode k22 1 = .ok (.aload_n 0, 1) := by decide +kernel
theorem d5_2 : decode k22 2 = .ok (.arraylength, 1) := by decide +kernel
theorem d5_3 : decode k22 3 = .ok (.isub, 1) := by decide +kernel
theorem d5_4 : decode k22 4 = .ok (.bipush 31, 2) := by decide +kernel
theorem d5_6 : decode k22 6 = .ok (.iushr, 1) := by decide +kernel
theorem d5_7 : decode k22 7 = .ok (.i2b, 1) := by decide +kernel
theorem d5_8 : decode k22 8 = .ok (.ireturn, 1) := by decide +kernel
def QCF (Z : State) (ba : Addr) (bk : ClassId) (qn : Int32) (vs : List Value) (h0 : Heap) (n0 : Nat) (v : Option Value) (h : Heap) (L : List Loc) : Prop := v = some (.int 0) ∧ Fr n0 L ∧ h = h0
theorem rmCF (l : Launch) (Z : State) (a0 : Array Value) (hw : HW a0 Z) (ws : List Jvm.Cond) (ba : Addr) (bk : ClassId) (qn : Int32) (vs : List Value) (h0 : Heap) (n0 : Nat) (Z0 : n0 ≤ h0.size) (pr0 : Arv Z h0 ba bk .byte qn vs (.int 0)) :
    MF l Z ⟨"java/lang/StringUTF16", "coderFromArrayLen", "([BI)B"⟩ jdk_52_method_15_code 2 (some .byte) ws R_0_0_0_0 #[(.ref ba), (.int qn)] h0 (QCF Z ba bk qn vs h0 n0) := by
  refine og_start (plainFor_of_name pn_java_lang_StringUTF16) fun p e s m below meth c s₁ Bd hx hby hml hZ hown hnm X0 e0 => ?_
  have y := @hb _ _ hby
  refine og (fun t k => castTop (ef5 m ba qn) k) ?_
  refine og2 X0 hx (fun j _ k => o_iloadN j (y d5_0) rfl <| o_aloadN j (y d5_1) rfl rfl <| o_alen X0 hx hZ e0 pr0 (y d5_2) <| o_isub j (y d5_3) <| k) ?_
  rw [(own_subself _)]
  refine og2 X0 hx (fun j _ k => o_bipushV j 31 (y d5_4) rfl <| o_iushr j (y d5_6) <| k) ?_
  rw [(by decide : XT.ushr (0 : Int32) (31 : Int32) = (0 : Int32))]
  refine og2 X0 hx (fun j _ k => o_i2b j (y d5_7) <| k) ?_
  rw [(by decide : (0 : Int32).toInt8.toInt32 = (0 : Int32))]
  exact rN (v := (0 : Int32)) X0 hx Bd (by simp) rfl (y d5_8) e0 ⟨rfl, (Fr.nil n0), rfl⟩

abbrev R_1_4_8_12 : Room := ({ frames := 1, cells := 4, slots := 8, locals := 12 } : Room)
abbrev k8 := jdk_42_method_149_code
theorem d1_0 : decode k8 0 = .ok (.aload_n 0, 1) := by decide +kernel
theorem d1_1 : decode k8 1 = .ok (.invokespecial 1, 3) := by decide +kernel
theorem d1_4 : decode k8 4 = .ok (.iload_n 3, 1) := by decide +kernel
theorem d1_5 : decode k8 5 = .ok (.ifCond .ne 22, 3) := by decide +kernel
theorem d1_8 : decode k8 8 = .ok (.aload_n 0, 1) := by decide +kernel
theorem d1_9 : decode k8 9 = .ok (.ldc 7, 2) := by decide +kernel
theorem d1_11 : decode k8 11 = .ok (.getfield 9, 3) := by decide +kernel
theorem d1_14 : decode k8 14 = .ok (.putfield 9, 3) := by decide +kernel
theorem d1_17 : decode k8 17 = .ok (.aload_n 0, 1) := by decide +kernel
theorem d1_18 : decode k8 18 = .ok (.ldc 7, 2) := by decide +kernel
theorem d1_20 : decode k8 20 = .ok (.getfield 15, 3) := by decide +kernel
theorem d1_23 : decode k8 23 = .ok (.putfield 15, 3) := by decide +kernel
theorem d1_26 : decode k8 26 = .ok (.return_, 1) := by decide +kernel
theorem ef9 (m : MethodId) (x0 : Addr) (x1 : Addr) (x2 : Int32) (x3 : Int32) : entryFrame m #[(.ref x0), (.ref x1), (.int x2), (.int x3), .null] 6 = (mkF m 0 #[.val (.ref x0), .val (.ref x1), .val (.int x2), .val (.int x3), .val .null, .unset] []) := by first | (simp [entryFrame, mkF, argsToLocals, Value.category]; done) | rfl
def QI30 (Z : State) (cs : Int32) (fm : Value) (lo : Addr) (bl : Addr) (la : Addr) (lb : Addr) (li : Addr) (sa : Addr) (ca : Addr) (ck : ClassId) (h0 : Heap) (n0 : Nat) (v : Option Value) (h : Heap) (L : List Loc) : Prop := ∃ b : Addr, ∃ bk : ClassId, v = none ∧ Fr n0 L ∧ Keep h0 h [sa] ∧ Fld Z h sa "java/lang/String" "value" "[B" (.ref b) ∧ Fld Z h sa "java/lang/String" "coder" "B" (.int 0) ∧ Exa Z h sa "java/lang/String" ∧ Arv Z h b bk .byte (0 : Int32) [] (.int 0)
theorem rmI30 (l : Launch) (Z : State) (a0 : Array Value) (hw : HW a0 Z) (ws : List Jvm.Cond) (cs : Int32) (fm : Value) (lo : Addr) (bl : Addr) (la : Addr) (lb : Addr) (li : Addr) (sa : Addr) (ca : Addr) (ck : ClassId) (h0 : Heap) (n0 : Nat) (Z0 : n0 ≤ h0.size) (H0 : OSt Z cs fm lo bl la lb li) (pr1 : Old Z n0 h0) (pr2 : Fld Z h0 sa "java/lang/String" "value" "[B" .null) (pr3 : Fld Z h0 sa "java/lang/String" "coder" "B" (.int 0)) (pr4 : Exa Z h0 sa "java/lang/String") (pr5 : Arv Z h0 ca ck .char (0 : Int32) [] (.int 0)) (H6 : n0 ≤ sa) :
    MetFree l (⟨"java/lang/String", "<init>", "([CIILjava/lang/Void;)V"⟩ : MethodName) (head1 (Jvm.Cond.code (⟨"java/lang/String", "<init>", "([CIILjava/lang/Void;)V"⟩ : MethodName) jdk_42_method_149_code 6 none :: ws) R_1_4_8_12) (fun a U => a = #[(.ref sa), (.ref ca), (.int 0), (.int 0), .null] ∧ Z.Warmed39 U.vm ∧ U.heap = h0 ∧ CHv Z own_EL U.vm h0) (fun _ _ _ _ _ => True) (fun _ U o U' => ∃ v L, o = .returned v ∧ QI30 Z cs fm lo bl la lb li sa ca ck h0 n0 v U'.heap L ∧ CHr Z own_EL U.vm U.heap U'.vm U'.heap ∧ ReturnedEndW U o U' L R_1_4_8_12.cells R_1_4_8_12.slots) := by
  refine og_startR (plainFor_of_name pn_java_lang_String) fun p e s m below meth c s₁ Bd hx hby hml hZ hown hnm X0 e0 hS hkS hC0 => ?_
  have y := @hb _ _ hby
  have w := @wd _ _ hw
  refine og (fun t k => castTop (ef9 m sa ca (0 : Int32) (0 : Int32)) k) ?_
  refine og2 X0 hx (fun j _ k => o_aloadN j (y d1_0) rfl rfl <| k) ?_
  refine cO 0 X0 hx hZ hown (w 11 rfl) (w 12 rfl) (w 13 rfl) e0 hml (y d1_1) (fun T1 X1 e1 => ?_)
  refine og2 X1 hx (fun j _ k => o_iloadN j (y d1_4) rfl <| o_ifNo j (y d1_5) (by decide) <| o_aloadN j (y d1_8) rfl rfl <| k) ?_
  refine gL [] 0 0 X1 hx hZ hown hw (w 223 rfl) e1 hS hkS hC0.1 (y d1_9) (fun a2 T2 h2 ks2 b2 kb2 X2 e2 E2 hS hkS hZ hown EA2 FC2 FV2 AB2 CR2 LT2 NS2 => ?_)
  have CR3 := hC0.trans CR2
  have P2 := (Keep.refl h0 [sa]).ext E2
  have F5 := (Fld.ext E2 pr2)
  have F6 := (Fld.ext E2 pr3)
  have E7 := (Exa.ext E2 pr4)
  have nl2_sa : sa ≠ a2 := Fld.ne F5 FV2 (fun q => nomatch q)
  refine g_getF X2 hx hZ hown (w 28 rfl) e2 FV2 (y d1_11) (fun T9 X9 e9 => ?_)
  refine pF (.array .byte) X9 hx hZ hown (w 28 rfl) e9 F5 E7 (Or.inr ⟨(w 29 rfl), rfl, hnm⟩) (w 2 rfl) (y d1_14) (fun T10 h10 X10 e10 W10 => ?_)
  have SF11_sa := Safe.wr W10 (own_safeN hZ.alike F5 E7) CR3.1 (own_safeN hZ.alike F5 E7)
  have CR11 := CR3.trans (CHr.wr W10 (own_safeN hZ.alike F5 E7) CR3.1)
  have N10 := Fr.snoc X10 (Fr.nil n0) H6
  have P10 := P2.wr W10 (Or.inl (List.mem_of_getElem? (i := 0) rfl))
  have E13 := (Exa.wr W10 E7)
  have A18 := (AB2.other W10 (Ne.symm (Exa.neArv E7 AB2 (w 2 rfl))))
  have F20 := (Fld.same W10 F5)
  have F21 := (Fld.other W10 F6 (Or.inr (slot_ne (C := "java/lang/String") (Or.inr (w 27 rfl)) (Or.inr (w 29 rfl)) (by decide) (t := .byte) (t' := (.array .byte)) (by decide) (by decide))))
  refine og2 X10 hx (fun j _ k => o_aloadN j (y d1_17) rfl rfl <| k) ?_
  refine gL [] 0 0 X10 hx hZ hown hw (w 223 rfl) e10 hS (Nat.le_trans hkS (Nat.le_of_eq W10.size.symm)) CR11.1 (y d1_18) (fun a22 T22 h22 ks22 b22 kb22 X22 e22 E22 hS hkS hZ hown EA22 FC22 FV22 AB22 CR22 LT22 NS22 => ?_)
  have SF23_sa := CR22.safe E13.lt SF11_sa
  have CR23 := CR11.trans CR22
  have P22 := P10.ext E22
  have E25 := (Exa.ext E22 E13)
  have A30 := (A18.ext E22)
  have F32 := (Fld.ext E22 F20)
  have F33 := (Fld.ext E22 F21)
  refine g_getF X22 hx hZ hown (w 26 rfl) e22 FC22 (y d1_20) (fun T34 X34 e34 => ?_)
  refine pF .byte X34 hx hZ hown (w 26 rfl) e34 F33 E25 (Or.inr ⟨(w 27 rfl), rfl, hnm⟩) (w 2 rfl) (y d1_23) (fun T35 h35 X35 e35 W35 => ?_)
  have CR36 := CR23.trans (CHr.wr W35 SF23_sa CR23.1)
  have N35 := Fr.snoc X35 N10 H6
  have P35 := P22.wr W35 (Or.inl (List.mem_of_getElem? (i := 0) rfl))
  have E38 := (Exa.wr W35 E25)
  have A43 := (A30.other W35 (Ne.symm (Exa.neArv E25 A30 (w 2 rfl))))
  have F48 := (Fld.other W35 F32 (Or.inr (slot_ne (C := "java/lang/String") (Or.inr (w 29 rfl)) (Or.inr (w 27 rfl)) (by decide) (t := (.array .byte)) (t' := .byte) (by decide) (by decide))))
  have F49 := (Fld.same W35 F33)
  exact r0R X35 hx Bd hS (Nat.le_trans hkS (Nat.le_of_eq W35.size.symm)) hZ (own_EW hw) CR36 (y d1_26) e35 ⟨b2, kb2, rfl, N35, P35, F48, F49, E38, A43⟩

abbrev R_2_4_8_29 : Room := ({ frames := 2, cells := 4, slots := 8, locals := 29 } : Room)
abbrev k14 := jdk_42_method_3_code
theorem d0_0 : decode k14 0 = .ok (.aload_n 0, 1) := by decide +kernel
theorem d0_1 : decode k14 1 = .ok (.aload_n 1, 1) := by decide +kernel
theorem d0_2 : decode k14 2 = .ok (.iconst 0, 1) := by decide +kernel
theorem d0_3 : decode k14 3 = .ok (.aload_n 1, 1) := by decide +kernel
theorem d0_4 : decode k14 4 = .ok (.arraylength, 1) := by decide +kernel
theorem d0_5 : decode k14 5 = .ok (.aconst_null, 1) := by decide +kernel
theorem d0_6 : decode k14 6 = .ok (.invokespecial 27, 3) := by decide +kernel
theorem d0_9 : decode k14 9 = .ok (.return_, 1) := by decide +kernel
theorem pd_oaCIILjava_lang_VoidscV : parseMethodDescriptor "([CIILjava/lang/Void;)V" = some ⟨[(.array .char), .int, .int, (.object "java/lang/Void")], none⟩ := by decide +kernel
theorem ef10 (m : MethodId) (x0 : Addr) (x1 : Addr) : entryFrame m #[(.ref x0), (.ref x1)] 2 = (mkF m 0 #[.val (.ref x0), .val (.ref x1)] []) := by first | (simp [entryFrame, mkF, argsToLocals, Value.category]; done) | rfl
def QI10 (Z : State) (cs : Int32) (fm : Value) (lo : Addr) (bl : Addr) (la : Addr) (lb : Addr) (li : Addr) (sa : Addr) (ca : Addr) (ck : ClassId) (h0 : Heap) (n0 : Nat) (v : Option Value) (h : Heap) (L : List Loc) : Prop := ∃ b : Addr, ∃ bk : ClassId, v = none ∧ Fr n0 L ∧ Keep h0 h [sa] ∧ Fld Z h sa "java/lang/String" "value" "[B" (.ref b) ∧ Fld Z h sa "java/lang/String" "coder" "B" (.int 0) ∧ Exa Z h sa "java/lang/String" ∧ Arv Z h b bk .byte (0 : Int32) [] (.int 0)
theorem rmI10 (l : Launch) (Z : State) (a0 : Array Value) (hw : HW a0 Z) (ws : List Jvm.Cond) (cs : Int32) (fm : Value) (lo : Addr) (bl : Addr) (la : Addr) (lb : Addr) (li : Addr) (sa : Addr) (ca : Addr) (ck : ClassId) (h0 : Heap) (n0 : Nat) (Z0 : n0 ≤ h0.size) (H0 : OSt Z cs fm lo bl la lb li) (pr1 : Old Z n0 h0) (pr2 : Fld Z h0 sa "java/lang/String" "value" "[B" .null) (pr3 : Fld Z h0 sa "java/lang/String" "coder" "B" (.int 0)) (pr4 : Exa Z h0 sa "java/lang/String") (pr5 : Arv Z h0 ca ck .char (0 : Int32) [] (.int 0)) (H6 : n0 ≤ sa) :
    MetFree l (⟨"java/lang/String", "<init>", "([C)V"⟩ : MethodName) (head1 (Jvm.Cond.code (⟨"java/lang/String", "<init>", "([C)V"⟩ : MethodName) jdk_42_method_3_code 2 none :: ws) R_2_4_8_29) (fun a U => a = #[(.ref sa), (.ref ca)] ∧ Z.Warmed39 U.vm ∧ U.heap = h0 ∧ CHv Z own_EL U.vm h0) (fun _ _ _ _ _ => True) (fun _ U o U' => ∃ v L, o = .returned v ∧ QI10 Z cs fm lo bl la lb li sa ca ck h0 n0 v U'.heap L ∧ CHr Z own_EL U.vm U.heap U'.vm U'.heap ∧ ReturnedEndW U o U' L R_2_4_8_29.cells R_2_4_8_29.slots) := by
  refine og_startR (plainFor_of_name pn_java_lang_String) fun p e s m below meth c s₁ Bd hx hby hml hZ hown hnm X0 e0 hS hkS hC0 => ?_
  have y := @hb _ _ hby
  have w := @wd _ _ hw
  refine og (fun t k => castTop (ef10 m sa ca) k) ?_
  refine og2 X0 hx (fun j _ k => o_aloadN j (y d0_0) rfl rfl <| o_aloadN j (y d0_1) rfl rfl <| o_iconstV j 0 (y d0_2) rfl <| o_aloadN j (y d0_3) rfl rfl <| o_alen X0 hx hZ e0 pr5 (y d0_4) <| o_aconstNull j (y d0_5) <| k) ?_
  refine cIH sa [(.ref ca), (.int 0), (.int 0), .null] [] 0 X0 hx hZ hown hS hkS (w 7 rfl) (w 8 rfl) (w 3 rfl) (w 10 rfl) (own_EW hw) hC0.1 (rmI30 l Z a0 hw [] cs fm lo bl la lb li sa ca ck h0 n0 Z0 H0 pr1 pr2 pr3 pr4 pr5 H6) e0 hml pd_oaCIILjava_lang_VoidscV (y d0_6) (fun v1 T1 L1 hQ1 X1 hS hZ hown CC1 => ?_)
  have CR2 := hC0.trans CC1
  obtain ⟨b_1, bk_1, rfl, N1a, K1, Q1_0, Q1_1, Q1_2, Q1_3⟩ := hQ1
  have N1 := Fr.app (Fr.nil n0) N1a
  have e1 : T1.heap = T1.heap := rfl
  have P1 : Keep h0 T1.heap [sa] := ((Keep.refl h0 [sa]).trans K1 (allS (Or.inl (List.mem_of_getElem? (i := 0) rfl)) all0))
  have hkS : T1.heap.size ≤ T1.heap.size := Nat.le_refl _
  exact r0R X1 hx Bd hS hkS hZ (own_EW hw) CR2 (y d0_9) e1 ⟨b_1, bk_1, rfl, N1, P1, Q1_0, Q1_1, Q1_2, Q1_3⟩

abbrev R_2_1_20_35 : Room := ({ frames := 2, cells := 1, slots := 20, locals := 35 } : Room)
theorem d1_27 : decode k8 27 = .ok (.getstatic 38, 3) := by decide +kernel
theorem d1_30 : decode k8 30 = .ok (.ifCond .eq 28, 3) := by decide +kernel
theorem d1_33 : decode k8 33 = .ok (.aload_n 1, 1) := by decide +kernel
theorem d1_34 : decode k8 34 = .ok (.iload_n 2, 1) := by decide +kernel
theorem d1_35 : decode k8 35 = .ok (.iload_n 3, 1) := by decide +kernel
theorem d1_36 : decode k8 36 = .ok (.invokestatic 177, 3) := by decide +kernel
theorem d1_39 : decode k8 39 = .ok (.astore 5, 2) := by decide +kernel
theorem d1_41 : decode k8 41 = .ok (.aload_n 0, 1) := by decide +kernel
theorem d1_42 : decode k8 42 = .ok (.aload 5, 2) := by decide +kernel
theorem d1_44 : decode k8 44 = .ok (.iload_n 3, 1) := by decide +kernel
theorem d1_45 : decode k8 45 = .ok (.invokestatic 47, 3) := by decide +kernel
theorem d1_48 : decode k8 48 = .ok (.putfield 15, 3) := by decide +kernel
theorem d1_51 : decode k8 51 = .ok (.aload_n 0, 1) := by decide +kernel
theorem d1_52 : decode k8 52 = .ok (.aload 5, 2) := by decide +kernel
theorem d1_54 : decode k8 54 = .ok (.putfield 9, 3) := by decide +kernel
theorem d1_57 : decode k8 57 = .ok (.return_, 1) := by decide +kernel
theorem pd_oaCIIcaB : parseMethodDescriptor "([CII)[B" = some ⟨[(.array .char), .int, .int], some (.array .byte)⟩ := by decide +kernel
theorem pd_oaBIcB : parseMethodDescriptor "([BI)B" = some ⟨[(.array .byte), .int], some .byte⟩ := by decide +kernel
def QI31 (Z : State) (cs : Int32) (fm : Value) (lo : Addr) (bl : Addr) (la : Addr) (lb : Addr) (li : Addr) (sa : Addr) (ca : Addr) (ck : ClassId) (L0 : List Int32) (h0 : Heap) (n0 : Nat) (v : Option Value) (h : Heap) (L : List Loc) : Prop := ∃ b : Addr, ∃ bk : ClassId, v = none ∧ Fr n0 L ∧ Keep h0 h [sa] ∧ Fld Z h sa "java/lang/String" "value" "[B" (.ref b) ∧ Fld Z h sa "java/lang/String" "coder" "B" (.int 0) ∧ Exa Z h sa "java/lang/String" ∧ Arv Z h b bk .byte (own_ln L0) (own_vb L0) (.int 0)
theorem rmI31 (l : Launch) (Z : State) (a0 : Array Value) (hw : HW a0 Z) (ws : List Jvm.Cond) (cs : Int32) (fm : Value) (lo : Addr) (bl : Addr) (la : Addr) (lb : Addr) (li : Addr) (sa : Addr) (ca : Addr) (ck : ClassId) (L0 : List Int32) (h0 : Heap) (n0 : Nat) (Z0 : n0 ≤ h0.size) (H0 : OSt Z cs fm lo bl la lb li) (pr1 : Old Z n0 h0) (pr2 : Fld Z h0 sa "java/lang/String" "value" "[B" .null) (pr3 : Fld Z h0 sa "java/lang/String" "coder" "B" (.int 0)) (pr4 : Exa Z h0 sa "java/lang/String") (pr5 : Arv Z h0 ca ck .char (own_ln L0) (own_vc L0) (.int 0)) (H6 : n0 ≤ sa) (H7 : OL L0) (H8 : L0.length < 20) (H9 : ¬ own_ln L0 = 0) :
    MF l Z ⟨"java/lang/String", "<init>", "([CIILjava/lang/Void;)V"⟩ jdk_42_method_149_code 6 none ws R_2_1_20_35 #[(.ref sa), (.ref ca), (.int 0), (.int (own_ln L0)), .null] h0 (QI31 Z cs fm lo bl la lb li sa ca ck L0 h0 n0) := by
  refine og_start (plainFor_of_name pn_java_lang_String) fun p e s m below meth c s₁ Bd hx hby hml hZ hown hnm X0 e0 => ?_
  have y := @hb _ _ hby
  have w := @wd _ _ hw
  refine og (fun t k => castTop (ef9 m sa ca (0 : Int32) (own_ln L0)) k) ?_
  refine og2 X0 hx (fun j _ k => o_aloadN j (y d1_0) rfl rfl <| k) ?_
  refine cO 0 X0 hx hZ hown (w 11 rfl) (w 12 rfl) (w 13 rfl) e0 hml (y d1_1) (fun T1 X1 e1 => ?_)
  refine og2 X1 hx (fun j _ k => o_iloadN j (y d1_4) rfl <| o_ifYes j (pc' := 27) (y d1_5) (XT.i0_ne_t H9) <| k) ?_
  refine g_getS X1 hx hZ hown (w 14 rfl) e1 (Sta.ext pr1.2 H0.cs) (y d1_27) (fun T2 X2 e2 => ?_)
  refine og2 X2 hx (fun j _ k => o_ifNo j (y d1_30) (XT.i0_eq_f H0.csn) <| o_aloadN j (y d1_33) rfl rfl <| o_iloadN j (y d1_34) rfl <| o_iloadN j (y d1_35) rfl <| k) ?_
  refine cS [(.ref ca), (.int 0), (.int (own_ln L0))] [] 0 X2 hx hZ hown (w 15 rfl) (w 16 rfl) (w 17 rfl) (w 18 rfl) (rmC3 l Z a0 hw [] ca ck L0 h0 n0 Z0 pr5 H7 H8) e2 hml pd_oaCIIcaB (y d1_36) (fun v3 T3 L3 hQ3 X3 => ?_)
  obtain ⟨r_3, rk_3, rfl, N3a, K3, Q3_0, Q3_1⟩ := hQ3
  have N3 := Fr.app (Fr.nil n0) N3a
  have e3 : T3.heap = T3.heap := rfl
  have Z3 : n0 ≤ T3.heap.size := (Nat.le_trans Z0 K3.1)
  have P3 : Keep h0 T3.heap [sa] := ((Keep.refl h0 [sa]).trans K3 all0)
  have F5 := (pr2.keep K3 nin0)
  have F6 := (pr3.keep K3 nin0)
  have E7 := (pr4.keep K3)
  have ne3_sa_r : sa ≠ r_3 := Nat.ne_of_lt (Nat.lt_of_lt_of_le pr2.lt Q3_1)
  have ne3_ca_r : ca ≠ r_3 := Nat.ne_of_lt (Nat.lt_of_lt_of_le pr5.lt Q3_1)
  refine og2 X3 hx (fun j _ k => o_astore j (y d1_39) rfl (l' := #[.val (.ref sa), .val (.ref ca), .val (.int 0), .val (.int (own_ln L0)), .val .null, .val (.ref r_3)]) rfl <| o_aloadN j (y d1_41) rfl rfl <| o_aload j (y d1_42) rfl rfl <| o_iloadN j (y d1_44) rfl <| k) ?_
  refine cS [(.ref r_3), (.int (own_ln L0))] [(.ref sa)] 1 X3 hx hZ hown (w 23 rfl) (w 24 rfl) (w 17 rfl) (w 25 rfl) (rmCF l Z a0 hw [] r_3 rk_3 (own_ln L0) (own_vb L0) T3.heap n0 Z3 Q3_0) e3 hml pd_oaBIcB (y d1_45) (fun v9 T9 L9 hQ9 X9 => ?_)
  obtain ⟨rfl, N9a, eh9⟩ := hQ9
  have N9 := Fr.app N3 N9a
  have e9 : T9.heap = T3.heap := eh9
  refine pF .byte X9 hx hZ hown (w 26 rfl) e9 F6 E7 (Or.inr ⟨(w 27 rfl), rfl, hnm⟩) (w 2 rfl) (y d1_48) (fun T10 h10 X10 e10 W10 => ?_)
  have N10 := Fr.snoc X10 N9 H6
  have P10 := P3.wr W10 (Or.inl (List.mem_of_getElem? (i := 0) rfl))
  have E12 := (Exa.wr W10 E7)
  have A14 := (Q3_0.other W10 (Ne.symm ne3_sa_r))
  have F15 := (Fld.other W10 F5 (Or.inr (slot_ne (C := "java/lang/String") (Or.inr (w 29 rfl)) (Or.inr (w 27 rfl)) (by decide) (t := (.array .byte)) (t' := .byte) (by decide) (by decide))))
  have F16 := (Fld.same W10 F6)
  refine og2 X10 hx (fun j _ k => o_aloadN j (y d1_51) rfl rfl <| o_aload j (y d1_52) rfl rfl <| k) ?_
  refine pF (.array .byte) X10 hx hZ hown (w 28 rfl) e10 F15 E12 (Or.inr ⟨(w 29 rfl), rfl, hnm⟩) (w 2 rfl) (y d1_54) (fun T17 h17 X17 e17 W17 => ?_)
  have N17 := Fr.snoc X17 N10 H6
  have P17 := P10.wr W17 (Or.inl (List.mem_of_getElem? (i := 0) rfl))
  have E19 := (Exa.wr W17 E12)
  have A21 := (A14.other W17 (Ne.symm ne3_sa_r))
  have F22 := (Fld.same W17 F15)
  have F23 := (Fld.other W17 F16 (Or.inr (slot_ne (C := "java/lang/String") (Or.inr (w 27 rfl)) (Or.inr (w 29 rfl)) (by decide) (t := .byte) (t' := (.array .byte)) (by decide) (by decide))))
  exact r0 X17 hx Bd (y d1_57) e17 ⟨r_3, rk_3, rfl, N17, P17, F22, F23, E19, A21⟩

abbrev R_3_1_20_52 : Room := ({ frames := 3, cells := 1, slots := 20, locals := 52 } : Room)
def QI11 (Z : State) (cs : Int32) (fm : Value) (lo : Addr) (bl : Addr) (la : Addr) (lb : Addr) (li : Addr) (sa : Addr) (ca : Addr) (ck : ClassId) (L0 : List Int32) (h0 : Heap) (n0 : Nat) (v : Option Value) (h : Heap) (L : List Loc) : Prop := ∃ b : Addr, ∃ bk : ClassId, v = none ∧ Fr n0 L ∧ Keep h0 h [sa] ∧ Fld Z h sa "java/lang/String" "value" "[B" (.ref b) ∧ Fld Z h sa "java/lang/String" "coder" "B" (.int 0) ∧ Exa Z h sa "java/lang/String" ∧ Arv Z h b bk .byte (own_ln L0) (own_vb L0) (.int 0)
theorem rmI11 (l : Launch) (Z : State) (a0 : Array Value) (hw : HW a0 Z) (ws : List Jvm.Cond) (cs : Int32) (fm : Value) (lo : Addr) (bl : Addr) (la : Addr) (lb : Addr) (li : Addr) (sa : Addr) (ca : Addr) (ck : ClassId) (L0 : List Int32) (h0 : Heap) (n0 : Nat) (Z0 : n0 ≤ h0.size) (H0 : OSt Z cs fm lo bl la lb li) (pr1 : Old Z n0 h0) (pr2 : Fld Z h0 sa "java/lang/String" "value" "[B" .null) (pr3 : Fld Z h0 sa "java/lang/String" "coder" "B" (.int 0)) (pr4 : Exa Z h0 sa "java/lang/String") (pr5 : Arv Z h0 ca ck .char (own_ln L0) (own_vc L0) (.int 0)) (H6 : n0 ≤ sa) (H7 : OL L0) (H8 : L0.length < 20) (H9 : ¬ own_ln L0 = 0) :
    MF l Z ⟨"java/lang/String", "<init>", "([C)V"⟩ jdk_42_method_3_code 2 none ws R_3_1_20_52 #[(.ref sa), (.ref ca)] h0 (QI11 Z cs fm lo bl la lb li sa ca ck L0 h0 n0) := by
  refine og_start (plainFor_of_name pn_java_lang_String) fun p e s m below meth c s₁ Bd hx hby hml hZ hown hnm X0 e0 => ?_
  have y := @hb _ _ hby
  have w := @wd _ _ hw
  refine og (fun t k => castTop (ef10 m sa ca) k) ?_
  refine og2 X0 hx (fun j _ k => o_aloadN j (y d0_0) rfl rfl <| o_aloadN j (y d0_1) rfl rfl <| o_iconstV j 0 (y d0_2) rfl <| o_aloadN j (y d0_3) rfl rfl <| o_alen X0 hx hZ e0 pr5 (y d0_4) <| o_aconstNull j (y d0_5) <| k) ?_
  refine cI sa [(.ref ca), (.int 0), (.int (own_ln L0)), .null] [] 0 X0 hx hZ hown (w 7 rfl) (w 8 rfl) (w 3 rfl) (w 10 rfl) (rmI31 l Z a0 hw [] cs fm lo bl la lb li sa ca ck L0 h0 n0 Z0 H0 pr1 pr2 pr3 pr4 pr5 H6 H7 H8 H9) e0 hml pd_oaCIILjava_lang_VoidscV (y d0_6) (fun v1 T1 L1 hQ1 X1 => ?_)
  obtain ⟨b_1, bk_1, rfl, N1a, K1, Q1_0, Q1_1, Q1_2, Q1_3⟩ := hQ1
  have N1 := Fr.app (Fr.nil n0) N1a
  have e1 : T1.heap = T1.heap := rfl
  have P1 : Keep h0 T1.heap [sa] := ((Keep.refl h0 [sa]).trans K1 (allS (Or.inl (List.mem_of_getElem? (i := 0) rfl)) all0))
  exact r0 X1 hx Bd (y d0_9) e1 ⟨b_1, bk_1, rfl, N1, P1, Q1_0, Q1_1, Q1_2, Q1_3⟩

abbrev k0 := jdk_116_method_20_code
theorem d11_0 : decode k0 0 = .ok (.iload_n 1, 1) := by decide +kernel
theorem d11_1 : decode k0 1 = .ok (.bipush 65, 2) := by decide +kernel
theorem d11_3 : decode k0 3 = .ok (.if_icmp .ge 5, 3) := by decide +kernel
theorem d11_6 : decode k0 6 = .ok (.iload_n 1, 1) := by decide +kernel
theorem d11_7 : decode k0 7 = .ok (.ireturn, 1) := by decide +kernel
theorem d11_8 : decode k0 8 = .ok (.iload_n 1, 1) := by decide +kernel
theorem d11_9 : decode k0 9 = .ok (.bipush 32, 2) := by decide +kernel
theorem d11_11 : decode k0 11 = .ok (.ior, 1) := by decide +kernel
theorem d11_12 : decode k0 12 = .ok (.istore_n 2, 1) := by decide +kernel
theorem d11_13 : decode k0 13 = .ok (.iload_n 2, 1) := by decide +kernel
theorem d11_14 : decode k0 14 = .ok (.bipush 122, 2) := by decide +kernel
theorem d11_16 : decode k0 16 = .ok (.if_icmp .le 24, 3) := by decide +kernel
theorem d11_19 : decode k0 19 = .ok (.iload_n 2, 1) := by decide +kernel
theorem d11_20 : decode k0 20 = .ok (.sipush 224, 3) := by decide +kernel
theorem d11_23 : decode k0 23 = .ok (.if_icmp .lt 19, 3) := by decide +kernel
theorem d11_26 : decode k0 26 = .ok (.iload_n 2, 1) := by decide +kernel
theorem d11_27 : decode k0 27 = .ok (.sipush 254, 3) := by decide +kernel
theorem d11_30 : decode k0 30 = .ok (.if_icmp .gt 12, 3) := by decide +kernel
theorem d11_33 : decode k0 33 = .ok (.iload_n 2, 1) := by decide +kernel
theorem d11_34 : decode k0 34 = .ok (.sipush 247, 3) := by decide +kernel
theorem d11_37 : decode k0 37 = .ok (.if_icmp .eq 5, 3) := by decide +kernel
theorem d11_40 : decode k0 40 = .ok (.iload_n 2, 1) := by decide +kernel
theorem d11_41 : decode k0 41 = .ok (.ireturn, 1) := by decide +kernel
theorem d11_42 : decode k0 42 = .ok (.iload_n 1, 1) := by decide +kernel
theorem d11_43 : decode k0 43 = .ok (.ireturn, 1) := by decide +kernel
theorem pn_java_lang_CharacterDataLatin1 : plainName "java/lang/CharacterDataLatin1" = true := by first | (simp [plainName, overriddenIn]; done) | decide +kernel
theorem ef11 (m : MethodId) (x0 : Addr) (x1 : Int32) : entryFrame m #[(.ref x0), (.int x1)] 3 = (mkF m 0 #[.val (.ref x0), .val (.int x1), .unset] []) := by first | (simp [entryFrame, mkF, argsToLocals, Value.category]; done) | rfl
def QTC (Z : State) (qa : Addr) (qc : Int32) (h0 : Heap) (n0 : Nat) (v : Option Value) (h : Heap) (L : List Loc) : Prop := v = some (.int (own_low qc)) ∧ Fr n0 L ∧ h = h0
theorem rmTC (l : Launch) (Z : State) (a0 : Array Value) (hw : HW a0 Z) (ws : List Jvm.Cond) (qa : Addr) (qc : Int32) (h0 : Heap) (n0 : Nat) (Z0 : n0 ≤ h0.size) :
    MF l Z ⟨"java/lang/CharacterDataLatin1", "toLowerCase", "(I)I"⟩ jdk_116_method_20_code 3 (some .int) ws R_0_0_0_0 #[(.ref qa), (.int qc)] h0 (QTC Z qa qc h0 n0) := by
  refine og_start (plainFor_of_name pn_java_lang_CharacterDataLatin1) fun p e s m below meth c s₁ Bd hx hby hml hZ hown hnm X0 e0 => ?_
  have y := @hb _ _ hby
  refine og (fun t k => castTop (ef11 m qa qc) k) ?_
  refine og2 X0 hx (fun j _ k => o_iloadN j (y d11_0) rfl <| o_bipushV j 65 (y d11_1) rfl <| k) ?_
  by_cases C1 : qc < (65 : Int32)
  · refine og2 X0 hx (fun j _ k => o_icmpNo j (y d11_3) (XT.ii_ge_f C1) <| o_iloadN j (y d11_6) rfl <| k) ?_
    exact rI X0 hx Bd (y d11_7) e0 ⟨(by simp [own_low, C1]), (Fr.nil n0), rfl⟩
  · refine og2 X0 hx (fun j _ k => o_icmpYes j (pc' := 8) (y d11_3) (XT.ii_ge_t C1) <| o_iloadN j (y d11_8) rfl <| o_bipushV j 32 (y d11_9) rfl <| o_ior j (y d11_11) <| o_istoreN j (y d11_12) (l' := #[.val (.ref qa), .val (.int qc), .val (.int (qc ||| (32 : Int32)))]) rfl <| o_iloadN j (y d11_13) rfl <| o_bipushV j 122 (y d11_14) rfl <| k) ?_
    by_cases C2 : (122 : Int32) < (qc ||| (32 : Int32))
    · refine og2 X0 hx (fun j _ k => o_icmpNo j (y d11_16) (XT.ii_le_f C2) <| o_iloadN j (y d11_19) rfl <| o_sipushV j 224 (y d11_20) rfl <| k) ?_
      by_cases C3 : (qc ||| (32 : Int32)) < (224 : Int32)
      · refine og2 X0 hx (fun j _ k => o_icmpYes j (pc' := 42) (y d11_23) (XT.ii_lt_t C3) <| o_iloadN j (y d11_42) rfl <| k) ?_
        exact rI X0 hx Bd (y d11_43) e0 ⟨(by simp [own_low, C1, C2, C3]), (Fr.nil n0), rfl⟩
      · refine og2 X0 hx (fun j _ k => o_icmpNo j (y d11_23) (XT.ii_lt_f C3) <| o_iloadN j (y d11_26) rfl <| o_sipushV j 254 (y d11_27) rfl <| k) ?_
        by_cases C4 : (254 : Int32) < (qc ||| (32 : Int32))
        · refine og2 X0 hx (fun j _ k => o_icmpYes j (pc' := 42) (y d11_30) (XT.ii_gt_t C4) <| o_iloadN j (y d11_42) rfl <| k) ?_
          exact rI X0 hx Bd (y d11_43) e0 ⟨(by simp [own_low, C1, C2, C3, C4]), (Fr.nil n0), rfl⟩
        · refine og2 X0 hx (fun j _ k => o_icmpNo j (y d11_30) (XT.ii_gt_f C4) <| o_iloadN j (y d11_33) rfl <| o_sipushV j 247 (y d11_34) rfl <| k) ?_
          by_cases C5 : (qc ||| (32 : Int32)) = (247 : Int32)
          · refine og2 X0 hx (fun j _ k => o_icmpYes j (pc' := 42) (y d11_37) (XT.ii_eq_t C5) <| o_iloadN j (y d11_42) rfl <| k) ?_
            exact rI X0 hx Bd (y d11_43) e0 ⟨(by simp [own_low, C1, C2, C3, C4, C5]), (Fr.nil n0), rfl⟩
          · refine og2 X0 hx (fun j _ k => o_icmpNo j (y d11_37) (XT.ii_eq_f C5) <| o_iloadN j (y d11_40) rfl <| k) ?_
            exact rI X0 hx Bd (y d11_41) e0 ⟨(by simp [own_low, C1, C2, C3, C4, C5]), (Fr.nil n0), rfl⟩
    · refine og2 X0 hx (fun j _ k => o_icmpYes j (pc' := 40) (y d11_16) (XT.ii_le_t C2) <| o_iloadN j (y d11_40) rfl <| k) ?_
      exact rI X0 hx Bd (y d11_41) e0 ⟨(by simp [own_low, C1, C2]), (Fr.nil n0), rfl⟩

abbrev k21 := jdk_43_method_4_code
theorem d46_0 : decode k21 0 = .ok (.iload_n 0, 1) := by decide +kernel
theorem d46_1 : decode k21 1 = .ok (.ifCond .lt 14, 3) := by decide +kernel
theorem d46_4 : decode k21 4 = .ok (.iload_n 0, 1) := by decide +kernel
theorem d46_5 : decode k21 5 = .ok (.sipush 255, 3) := by decide +kernel
theorem d46_8 : decode k21 8 = .ok (.if_icmp .gt 7, 3) := by decide +kernel
theorem d46_11 : decode k21 11 = .ok (.iconst 1, 1) := by decide +kernel
theorem d46_12 : decode k21 12 = .ok (.goto 4, 3) := by decide +kernel
theorem d46_16 : decode k21 16 = .ok (.ireturn, 1) := by decide +kernel
def QCE (Z : State) (qc : Int32) (h0 : Heap) (n0 : Nat) (v : Option Value) (h : Heap) (L : List Loc) : Prop := v = some (.int 1) ∧ Fr n0 L ∧ h = h0
theorem rmCE (l : Launch) (Z : State) (a0 : Array Value) (hw : HW a0 Z) (ws : List Jvm.Cond) (qc : Int32) (h0 : Heap) (n0 : Nat) (Z0 : n0 ≤ h0.size) (H0 : OB qc) :
    MF l Z ⟨"java/lang/StringLatin1", "canEncode", "(I)Z"⟩ jdk_43_method_4_code 1 (some .boolean) ws R_0_0_0_0 #[(.int qc)] h0 (QCE Z qc h0 n0) := by
  refine og_start (plainFor_of_name pn_java_lang_StringLatin1) fun p e s m below meth c s₁ Bd hx hby hml hZ hown hnm X0 e0 => ?_
  have y := @hb _ _ hby
  refine og (fun t k => castTop (ef0 m qc) k) ?_
  refine og2 X0 hx (fun j _ k => o_iloadN j (y d46_0) rfl <| o_ifNo j (y d46_1) (XT.i0_lt_f (own_ob0 H0)) <| o_iloadN j (y d46_4) rfl <| o_sipushV j 255 (y d46_5) rfl <| o_icmpNo j (y d46_8) (XT.ii_gt_f (own_ob255 H0)) <| o_iconstV j 1 (y d46_11) rfl <| o_goto j (pc' := 16) (y d46_12) <| k) ?_
  exact rN (v := (1 : Int32)) X0 hx Bd (by simp) rfl (y d46_16) e0 ⟨rfl, (Fr.nil n0), rfl⟩

abbrev k20 := jdk_43_method_3_code
theorem d42_0 : decode k20 0 = .ok (.iload_n 0, 1) := by decide +kernel
theorem d42_1 : decode k20 1 = .ok (.sipush 255, 3) := by decide +kernel
theorem d42_4 : decode k20 4 = .ok (.if_icmp .gt 7, 3) := by decide +kernel
theorem d42_7 : decode k20 7 = .ok (.iconst 1, 1) := by decide +kernel
theorem d42_8 : decode k20 8 = .ok (.goto 4, 3) := by decide +kernel
theorem d42_12 : decode k20 12 = .ok (.ireturn, 1) := by decide +kernel
def QCN (Z : State) (qc : Int32) (h0 : Heap) (n0 : Nat) (v : Option Value) (h : Heap) (L : List Loc) : Prop := v = some (.int 1) ∧ Fr n0 L ∧ h = h0
theorem rmCN (l : Launch) (Z : State) (a0 : Array Value) (hw : HW a0 Z) (ws : List Jvm.Cond) (qc : Int32) (h0 : Heap) (n0 : Nat) (Z0 : n0 ≤ h0.size) (H0 : OB qc) :
    MF l Z ⟨"java/lang/StringLatin1", "canEncode", "(C)Z"⟩ jdk_43_method_3_code 1 (some .boolean) ws R_0_0_0_0 #[(.int qc)] h0 (QCN Z qc h0 n0) := by
  refine og_start (plainFor_of_name pn_java_lang_StringLatin1) fun p e s m below meth c s₁ Bd hx hby hml hZ hown hnm X0 e0 => ?_
  have y := @hb _ _ hby
  refine og (fun t k => castTop (ef0 m qc) k) ?_
  refine og2 X0 hx (fun j _ k => o_iloadN j (y d42_0) rfl <| o_sipushV j 255 (y d42_1) rfl <| o_icmpNo j (y d42_4) (XT.ii_gt_f (own_ob255 H0)) <| o_iconstV j 1 (y d42_7) rfl <| o_goto j (pc' := 12) (y d42_8) <| k) ?_
  exact rN (v := (1 : Int32)) X0 hx Bd (by simp) rfl (y d42_12) e0 ⟨rfl, (Fr.nil n0), rfl⟩

abbrev k3 := jdk_3003_method_5_code
theorem d45_0 : decode k3 0 = .ok (.aload_n 0, 1) := by decide +kernel
theorem d45_1 : decode k3 1 = .ok (.getfield 19, 3) := by decide +kernel
theorem d45_4 : decode k3 4 = .ok (.areturn, 1) := by decide +kernel
theorem pn_sun_util_locale_BaseLocale : plainName "sun/util/locale/BaseLocale" = true := by first | (simp [plainName, overriddenIn]; done) | decide +kernel
def QBG (Z : State) (cs : Int32) (fm : Value) (lo : Addr) (bl : Addr) (la : Addr) (lb : Addr) (li : Addr) (h0 : Heap) (n0 : Nat) (v : Option Value) (h : Heap) (L : List Loc) : Prop := v = some (.ref la) ∧ Fr n0 L ∧ h = h0
theorem rmBG (l : Launch) (Z : State) (a0 : Array Value) (hw : HW a0 Z) (ws : List Jvm.Cond) (cs : Int32) (fm : Value) (lo : Addr) (bl : Addr) (la : Addr) (lb : Addr) (li : Addr) (h0 : Heap) (n0 : Nat) (Z0 : n0 ≤ h0.size) (H0 : OSt Z cs fm lo bl la lb li) (pr1 : Old Z n0 h0) :
    MF l Z ⟨"sun/util/locale/BaseLocale", "getLanguage", "()Ljava/lang/String;"⟩ jdk_3003_method_5_code 1 (some (.object "java/lang/String")) ws R_0_0_0_0 #[(.ref bl)] h0 (QBG Z cs fm lo bl la lb li h0 n0) := by
  refine og_start (plainFor_of_name pn_sun_util_locale_BaseLocale) fun p e s m below meth c s₁ Bd hx hby hml hZ hown hnm X0 e0 => ?_
  have y := @hb _ _ hby
  have w := @wd _ _ hw
  refine og (fun t k => castTop (ef2 m bl) k) ?_
  refine og2 X0 hx (fun j _ k => o_aloadN j (y d45_0) rfl rfl <| k) ?_
  refine g_getF X0 hx hZ hown (w 246 rfl) e0 (Fld.ext pr1.2 H0.blF) (y d45_1) (fun T1 X1 e1 => ?_)
  exact rA X1 hx Bd rfl rfl rfl (y d45_4) e1 ⟨rfl, (Fr.nil n0), rfl⟩

abbrev R_1_0_0_12 : Room := ({ frames := 1, cells := 0, slots := 0, locals := 12 } : Room)
abbrev k1 := jdk_2628_method_27_code
theorem d44_0 : decode k1 0 = .ok (.aload_n 0, 1) := by decide +kernel
theorem d44_1 : decode k1 1 = .ok (.getfield 28, 3) := by decide +kernel
theorem d44_4 : decode k1 4 = .ok (.invokevirtual 293, 3) := by decide +kernel
theorem d44_7 : decode k1 7 = .ok (.areturn, 1) := by decide +kernel
theorem pd_ocLjava_lang_Strings : parseMethodDescriptor "()Ljava/lang/String;" = some ⟨[], some (.object "java/lang/String")⟩ := by decide +kernel
theorem pn_java_util_Locale : plainName "java/util/Locale" = true := by first | (simp [plainName, overriddenIn]; done) | decide +kernel
def QGL (Z : State) (cs : Int32) (fm : Value) (lo : Addr) (bl : Addr) (la : Addr) (lb : Addr) (li : Addr) (h0 : Heap) (n0 : Nat) (v : Option Value) (h : Heap) (L : List Loc) : Prop := v = some (.ref la) ∧ Fr n0 L ∧ h = h0
theorem rmGL (l : Launch) (Z : State) (a0 : Array Value) (hw : HW a0 Z) (ws : List Jvm.Cond) (cs : Int32) (fm : Value) (lo : Addr) (bl : Addr) (la : Addr) (lb : Addr) (li : Addr) (h0 : Heap) (n0 : Nat) (Z0 : n0 ≤ h0.size) (H0 : OSt Z cs fm lo bl la lb li) (pr1 : Old Z n0 h0) :
    MF l Z ⟨"java/util/Locale", "getLanguage", "()Ljava/lang/String;"⟩ jdk_2628_method_27_code 1 (some (.object "java/lang/String")) ws R_1_0_0_12 #[(.ref lo)] h0 (QGL Z cs fm lo bl la lb li h0 n0) := by
  refine og_start (plainFor_of_name pn_java_util_Locale) fun p e s m below meth c s₁ Bd hx hby hml hZ hown hnm X0 e0 => ?_
  have y := @hb _ _ hby
  have w := @wd _ _ hw
  refine og (fun t k => castTop (ef2 m lo) k) ?_
  refine og2 X0 hx (fun j _ k => o_aloadN j (y d44_0) rfl rfl <| k) ?_
  refine g_getF X0 hx hZ hown (w 238 rfl) e0 (Fld.ext pr1.2 H0.loF) (y d44_1) (fun T1 X1 e1 => ?_)
  refine cV bl [] [] 0 X1 hx hZ hown (w 240 rfl) (w 241 rfl) (w 243 rfl) (w 242 rfl) (w 244 rfl) (w 245 rfl) (rmBG l Z a0 hw [] cs fm lo bl la lb li h0 n0 Z0 H0 pr1) e1 (Exa.ext pr1.2 H0.blE) hml pd_ocLjava_lang_Strings (y d44_4) (fun v2 T2 L2 hQ2 X2 => ?_)
  obtain ⟨rfl, N2a, eh2⟩ := hQ2
  have N2 := Fr.app (Fr.nil n0) N2a
  have e2 : T2.heap = h0 := eh2
  exact rA X2 hx Bd rfl rfl rfl (y d44_7) e2 ⟨rfl, N2, rfl⟩

abbrev k10 := jdk_42_method_151_code
theorem d47_0 : decode k10 0 = .ok (.aload_n 0, 1) := by decide +kernel
theorem d47_1 : decode k10 1 = .ok (.invokespecial 1, 3) := by decide +kernel
theorem d47_4 : decode k10 4 = .ok (.aload_n 0, 1) := by decide +kernel
theorem d47_5 : decode k10 5 = .ok (.aload_n 1, 1) := by decide +kernel
theorem d47_6 : decode k10 6 = .ok (.putfield 9, 3) := by decide +kernel
theorem d47_9 : decode k10 9 = .ok (.aload_n 0, 1) := by decide +kernel
theorem d47_10 : decode k10 10 = .ok (.iload_n 2, 1) := by decide +kernel
theorem d47_11 : decode k10 11 = .ok (.putfield 15, 3) := by decide +kernel
theorem d47_14 : decode k10 14 = .ok (.return_, 1) := by decide +kernel
theorem ef12 (m : MethodId) (x0 : Addr) (x1 : Addr) (x2 : Int32) : entryFrame m #[(.ref x0), (.ref x1), (.int x2)] 3 = (mkF m 0 #[.val (.ref x0), .val (.ref x1), .val (.int x2)] []) := by first | (simp [entryFrame, mkF, argsToLocals, Value.category]; done) | rfl
def QIB (Z : State) (sa : Addr) (ba : Addr) (h0 : Heap) (n0 : Nat) (v : Option Value) (h : Heap) (L : List Loc) : Prop := v = none ∧ Fr n0 L ∧ Keep h0 h [sa] ∧ Fld Z h sa "java/lang/String" "value" "[B" (.ref ba) ∧ Fld Z h sa "java/lang/String" "coder" "B" (.int 0) ∧ Exa Z h sa "java/lang/String"
theorem rmIB (l : Launch) (Z : State) (a0 : Array Value) (hw : HW a0 Z) (ws : List Jvm.Cond) (sa : Addr) (ba : Addr) (h0 : Heap) (n0 : Nat) (Z0 : n0 ≤ h0.size) (pr0 : Fld Z h0 sa "java/lang/String" "value" "[B" .null) (pr1 : Fld Z h0 sa "java/lang/String" "coder" "B" (.int 0)) (pr2 : Exa Z h0 sa "java/lang/String") (H3 : n0 ≤ sa) :
    MF l Z ⟨"java/lang/String", "<init>", "([BB)V"⟩ jdk_42_method_151_code 3 none ws R_1_0_0_12 #[(.ref sa), (.ref ba), (.int 0)] h0 (QIB Z sa ba h0 n0) := by
  refine og_start (plainFor_of_name pn_java_lang_String) fun p e s m below meth c s₁ Bd hx hby hml hZ hown hnm X0 e0 => ?_
  have y := @hb _ _ hby
  have w := @wd _ _ hw
  refine og (fun t k => castTop (ef12 m sa ba (0 : Int32)) k) ?_
  refine og2 X0 hx (fun j _ k => o_aloadN j (y d47_0) rfl rfl <| k) ?_
  refine cO 0 X0 hx hZ hown (w 11 rfl) (w 12 rfl) (w 13 rfl) e0 hml (y d47_1) (fun T1 X1 e1 => ?_)
  refine og2 X1 hx (fun j _ k => o_aloadN j (y d47_4) rfl rfl <| o_aloadN j (y d47_5) rfl rfl <| k) ?_
  refine pF (.array .byte) X1 hx hZ hown (w 28 rfl) e1 pr0 pr2 (Or.inr ⟨(w 29 rfl), rfl, hnm⟩) (w 2 rfl) (y d47_6) (fun T2 h2 X2 e2 W2 => ?_)
  have N2 := Fr.snoc X2 (Fr.nil n0) H3
  have P2 := (Keep.refl h0 [sa]).wr W2 (Or.inl (List.mem_of_getElem? (i := 0) rfl))
  have E3 := (Exa.wr W2 pr2)
  have F4 := (Fld.same W2 pr0)
  have F5 := (Fld.other W2 pr1 (Or.inr (slot_ne (C := "java/lang/String") (Or.inr (w 27 rfl)) (Or.inr (w 29 rfl)) (by decide) (t := .byte) (t' := (.array .byte)) (by decide) (by decide))))
  refine og2 X2 hx (fun j _ k => o_aloadN j (y d47_9) rfl rfl <| o_iloadN j (y d47_10) rfl <| k) ?_
  refine pF .byte X2 hx hZ hown (w 26 rfl) e2 F5 E3 (Or.inr ⟨(w 27 rfl), rfl, hnm⟩) (w 2 rfl) (y d47_11) (fun T6 h6 X6 e6 W6 => ?_)
  have N6 := Fr.snoc X6 N2 H3
  have P6 := P2.wr W6 (Or.inl (List.mem_of_getElem? (i := 0) rfl))
  have E7 := (Exa.wr W6 E3)
  have F8 := (Fld.other W6 F4 (Or.inr (slot_ne (C := "java/lang/String") (Or.inr (w 29 rfl)) (Or.inr (w 27 rfl)) (by decide) (t := (.array .byte)) (t' := .byte) (by decide) (by decide))))
  have F9 := (Fld.same W6 F5)
  exact r0 X6 hx Bd (y d47_14) e6 ⟨rfl, N6, P6, F8, F9, E7⟩

abbrev R_2_8_60_27 : Room := ({ frames := 2, cells := 8, slots := 60, locals := 27 } : Room)
abbrev k19 := jdk_43_method_32_code
theorem d10_0 : decode k19 0 = .ok (.aload_n 2, 1) := by decide +kernel
theorem d10_1 : decode k19 1 = .ok (.ifnonnull 11, 3) := by decide +kernel
theorem d10_12 : decode k19 12 = .ok (.aload_n 1, 1) := by decide +kernel
theorem d10_13 : decode k19 13 = .ok (.arraylength, 1) := by decide +kernel
theorem d10_14 : decode k19 14 = .ok (.istore 4, 2) := by decide +kernel
theorem d10_16 : decode k19 16 = .ok (.iconst 0, 1) := by decide +kernel
theorem d10_17 : decode k19 17 = .ok (.istore_n 3, 1) := by decide +kernel
theorem d10_18 : decode k19 18 = .ok (.iload_n 3, 1) := by decide +kernel
theorem d10_19 : decode k19 19 = .ok (.iload 4, 2) := by decide +kernel
theorem d10_21 : decode k19 21 = .ok (.if_icmp .ge 34, 3) := by decide +kernel
theorem d10_24 : decode k19 24 = .ok (.aload_n 1, 1) := by decide +kernel
theorem d10_25 : decode k19 25 = .ok (.iload_n 3, 1) := by decide +kernel
theorem d10_26 : decode k19 26 = .ok (.baload, 1) := by decide +kernel
theorem d10_27 : decode k19 27 = .ok (.sipush 255, 3) := by decide +kernel
theorem d10_30 : decode k19 30 = .ok (.iand, 1) := by decide +kernel
theorem d10_31 : decode k19 31 = .ok (.istore 5, 2) := by decide +kernel
theorem d10_33 : decode k19 33 = .ok (.iload 5, 2) := by decide +kernel
theorem d10_35 : decode k19 35 = .ok (.getstatic 66, 3) := by decide +kernel
theorem d10_38 : decode k19 38 = .ok (.iload 5, 2) := by decide +kernel
theorem d10_40 : decode k19 40 = .ok (.invokevirtual 160, 3) := by decide +kernel
theorem d10_43 : decode k19 43 = .ok (.if_icmp .eq 6, 3) := by decide +kernel
theorem d10_46 : decode k19 46 = .ok (.goto 9, 3) := by decide +kernel
theorem d10_49 : decode k19 49 = .ok (.iinc 3 1, 3) := by decide +kernel
theorem d10_52 : decode k19 52 = .ok (.goto (-34), 3) := by decide +kernel
theorem d10_55 : decode k19 55 = .ok (.iload_n 3, 1) := by decide +kernel
theorem d10_56 : decode k19 56 = .ok (.iload 4, 2) := by decide +kernel
theorem d10_58 : decode k19 58 = .ok (.if_icmp .ne 5, 3) := by decide +kernel
theorem d10_61 : decode k19 61 = .ok (.aload_n 0, 1) := by decide +kernel
theorem d10_62 : decode k19 62 = .ok (.areturn, 1) := by decide +kernel
theorem d10_63 : decode k19 63 = .ok (.aload_n 2, 1) := by decide +kernel
theorem d10_64 : decode k19 64 = .ok (.invokevirtual 162, 3) := by decide +kernel
theorem d10_67 : decode k19 67 = .ok (.astore 5, 2) := by decide +kernel
theorem d10_69 : decode k19 69 = .ok (.aload 5, 2) := by decide +kernel
theorem d10_71 : decode k19 71 = .ok (.ldc 168, 2) := by decide +kernel
theorem d10_73 : decode k19 73 = .ok (.if_acmp .eq 17, 3) := by decide +kernel
theorem d10_76 : decode k19 76 = .ok (.aload 5, 2) := by decide +kernel
theorem d10_78 : decode k19 78 = .ok (.ldc 170, 2) := by decide +kernel
theorem d10_80 : decode k19 80 = .ok (.if_acmp .eq 10, 3) := by decide +kernel
theorem d10_83 : decode k19 83 = .ok (.aload 5, 2) := by decide +kernel
theorem d10_85 : decode k19 85 = .ok (.ldc 172, 2) := by decide +kernel
theorem d10_87 : decode k19 87 = .ok (.if_acmp .ne 12, 3) := by decide +kernel
theorem d10_99 : decode k19 99 = .ok (.iload 4, 2) := by decide +kernel
theorem d10_101 : decode k19 101 = .ok (.newarray .byte, 2) := by decide +kernel
theorem d10_103 : decode k19 103 = .ok (.astore 6, 2) := by decide +kernel
theorem d10_105 : decode k19 105 = .ok (.aload_n 1, 1) := by decide +kernel
theorem d10_106 : decode k19 106 = .ok (.iconst 0, 1) := by decide +kernel
theorem d10_107 : decode k19 107 = .ok (.aload 6, 2) := by decide +kernel
theorem d10_109 : decode k19 109 = .ok (.iconst 0, 1) := by decide +kernel
theorem d10_110 : decode k19 110 = .ok (.iload_n 3, 1) := by decide +kernel
theorem d10_111 : decode k19 111 = .ok (.invokestatic 28, 3) := by decide +kernel
theorem d10_114 : decode k19 114 = .ok (.iload_n 3, 1) := by decide +kernel
theorem d10_115 : decode k19 115 = .ok (.istore 7, 2) := by decide +kernel
theorem d10_117 : decode k19 117 = .ok (.iload 7, 2) := by decide +kernel
theorem d10_119 : decode k19 119 = .ok (.iload 4, 2) := by decide +kernel
theorem d10_121 : decode k19 121 = .ok (.if_icmp .ge 54, 3) := by decide +kernel
theorem d10_124 : decode k19 124 = .ok (.aload_n 1, 1) := by decide +kernel
theorem d10_125 : decode k19 125 = .ok (.iload 7, 2) := by decide +kernel
theorem d10_127 : decode k19 127 = .ok (.baload, 1) := by decide +kernel
theorem d10_128 : decode k19 128 = .ok (.sipush 255, 3) := by decide +kernel
theorem d10_131 : decode k19 131 = .ok (.iand, 1) := by decide +kernel
theorem d10_132 : decode k19 132 = .ok (.istore 8, 2) := by decide +kernel
theorem d10_134 : decode k19 134 = .ok (.getstatic 66, 3) := by decide +kernel
theorem d10_137 : decode k19 137 = .ok (.iload 8, 2) := by decide +kernel
theorem d10_139 : decode k19 139 = .ok (.invokevirtual 160, 3) := by decide +kernel
theorem d10_142 : decode k19 142 = .ok (.istore 8, 2) := by decide +kernel
theorem d10_144 : decode k19 144 = .ok (.iload 8, 2) := by decide +kernel
theorem d10_146 : decode k19 146 = .ok (.invokestatic 88, 3) := by decide +kernel
theorem d10_149 : decode k19 149 = .ok (.ifCond .ne 12, 3) := by decide +kernel
theorem d10_161 : decode k19 161 = .ok (.aload 6, 2) := by decide +kernel
theorem d10_163 : decode k19 163 = .ok (.iload 7, 2) := by decide +kernel
theorem d10_165 : decode k19 165 = .ok (.iload 8, 2) := by decide +kernel
theorem d10_167 : decode k19 167 = .ok (.i2b, 1) := by decide +kernel
theorem d10_168 : decode k19 168 = .ok (.bastore, 1) := by decide +kernel
theorem d10_169 : decode k19 169 = .ok (.iinc 7 1, 3) := by decide +kernel
theorem d10_172 : decode k19 172 = .ok (.goto (-55), 3) := by decide +kernel
theorem d10_175 : decode k19 175 = .ok (.new 1, 3) := by decide +kernel
theorem d10_178 : decode k19 178 = .ok (.dup, 1) := by decide +kernel
theorem d10_179 : decode k19 179 = .ok (.aload 6, 2) := by decide +kernel
theorem d10_181 : decode k19 181 = .ok (.iconst 0, 1) := by decide +kernel
theorem d10_182 : decode k19 182 = .ok (.invokespecial 112, 3) := by decide +kernel
theorem d10_185 : decode k19 185 = .ok (.areturn, 1) := by decide +kernel
theorem pd_oIcI : parseMethodDescriptor "(I)I" = some ⟨[.int], some .int⟩ := by decide +kernel
theorem pd_oaBBcV : parseMethodDescriptor "([BB)V" = some ⟨[(.array .byte), .byte], none⟩ := by decide +kernel
theorem pd_oIcZ : parseMethodDescriptor "(I)Z" = some ⟨[.int], some .boolean⟩ := by decide +kernel
theorem ef13 (m : MethodId) (x0 : Addr) (x1 : Addr) (x2 : Addr) : entryFrame m #[(.ref x0), (.ref x1), (.ref x2)] 9 = (mkF m 0 #[.val (.ref x0), .val (.ref x1), .val (.ref x2), .unset, .unset, .unset, .unset, .unset, .unset] []) := by first | (simp [entryFrame, mkF, argsToLocals, Value.category]; done) | rfl
def QLT (Z : State) (cs : Int32) (fm : Value) (lo : Addr) (bl : Addr) (la : Addr) (lb : Addr) (li : Addr) (sa : Addr) (ba : Addr) (bk : ClassId) (L0 : List Int32) (h0 : Heap) (n0 : Nat) (v : Option Value) (h : Heap) (L : List Loc) : Prop := ∃ r : Addr, ∃ rb : Addr, ∃ rbk : ClassId, v = some (.ref r) ∧ Fr n0 L ∧ Keep h0 h [] ∧ Fld Z h r "java/lang/String" "value" "[B" (.ref rb) ∧ Fld Z h r "java/lang/String" "coder" "B" (.int 0) ∧ Exa Z h r "java/lang/String" ∧ Arv Z h rb rbk .byte (own_ln (L0.map own_low)) (own_vb (L0.map own_low)) (.int 0)
theorem rmLT (l : Launch) (Z : State) (a0 : Array Value) (hw : HW a0 Z) (ws : List Jvm.Cond) (cs : Int32) (fm : Value) (lo : Addr) (bl : Addr) (la : Addr) (lb : Addr) (li : Addr) (sa : Addr) (ba : Addr) (bk : ClassId) (L0 : List Int32) (h0 : Heap) (n0 : Nat) (Z0 : n0 ≤ h0.size) (H0 : OSt Z cs fm lo bl la lb li) (pr1 : Old Z n0 h0) (pr2 : Arv Z h0 ba bk .byte (own_ln L0) (own_vb L0) (.int 0)) (pr3 : Fld Z h0 sa "java/lang/String" "value" "[B" (.ref ba)) (pr4 : Fld Z h0 sa "java/lang/String" "coder" "B" (.int 0)) (pr5 : Exa Z h0 sa "java/lang/String") (H6 : OL L0) (H7 : L0.length < 20) :
    MetFree l (⟨"java/lang/StringLatin1", "toLowerCase", "(Ljava/lang/String;[BLjava/util/Locale;)Ljava/lang/String;"⟩ : MethodName) (head1 (Jvm.Cond.code (⟨"java/lang/StringLatin1", "toLowerCase", "(Ljava/lang/String;[BLjava/util/Locale;)Ljava/lang/String;"⟩ : MethodName) jdk_43_method_32_code 9 (some (.object "java/lang/String")) :: ws) R_2_8_60_27) (fun a U => a = #[(.ref sa), (.ref ba), (.ref lo)] ∧ Z.Warmed39 U.vm ∧ U.heap = h0 ∧ CHv Z own_EL U.vm h0) (fun _ _ _ _ _ => True) (fun _ U o U' => ∃ v L, o = .returned v ∧ QLT Z cs fm lo bl la lb li sa ba bk L0 h0 n0 v U'.heap L ∧ CHr Z own_EL U.vm U.heap U'.vm U'.heap ∧ ReturnedEndW U o U' L R_2_8_60_27.cells R_2_8_60_27.slots) := by
  refine og_startR (plainFor_of_name pn_java_lang_StringLatin1) fun p e s m below meth c s₁ Bd hx hby hml hZ hown hnm X0 e0 hS hkS hC0 => ?_
  have y := @hb _ _ hby
  have w := @wd _ _ hw
  refine og (fun t k => castTop (ef13 m sa ba lo) k) ?_
  refine og2 X0 hx (fun j _ k => o_aloadN j (y d10_0) rfl rfl <| o_ifnonnullYes j (pc' := 12) (y d10_1) <| o_aloadN j (y d10_12) rfl rfl <| o_alen X0 hx hZ e0 pr2 (y d10_13) <| o_istore j (y d10_14) (l' := #[.val (.ref sa), .val (.ref ba), .val (.ref lo), .unset, .val (.int (own_ln L0)), .unset, .unset, .unset, .unset]) rfl <| o_iconstV j 0 (y d10_16) rfl <| o_istoreN j (y d10_17) (l' := #[.val (.ref sa), .val (.ref ba), .val (.ref lo), .val (.int 0), .val (.int (own_ln L0)), .unset, .unset, .unset, .unset]) rfl <| k) ?_
  have LPp : ∀ (rp Ap : List Int32) (Ttp : State) (ltp : List Loc) (x5p : Slot), Ap ++ rp = L0 → Ap.map own_low = Ap → (x5p = .unset ∨ ∃ z, x5p = .val (.int z)) → Stand p l e R_2_8_60_27 (s.setVm s.vm) m #[(.ref sa), (.ref ba), (.ref lo)] below meth c Ttp ltp 0 0 → Ttp.heap = h0 → Fr n0 ltp → OG p.tables e below (fun o u => ∃ v L, o = .returned v ∧ QLT Z cs fm lo bl la lb li sa ba bk L0 h0 n0 v u.heap L ∧ CHr Z own_EL s.vm s.heap u.vm u.heap ∧ ReturnedEndW s o u L R_2_8_60_27.cells R_2_8_60_27.slots) (Ttp.setTop (mkF m 18 #[.val (.ref sa), .val (.ref ba), .val (.ref lo), .val (.int (own_ln Ap)), .val (.int (own_ln L0)), x5p, .unset, .unset, .unset] [])) := by
    intro rp
    induction rp with
    | nil =>
      intro Ap Ttp ltp x5p hAp hMp hx5p Xtp etp Ntp
      have hAp : Ap = L0 := by rw [← hAp]; exact (List.append_nil _).symm
      refine og2 Xtp hx (fun j _ k => o_iloadN j (y d10_18) rfl <| o_iload j (y d10_19) rfl <| o_icmpYes j (pc' := 55) (y d10_21) (XT.ii_ge_t (by rw [hAp]; exact own_irr32 _)) <| o_iloadN j (y d10_55) rfl <| o_iload j (y d10_56) rfl <| o_icmpNo j (y d10_58) (XT.ii_ne_f (by rw [hAp])) <| o_aloadN j (y d10_61) rfl rfl <| k) ?_
      exact rAR Xtp hx Bd hS hkS hZ (own_EW hw) hC0 rfl rfl rfl (y d10_62) etp ⟨sa, ba, bk, rfl, Ntp, (Keep.refl h0 []), pr3, pr4, pr5, (by rw [show L0.map own_low = L0 from hAp ▸ hMp]; exact pr2)⟩
    | cons cp rp ihp =>
      intro Ap Ttp ltp x5p hAp hMp hx5p Xtp etp Ntp
      refine og2 Xtp hx (fun j _ k => o_iloadN j (y d10_18) rfl <| o_iload j (y d10_19) rfl <| o_icmpNo j (y d10_21) (XT.ii_ge_f (own_mid hAp (Nat.lt_trans H7 (by decide)))) <| o_aloadN j (y d10_24) rfl rfl <| o_iloadN j (y d10_25) rfl <| o_baload (v := (.int (own_b cp))) Xtp hx hZ etp pr2 ⟨own_ln0 (Nat.lt_trans (own_midlt hAp) (Nat.lt_trans H7 (by decide))), own_mid hAp (Nat.lt_trans H7 (by decide))⟩ (own_vb_mid hAp (Nat.lt_trans H7 (by decide))) (y d10_26) <| o_sipushV j 255 (y d10_27) rfl <| o_iand j (y d10_30) <| k) ?_
      rw [(own_b255 (own_mid_ob hAp H6))]
      refine og2 Xtp hx (fun j _ k => o_istore j (y d10_31) (l' := #[.val (.ref sa), .val (.ref ba), .val (.ref lo), .val (.int (own_ln Ap)), .val (.int (own_ln L0)), .val (.int cp), .unset, .unset, .unset]) (own_st_9_5 _ hx5p) <| o_iload j (y d10_33) rfl <| k) ?_
      refine g_getS Xtp hx hZ hown (w 57 rfl) etp (Sta.ext pr1.2 H0.li) (y d10_35) (fun T1 X1 e1 => ?_)
      refine og2 X1 hx (fun j _ k => o_iload j (y d10_38) rfl <| k) ?_
      refine cV li [(.int cp)] [(.int cp)] 1 X1 hx hZ hown (w 59 rfl) (w 60 rfl) (w 62 rfl) (w 61 rfl) (w 58 rfl) (w 63 rfl) (rmTC l Z a0 hw [] li cp h0 n0 Z0) e1 (Exa.ext pr1.2 H0.liE) hml pd_oIcI (y d10_40) (fun v2 T2 L2 hQ2 X2 => ?_)
      obtain ⟨rfl, N2a, eh2⟩ := hQ2
      have N2 := Fr.app Ntp N2a
      have e2 : T2.heap = h0 := eh2
      by_cases C3 : cp = (own_low cp)
      · refine og2 X2 hx (fun j _ k => o_icmpYes j (pc' := 49) (y d10_43) (XT.ii_eq_t C3) <| o_iincV j 1 (y d10_49) rfl rfl (l' := #[.val (.ref sa), .val (.ref ba), .val (.ref lo), .val (.int ((own_ln Ap) + (1 : Int32))), .val (.int (own_ln L0)), .val (.int cp), .unset, .unset, .unset]) rfl <| k) ?_
        rw [(own_ln_app Ap cp)]
        refine og2 X2 hx (fun j _ k => o_goto j (pc' := 18) (y d10_52) <| k) ?_
        exact ihp (Ap ++ [cp]) _ _ (.val (.int cp)) (by rw [List.append_assoc]; exact hAp) (own_mapapp hMp C3) (Or.inr ⟨_, rfl⟩) X2 e2 N2
      · refine og2 X2 hx (fun j _ k => o_icmpNo j (y d10_43) (XT.ii_eq_f C3) <| o_goto j (pc' := 55) (y d10_46) <| o_iloadN j (y d10_55) rfl <| o_iload j (y d10_56) rfl <| o_icmpYes j (pc' := 63) (y d10_58) (XT.ii_ne_t (own_midne hAp (Nat.lt_trans H7 (by decide)))) <| o_aloadN j (y d10_63) rfl rfl <| k) ?_
        refine cV lo [] [] 0 X2 hx hZ hown (w 233 rfl) (w 234 rfl) (w 236 rfl) (w 235 rfl) (w 42 rfl) (w 237 rfl) (rmGL l Z a0 hw [] cs fm lo bl la lb li h0 n0 Z0 H0 pr1) e2 (Exa.ext pr1.2 H0.loE) hml pd_ocLjava_lang_Strings (y d10_64) (fun v4 T4 L4 hQ4 X4 => ?_)
        obtain ⟨rfl, N4a, eh4⟩ := hQ4
        have N4 := Fr.app N2 N4a
        have e4 : T4.heap = h0 := eh4
        refine og2 X4 hx (fun j _ k => o_astore j (y d10_67) rfl (l' := #[.val (.ref sa), .val (.ref ba), .val (.ref lo), .val (.int (own_ln Ap)), .val (.int (own_ln L0)), .val (.ref la), .unset, .unset, .unset]) rfl <| o_aload j (y d10_69) rfl rfl <| k) ?_
        refine gL [.int 116, .int 114] 2 8 X4 hx hZ hown hw (w 248 rfl) e4 hS hkS hC0.1 (y d10_71) (fun a5 T5 h5 ks5 b5 kb5 X5 e5 E5 hS hkS hZ hown EA5 FC5 FV5 AB5 CR5 LT5 NS5 => ?_)
        have CR6 := hC0.trans CR5
        have Z5 : n0 ≤ h5.size := (Nat.le_trans Z0 E5.1)
        have P5 := (Keep.refl h0 []).ext E5
        have O7 := (pr1.ext E5)
        have A8 := (pr2.ext E5)
        refine og2 X5 hx (fun j _ k => o_acmpNo j (y d10_73) rfl rfl (XT.aa_eq_f (own_lang O7 (Fld.ext O7.2 H0.laF) H0.lbL FV5 AB5 (by decide))) <| o_aload j (y d10_76) rfl rfl <| k) ?_
        refine gL [.int 97, .int 122] 2 8 X5 hx hZ hown hw (w 249 rfl) e5 hS hkS CR6.1 (y d10_78) (fun a12 T12 h12 ks12 b12 kb12 X12 e12 E12 hS hkS hZ hown EA12 FC12 FV12 AB12 CR12 LT12 NS12 => ?_)
        have CR13 := CR6.trans CR12
        have Z12 : n0 ≤ h12.size := (Nat.le_trans Z5 E12.1)
        have P12 := P5.ext E12
        have O14 := (O7.ext E12)
        have A15 := (A8.ext E12)
        refine og2 X12 hx (fun j _ k => o_acmpNo j (y d10_80) rfl rfl (XT.aa_eq_f (own_lang O14 (Fld.ext O14.2 H0.laF) H0.lbL FV12 AB12 (by decide))) <| o_aload j (y d10_83) rfl rfl <| k) ?_
        refine gL [.int 108, .int 116] 2 8 X12 hx hZ hown hw (w 250 rfl) e12 hS hkS CR13.1 (y d10_85) (fun a24 T24 h24 ks24 b24 kb24 X24 e24 E24 hS hkS hZ hown EA24 FC24 FV24 AB24 CR24 LT24 NS24 => ?_)
        have CR25 := CR13.trans CR24
        have Z24 : n0 ≤ h24.size := (Nat.le_trans Z12 E24.1)
        have P24 := P12.ext E24
        have O26 := (O14.ext E24)
        have A27 := (A15.ext E24)
        refine og2 X24 hx (fun j _ k => o_acmpYes j (pc' := 99) (y d10_87) rfl rfl (XT.aa_ne_t (own_lang O26 (Fld.ext O26.2 H0.laF) H0.lbL FV24 AB24 (by decide))) <| o_iload j (y d10_99) rfl <| k) ?_
        refine nP .byte 20 "[B" X24 hx hZ (w 19 rfl) e24 (y d10_101) (fun T41 h41 a41 kc41 g41 X41 e41 E41 A41 D41 => ?_) (hn := (own_ln0 (Nat.lt_trans H7 (by decide)))) (hcap := (by rw [own_ln_nat (Nat.lt_trans H7 (by decide))]; exact Nat.le_of_lt H7))
        have Z41 : n0 ≤ h41.size := Nat.le_trans Z24 E41.1
        have G41 : n0 ≤ a41 := Nat.le_trans Z24 (Nat.le_of_eq g41.symm)
        have GK41 : h0.size ≤ a41 := Nat.le_trans P24.1 (Nat.le_of_eq g41.symm)
        have P41 := P24.ext E41
        have CR42 := CR25.trans (CHr.ext E41 CR25.1)
        have O43 := (O26.ext E41)
        have A44 := (A27.ext E41)
        have SF41_a41 := Safe.ext E41 CR25.1 (Safe.new (Nat.le_of_eq g41.symm))
        have A63 : Arv Z h41 a41 kc41 .byte (own_ln L0) (own_pb L0.length []) (.int 0) := (A41.pad (pad_rep [] _ L0.length))
        refine og2 X41 hx (fun j _ k => o_astore j (y d10_103) rfl (l' := #[.val (.ref sa), .val (.ref ba), .val (.ref lo), .val (.int (own_ln Ap)), .val (.int (own_ln L0)), .val (.ref la), .val (.ref a41), .unset, .unset]) rfl <| o_aloadN j (y d10_105) rfl rfl <| o_iconstV j 0 (y d10_106) rfl <| o_aload j (y d10_107) rfl rfl <| o_iconstV j 0 (y d10_109) rfl <| o_iloadN j (y d10_110) rfl <| k) ?_
        obtain ⟨T64, h64, L64, X64, e64, N64, K64, B64, st64⟩ := cpA X41 hx hZ hown (w 251 rfl) (w 130 rfl) (w 128 rfl) (w 129 rfl) e41 A44 A63 (us := (own_vb Ap)) (Or.inl ⟨rfl, rfl⟩) (by decide) (by decide) (own_ln0 (Nat.lt_trans (own_midlt hAp) (Nat.lt_trans H7 (by decide)))) (by rw [own_ln_nat (Nat.lt_trans (own_midlt hAp) (Nat.lt_trans H7 (by decide))), own_ln_nat (Nat.lt_trans H7 (by decide)), show (0 : Int32).toNatClampNeg = 0 from rfl, Nat.zero_add]; exact Nat.le_of_lt (own_midlt hAp)) (by rw [own_ln_nat (Nat.lt_trans (own_midlt hAp) (Nat.lt_trans H7 (by decide))), own_ln_nat (Nat.lt_trans H7 (by decide)), show (0 : Int32).toNatClampNeg = 0 from rfl, Nat.zero_add]; exact Nat.le_of_lt (own_midlt hAp)) (own_copy2 hAp (Nat.lt_trans H7 (by decide))) (by rw [own_pb_len (Nat.zero_le _), own_ln_nat (Nat.lt_trans (own_midlt hAp) (Nat.lt_trans H7 (by decide))), show (0 : Int32).toNatClampNeg = 0 from rfl, Nat.zero_add]; exact Nat.le_of_lt (own_midlt hAp)) N4 G41 (g := (mkF m 111 #[.val (.ref sa), .val (.ref ba), .val (.ref lo), .val (.int (own_ln Ap)), .val (.int (own_ln L0)), .val (.ref la), .val (.ref a41), .unset, .unset] [(.int (own_ln Ap)), (.int 0), (.ref a41), (.int 0), (.ref ba)])) rfl (by rw [hml]; rfl) (rest := []) rfl (y d10_111) (by decide) (W := 0) (by show 2 * 0 + _ ≤ _; exact Nat.le_of_eq rfl) (by decide)
        have Z64 : n0 ≤ h64.size := (Nat.le_trans Z41 K64.1)
        have P64 : Keep h0 h64 [] := (P41.trans K64 (allS (Or.inr GK41) all0))
        have SF65_a41 := Safe.keep K64 (allS SF41_a41 all0) CR42.1 SF41_a41
        have CR65 := CR42.trans (CHr.keep K64 (allS SF41_a41 all0) CR42.1)
        have O66 := (O43.keep K64 (allS G41 all0))
        have A67 := (A44.keep K64 (ninS (Nat.ne_of_lt (Nat.lt_of_lt_of_eq A27.lt g41.symm)) nin0))
        have B64v : Arv Z h64 a41 kc41 .byte (own_ln L0) (own_pb L0.length (Ap.map own_low)) (.int 0) := (by have q := B64; rw [own_conv L0.length Ap _ _ rfl (own_ln_nat (Nat.lt_trans (own_midlt hAp) (Nat.lt_trans H7 (by decide))))] at q; rw [hMp]; exact q)
        refine og st64 ?_
        change OG _ _ _ _ (T64.setTop (mkF m 114 #[.val (.ref sa), .val (.ref ba), .val (.ref lo), .val (.int (own_ln Ap)), .val (.int (own_ln L0)), .val (.ref la), .val (.ref a41), .unset, .unset] []))
        refine og2 X64 hx (fun j _ k => o_iloadN j (y d10_114) rfl <| o_istore j (y d10_115) (l' := #[.val (.ref sa), .val (.ref ba), .val (.ref lo), .val (.int (own_ln Ap)), .val (.int (own_ln L0)), .val (.ref la), .val (.ref a41), .val (.int (own_ln Ap)), .unset]) rfl <| k) ?_
        have LPq : ∀ (rq Aq : List Int32) (Ttq : State) (ltq : List Loc) (x8q : Slot) (htq : Heap), Aq ++ rq = L0 → (x8q = .unset ∨ ∃ z, x8q = .val (.int z)) → Stand p l e R_2_8_60_27 (s.setVm T24.vm) m #[(.ref sa), (.ref ba), (.ref lo)] below meth c Ttq ltq 7 56 → Ttq.heap = htq → Fr n0 ltq → n0 ≤ htq.size → Keep h0 htq [] → ks24 ≤ htq.size → Old Z n0 htq → Arv Z htq ba bk .byte (own_ln L0) (own_vb L0) (.int 0) → Arv Z htq a41 kc41 .byte (own_ln L0) (own_pb L0.length (Aq.map own_low)) (.int 0) → CHr Z own_EL s.vm s.heap T24.vm htq → Safe Z own_EL T24.vm htq a41 → OG p.tables e below (fun o u => ∃ v L, o = .returned v ∧ QLT Z cs fm lo bl la lb li sa ba bk L0 h0 n0 v u.heap L ∧ CHr Z own_EL s.vm s.heap u.vm u.heap ∧ ReturnedEndW s o u L R_2_8_60_27.cells R_2_8_60_27.slots) (Ttq.setTop (mkF m 117 #[.val (.ref sa), .val (.ref ba), .val (.ref lo), .val (.int (own_ln Ap)), .val (.int (own_ln L0)), .val (.ref la), .val (.ref a41), .val (.int (own_ln Aq)), x8q] [])) := by
          intro rq
          induction rq with
          | nil =>
            intro Aq Ttq ltq x8q htq hAq hx8q Xtq etq Ntq Ztq Ptq hktq Fqt0 Fqt1 Fqt2 CRtq SFtq_a41
            have hAq : Aq = L0 := by rw [← hAq]; exact (List.append_nil _).symm
            refine og2 Xtq hx (fun j _ k => o_iload j (y d10_117) rfl <| o_iload j (y d10_119) rfl <| o_icmpYes j (pc' := 175) (y d10_121) (XT.ii_ge_t (by rw [hAq]; exact own_irr32 _)) <| k) ?_
            refine nO Xtq hx hZ hown (w 255 rfl) (w 2 rfl) (w 3 rfl) etq (y d10_175) (fun T86 h86 a86 g86 X86 e86 E86 A86 D86 => ?_)
            have Z86 : n0 ≤ h86.size := Nat.le_trans Ztq E86.1
            have G86 : n0 ≤ a86 := Nat.le_trans Ztq (Nat.le_of_eq g86.symm)
            have GK86 : h0.size ≤ a86 := Nat.le_trans Ptq.1 (Nat.le_of_eq g86.symm)
            have P86 := Ptq.ext E86
            have CR87 := CRtq.trans (CHr.ext E86 CRtq.1)
            have A90 := (Fqt2.ext E86)
            have SF86_a86 := Safe.ext E86 CRtq.1 (Safe.new (Nat.le_of_eq g86.symm))
            have F91 : Fld Z h86 a86 "java/lang/String" "coder" "B" (.int 0) := (D86 (Or.inr (w 27 rfl)) (ty := .byte) (by decide))
            have F92 : Fld Z h86 a86 "java/lang/String" "value" "[B" .null := (D86 (Or.inr (w 29 rfl)) (ty := (.array .byte)) (by decide))
            refine og2 X86 hx (fun j _ k => o_dup j (y d10_178) rfl <| o_aload j (y d10_179) rfl rfl <| o_iconstV j 0 (y d10_181) rfl <| k) ?_
            refine cI a86 [(.ref a41), (.int 0)] [(.ref a86)] 1 X86 hx hZ hown (w 256 rfl) (w 257 rfl) (w 3 rfl) (w 258 rfl) (rmIB l Z a0 hw [] a86 a41 h86 n0 Z86 F92 F91 A86 G86) e86 hml pd_oaBBcV (y d10_182) (fun v93 T93 L93 hQ93 X93 => ?_)
            obtain ⟨rfl, N93a, K93, Q93_0, Q93_1, Q93_2⟩ := hQ93
            have N93 := Fr.app Ntq N93a
            have e93 : T93.heap = T93.heap := rfl
            have P93 : Keep h0 T93.heap [] := (P86.trans K93 (allS (Or.inr GK86) all0))
            have CR94 := CR87.trans (CHr.keep K93 (allS SF86_a86 all0) CR87.1)
            have A97 := (A90.keep K93 (ninS (Nat.ne_of_lt (Nat.lt_of_lt_of_eq Fqt2.lt g86.symm)) nin0))
            exact rAR X93 hx Bd hS (Nat.le_trans (Nat.le_trans hktq E86.1) K93.1) hZ (own_EW hw) CR94 rfl rfl rfl (y d10_185) e93 ⟨a86, a41, kc41, rfl, N93, P93, Q93_0, Q93_1, Q93_2, (by have q := A97; rw [hAq, own_pb_full (List.length_map _), ← own_lnmap L0] at q; exact q)⟩
          | cons cq rq ihq =>
            intro Aq Ttq ltq x8q htq hAq hx8q Xtq etq Ntq Ztq Ptq hktq Fqt0 Fqt1 Fqt2 CRtq SFtq_a41
            refine og2 Xtq hx (fun j _ k => o_iload j (y d10_117) rfl <| o_iload j (y d10_119) rfl <| o_icmpNo j (y d10_121) (XT.ii_ge_f (own_mid hAq (Nat.lt_trans H7 (by decide)))) <| o_aloadN j (y d10_124) rfl rfl <| o_iload j (y d10_125) rfl <| o_baload (v := (.int (own_b cq))) Xtq hx hZ etq Fqt1 ⟨own_ln0 (Nat.lt_trans (own_midlt hAq) (Nat.lt_trans H7 (by decide))), own_mid hAq (Nat.lt_trans H7 (by decide))⟩ (own_vb_mid hAq (Nat.lt_trans H7 (by decide))) (y d10_127) <| o_sipushV j 255 (y d10_128) rfl <| o_iand j (y d10_131) <| k) ?_
            rw [(own_b255 (own_mid_ob hAq H6))]
            refine og2 Xtq hx (fun j _ k => o_istore j (y d10_132) (l' := #[.val (.ref sa), .val (.ref ba), .val (.ref lo), .val (.int (own_ln Ap)), .val (.int (own_ln L0)), .val (.ref la), .val (.ref a41), .val (.int (own_ln Aq)), .val (.int cq)]) (own_st_9_8 _ hx8q) <| k) ?_
            refine g_getS Xtq hx hZ hown (w 57 rfl) etq (Sta.ext Fqt0.2 H0.li) (y d10_134) (fun T99 X99 e99 => ?_)
            refine og2 X99 hx (fun j _ k => o_iload j (y d10_137) rfl <| k) ?_
            refine cV li [(.int cq)] [] 0 X99 hx hZ hown (w 59 rfl) (w 60 rfl) (w 62 rfl) (w 61 rfl) (w 58 rfl) (w 63 rfl) (rmTC l Z a0 hw [] li cq htq n0 Ztq) e99 (Exa.ext Fqt0.2 H0.liE) hml pd_oIcI (y d10_139) (fun v100 T100 L100 hQ100 X100 => ?_)
            obtain ⟨rfl, N100a, eh100⟩ := hQ100
            have N100 := Fr.app Ntq N100a
            have e100 : T100.heap = htq := eh100
            refine og2 X100 hx (fun j _ k => o_istore j (y d10_142) (l' := #[.val (.ref sa), .val (.ref ba), .val (.ref lo), .val (.int (own_ln Ap)), .val (.int (own_ln L0)), .val (.ref la), .val (.ref a41), .val (.int (own_ln Aq)), .val (.int (own_low cq))]) rfl <| o_iload j (y d10_144) rfl <| k) ?_
            refine cS [(.int (own_low cq))] [] 0 X100 hx hZ hown (w 252 rfl) (w 253 rfl) (w 55 rfl) (w 254 rfl) (rmCE l Z a0 hw [] (own_low cq) htq n0 Ztq (own_low_ob (own_mid_ob hAq H6))) e100 hml pd_oIcZ (y d10_146) (fun v101 T101 L101 hQ101 X101 => ?_)
            obtain ⟨rfl, N101a, eh101⟩ := hQ101
            have N101 := Fr.app N100 N101a
            have e101 : T101.heap = htq := eh101
            refine og2 X101 hx (fun j _ k => o_ifYes j (pc' := 161) (y d10_149) (by decide) <| o_aload j (y d10_161) rfl rfl <| o_iload j (y d10_163) rfl <| o_iload j (y d10_165) rfl <| o_i2bO j (y d10_167) <| k) ?_
            refine sBs (v := own_b (own_low cq)) ((Aq.map own_low).length) X101 hx hZ e101 Fqt2 (own_nar_b _) ⟨own_ln0 (Nat.lt_trans (own_midlt hAq) (Nat.lt_trans H7 (by decide))), own_mid hAq (Nat.lt_trans H7 (by decide))⟩ (by rw [own_ln_nat (Nat.lt_trans (own_midlt hAq) (Nat.lt_trans H7 (by decide))), List.length_map]) (by rw [own_pb_len (by rw [List.length_map]; exact Nat.le_of_lt (own_midlt hAq)), List.length_map]; exact own_midlt hAq) ((own_pb_set _ (by rw [List.length_map]; exact own_midlt hAq)).trans (congrArg (own_pb L0.length) (own_mapsnoc Aq cq))) (y d10_168) (fun T102 h102 X102 e102 W102 A102 => ?_)
            have SF103_a41 := Safe.wr W102 SFtq_a41 CRtq.1 SFtq_a41
            have CR103 := CRtq.trans (CHr.wr W102 SFtq_a41 CRtq.1)
            have N102 := Fr.snoc X102 N101 G41
            have P102 := Ptq.wr W102 (Or.inr GK41)
            have Z102 : n0 ≤ h102.size := (by rw [W102.size]; exact Ztq)
            have O104 := (Fqt0.wr W102 G41)
            have A105 := (Fqt1.other W102 (Nat.ne_of_lt (Nat.lt_of_lt_of_eq A27.lt g41.symm)))
            have A102v : Arv Z h102 a41 kc41 .byte (own_ln L0) (own_pb L0.length ((Aq ++ [cq]).map own_low)) (.int 0) := A102
            refine og2 X102 hx (fun j _ k => o_iincV j 1 (y d10_169) rfl rfl (l' := #[.val (.ref sa), .val (.ref ba), .val (.ref lo), .val (.int (own_ln Ap)), .val (.int (own_ln L0)), .val (.ref la), .val (.ref a41), .val (.int ((own_ln Aq) + (1 : Int32))), .val (.int (own_low cq))]) rfl <| k) ?_
            rw [(own_ln_app Aq cq)]
            refine og2 X102 hx (fun j _ k => o_goto j (pc' := 117) (y d10_172) <| k) ?_
            exact ihq (Aq ++ [cq]) _ _ (.val (.int (own_low cq))) _ (by rw [List.append_assoc]; exact hAq) (Or.inr ⟨_, rfl⟩) X102 e102 N102 Z102 P102 (Nat.le_trans hktq (Nat.le_of_eq W102.size.symm)) O104 A105 A102v CR103 SF103_a41
        exact LPq (cp :: rp) Ap _ _ .unset _ hAp (Or.inl rfl) X64 e64 N64 Z64 P64 (Nat.le_trans (Nat.le_trans hkS E41.1) K64.1) O66 A67 B64v CR65 SF65_a41
  exact LPp (L0) [] _ _ .unset rfl rfl (Or.inl rfl) X0 e0 (Fr.nil n0)

abbrev R_3_8_60_47 : Room := ({ frames := 3, cells := 8, slots := 60, locals := 47 } : Room)
abbrev k6 := jdk_42_method_109_code
theorem d8_0 : decode k6 0 = .ok (.aload_n 0, 1) := by decide +kernel
theorem d8_1 : decode k6 1 = .ok (.invokevirtual 492, 3) := by decide +kernel
theorem d8_4 : decode k6 4 = .ok (.ifCond .eq 15, 3) := by decide +kernel
theorem d8_7 : decode k6 7 = .ok (.aload_n 0, 1) := by decide +kernel
theorem d8_8 : decode k6 8 = .ok (.aload_n 0, 1) := by decide +kernel
theorem d8_9 : decode k6 9 = .ok (.getfield 9, 3) := by decide +kernel
theorem d8_12 : decode k6 12 = .ok (.aload_n 1, 1) := by decide +kernel
theorem d8_13 : decode k6 13 = .ok (.invokestatic 839, 3) := by decide +kernel
theorem d8_16 : decode k6 16 = .ok (.goto 12, 3) := by decide +kernel
theorem d8_28 : decode k6 28 = .ok (.areturn, 1) := by decide +kernel
theorem pd_oLjava_lang_StringsaBLjava_util_LocalescLjava_lang_Strings : parseMethodDescriptor "(Ljava/lang/String;[BLjava/util/Locale;)Ljava/lang/String;" = some ⟨[(.object "java/lang/String"), (.array .byte), (.object "java/util/Locale")], some (.object "java/lang/String")⟩ := by decide +kernel
def QTL (Z : State) (cs : Int32) (fm : Value) (lo : Addr) (bl : Addr) (la : Addr) (lb : Addr) (li : Addr) (sa : Addr) (ba : Addr) (bk : ClassId) (L0 : List Int32) (h0 : Heap) (n0 : Nat) (v : Option Value) (h : Heap) (L : List Loc) : Prop := ∃ r : Addr, ∃ rb : Addr, ∃ rbk : ClassId, v = some (.ref r) ∧ Fr n0 L ∧ Keep h0 h [] ∧ Fld Z h r "java/lang/String" "value" "[B" (.ref rb) ∧ Fld Z h r "java/lang/String" "coder" "B" (.int 0) ∧ Exa Z h r "java/lang/String" ∧ Arv Z h rb rbk .byte (own_ln (L0.map own_low)) (own_vb (L0.map own_low)) (.int 0)
theorem rmTL (l : Launch) (Z : State) (a0 : Array Value) (hw : HW a0 Z) (ws : List Jvm.Cond) (cs : Int32) (fm : Value) (lo : Addr) (bl : Addr) (la : Addr) (lb : Addr) (li : Addr) (sa : Addr) (ba : Addr) (bk : ClassId) (L0 : List Int32) (h0 : Heap) (n0 : Nat) (Z0 : n0 ≤ h0.size) (H0 : OSt Z cs fm lo bl la lb li) (pr1 : Old Z n0 h0) (pr2 : Arv Z h0 ba bk .byte (own_ln L0) (own_vb L0) (.int 0)) (pr3 : Fld Z h0 sa "java/lang/String" "value" "[B" (.ref ba)) (pr4 : Fld Z h0 sa "java/lang/String" "coder" "B" (.int 0)) (pr5 : Exa Z h0 sa "java/lang/String") (H6 : OL L0) (H7 : L0.length < 20) :
    MetFree l (⟨"java/lang/String", "toLowerCase", "(Ljava/util/Locale;)Ljava/lang/String;"⟩ : MethodName) (head1 (Jvm.Cond.code (⟨"java/lang/String", "toLowerCase", "(Ljava/util/Locale;)Ljava/lang/String;"⟩ : MethodName) jdk_42_method_109_code 2 (some (.object "java/lang/String")) :: ws) R_3_8_60_47) (fun a U => a = #[(.ref sa), (.ref lo)] ∧ Z.Warmed39 U.vm ∧ U.heap = h0 ∧ CHv Z own_EL U.vm h0) (fun _ _ _ _ _ => True) (fun _ U o U' => ∃ v L, o = .returned v ∧ QTL Z cs fm lo bl la lb li sa ba bk L0 h0 n0 v U'.heap L ∧ CHr Z own_EL U.vm U.heap U'.vm U'.heap ∧ ReturnedEndW U o U' L R_3_8_60_47.cells R_3_8_60_47.slots) := by
  refine og_startR (plainFor_of_name pn_java_lang_String) fun p e s m below meth c s₁ Bd hx hby hml hZ hown hnm X0 e0 hS hkS hC0 => ?_
  have y := @hb _ _ hby
  have w := @wd _ _ hw
  refine og (fun t k => castTop (ef10 m sa lo) k) ?_
  refine og2 X0 hx (fun j _ k => o_aloadN j (y d8_0) rfl rfl <| k) ?_
  refine cV sa [] [] 0 X0 hx hZ hown (w 48 rfl) (w 49 rfl) (w 51 rfl) (w 50 rfl) (w 3 rfl) (w 52 rfl) (rmIL l Z a0 hw [] cs fm lo bl la lb li sa h0 n0 Z0 H0 pr1 pr4) e0 pr5 hml pd_ocZ (y d8_1) (fun v1 T1 L1 hQ1 X1 => ?_)
  obtain ⟨rfl, N1a, eh1⟩ := hQ1
  have N1 := Fr.app (Fr.nil n0) N1a
  have e1 : T1.heap = h0 := eh1
  refine og2 X1 hx (fun j _ k => o_ifNo j (y d8_4) (by decide) <| o_aloadN j (y d8_7) rfl rfl <| o_aloadN j (y d8_8) rfl rfl <| k) ?_
  refine g_getF X1 hx hZ hown (w 28 rfl) e1 pr3 (y d8_9) (fun T2 X2 e2 => ?_)
  refine og2 X2 hx (fun j _ k => o_aloadN j (y d8_12) rfl rfl <| k) ?_
  refine cSH [(.ref sa), (.ref ba), (.ref lo)] [] 0 X2 hx hZ hown hS hkS (w 53 rfl) (w 54 rfl) (w 55 rfl) (w 56 rfl) (own_EW hw) hC0.1 (rmLT l Z a0 hw [] cs fm lo bl la lb li sa ba bk L0 h0 n0 Z0 H0 pr1 pr2 pr3 pr4 pr5 H6 H7) e2 hml pd_oLjava_lang_StringsaBLjava_util_LocalescLjava_lang_Strings (y d8_13) (fun v3 T3 L3 hQ3 X3 hS hZ hown CC3 => ?_)
  have CR4 := hC0.trans CC3
  obtain ⟨r_3, rb_3, rbk_3, rfl, N3a, K3, Q3_0, Q3_1, Q3_2, Q3_3⟩ := hQ3
  have N3 := Fr.app N1 N3a
  have e3 : T3.heap = T3.heap := rfl
  have P3 : Keep h0 T3.heap [] := ((Keep.refl h0 []).trans K3 all0)
  have hkS : T3.heap.size ≤ T3.heap.size := Nat.le_refl _
  refine og2 X3 hx (fun j _ k => o_goto j (pc' := 28) (y d8_16) <| k) ?_
  exact rAR X3 hx Bd hS hkS hZ (own_EW hw) CR4 rfl rfl rfl (y d8_28) e3 ⟨r_3, rb_3, rbk_3, rfl, N3, P3, Q3_0, Q3_1, Q3_2, Q3_3⟩

abbrev k4 := jdk_31_method_11_code
theorem d7_0 : decode k4 0 = .ok (.aload_n 0, 1) := by decide +kernel
theorem d7_1 : decode k4 1 = .ok (.ifnonnull 12, 3) := by decide +kernel
theorem d7_13 : decode k4 13 = .ok (.aload_n 0, 1) := by decide +kernel
theorem d7_14 : decode k4 14 = .ok (.areturn, 1) := by decide +kernel
theorem pn_java_util_Objects : plainName "java/util/Objects" = true := by first | (simp [plainName, overriddenIn]; done) | decide +kernel
def QRN (Z : State) (qa : Addr) (qb : Addr) (h0 : Heap) (n0 : Nat) (v : Option Value) (h : Heap) (L : List Loc) : Prop := v = some (.ref qa) ∧ Fr n0 L ∧ h = h0
theorem rmRN (l : Launch) (Z : State) (a0 : Array Value) (hw : HW a0 Z) (ws : List Jvm.Cond) (qa : Addr) (qb : Addr) (h0 : Heap) (n0 : Nat) (Z0 : n0 ≤ h0.size) :
    MF l Z ⟨"java/util/Objects", "requireNonNull", "(Ljava/lang/Object;Ljava/lang/String;)Ljava/lang/Object;"⟩ jdk_31_method_11_code 2 (some (.object "java/lang/Object")) ws R_0_0_0_0 #[(.ref qa), (.ref qb)] h0 (QRN Z qa qb h0 n0) := by
  refine og_start (plainFor_of_name pn_java_util_Objects) fun p e s m below meth c s₁ Bd hx hby hml hZ hown hnm X0 e0 => ?_
  have y := @hb _ _ hby
  refine og (fun t k => castTop (ef10 m qa qb) k) ?_
  refine og2 X0 hx (fun j _ k => o_aloadN j (y d7_0) rfl rfl <| o_ifnonnullYes j (pc' := 13) (y d7_1) <| o_aloadN j (y d7_13) rfl rfl <| k) ?_
  exact rA X0 hx Bd rfl rfl rfl (y d7_14) e0 ⟨rfl, (Fr.nil n0), rfl⟩

abbrev k41 := jdk_68_method_9_code
theorem d18_0 : decode k41 0 = .ok (.aload_n 0, 1) := by decide +kernel
theorem d18_1 : decode k41 1 = .ok (.getfield 15, 3) := by decide +kernel
theorem d18_4 : decode k41 4 = .ok (.arraylength, 1) := by decide +kernel
theorem d18_5 : decode k41 5 = .ok (.aload_n 0, 1) := by decide +kernel
theorem d18_6 : decode k41 6 = .ok (.getfield 22, 3) := by decide +kernel
theorem d18_9 : decode k41 9 = .ok (.ishr, 1) := by decide +kernel
theorem d18_10 : decode k41 10 = .ok (.istore_n 2, 1) := by decide +kernel
theorem d18_11 : decode k41 11 = .ok (.iload_n 1, 1) := by decide +kernel
theorem d18_12 : decode k41 12 = .ok (.iload_n 2, 1) := by decide +kernel
theorem d18_13 : decode k41 13 = .ok (.isub, 1) := by decide +kernel
theorem d18_14 : decode k41 14 = .ok (.ifCond .le 24, 3) := by decide +kernel
theorem d18_38 : decode k41 38 = .ok (.return_, 1) := by decide +kernel
theorem pn_java_lang_AbstractStringBuilder : plainName "java/lang/AbstractStringBuilder" = true := by first | (simp [plainName, overriddenIn]; done) | decide +kernel
def QEN (Z : State) (sb : Addr) (va : Addr) (vk : ClassId) (qk : Int32) (vs : List Value) (qm : Int32) (h0 : Heap) (n0 : Nat) (v : Option Value) (h : Heap) (L : List Loc) : Prop := v = none ∧ Fr n0 L ∧ h = h0
theorem rmEN (l : Launch) (Z : State) (a0 : Array Value) (hw : HW a0 Z) (ws : List Jvm.Cond) (sb : Addr) (va : Addr) (vk : ClassId) (qk : Int32) (vs : List Value) (qm : Int32) (h0 : Heap) (n0 : Nat) (Z0 : n0 ≤ h0.size) (pr0 : Fld Z h0 sb "java/lang/AbstractStringBuilder" "value" "[B" (.ref va)) (pr1 : Fld Z h0 sb "java/lang/AbstractStringBuilder" "coder" "B" (.int 0)) (pr2 : Arv Z h0 va vk .byte qk vs (.int 0)) (H3 : ¬ (0 : Int32) < qm - qk) :
    MF l Z ⟨"java/lang/AbstractStringBuilder", "ensureCapacityInternal", "(I)V"⟩ jdk_68_method_9_code 3 none ws R_0_0_0_0 #[(.ref sb), (.int qm)] h0 (QEN Z sb va vk qk vs qm h0 n0) := by
  refine og_start (plainFor_of_name pn_java_lang_AbstractStringBuilder) fun p e s m below meth c s₁ Bd hx hby hml hZ hown hnm X0 e0 => ?_
  have y := @hb _ _ hby
  have w := @wd _ _ hw
  refine og (fun t k => castTop (ef11 m sb qm) k) ?_
  refine og2 X0 hx (fun j _ k => o_aloadN j (y d18_0) rfl rfl <| k) ?_
  refine g_getF X0 hx hZ hown (w 89 rfl) e0 pr0 (y d18_1) (fun T1 X1 e1 => ?_)
  refine og2 X1 hx (fun j _ k => o_alen X1 hx hZ e1 pr2 (y d18_4) <| o_aloadN j (y d18_5) rfl rfl <| k) ?_
  refine g_getF X1 hx hZ hown (w 91 rfl) e1 pr1 (y d18_6) (fun T2 X2 e2 => ?_)
  refine og2 X2 hx (fun j _ k => o_ishr j (y d18_9) <| k) ?_
  rw [(own_shr0 _)]
  refine og2 X2 hx (fun j _ k => o_istoreN j (y d18_10) (l' := #[.val (.ref sb), .val (.int qm), .val (.int qk)]) rfl <| o_iloadN j (y d18_11) rfl <| o_iloadN j (y d18_12) rfl <| o_isub j (y d18_13) <| o_ifYes j (pc' := 38) (y d18_14) (XT.i0_le_t H3) <| k) ?_
  exact r0 X2 hx Bd (y d18_38) e2 ⟨rfl, (Fr.nil n0), rfl⟩

abbrev k39 := jdk_68_method_71_code
theorem d20_0 : decode k39 0 = .ok (.getstatic 18, 3) := by decide +kernel
theorem d20_3 : decode k39 3 = .ok (.ifCond .eq 18, 3) := by decide +kernel
theorem d20_6 : decode k39 6 = .ok (.aload_n 0, 1) := by decide +kernel
theorem d20_7 : decode k39 7 = .ok (.getfield 22, 3) := by decide +kernel
theorem d20_10 : decode k39 10 = .ok (.aload_n 1, 1) := by decide +kernel
theorem d20_11 : decode k39 11 = .ok (.invokevirtual 40, 3) := by decide +kernel
theorem d20_14 : decode k39 14 = .ok (.if_icmp .eq 7, 3) := by decide +kernel
theorem d20_21 : decode k39 21 = .ok (.return_, 1) := by decide +kernel
def QNF (Z : State) (cs : Int32) (fm : Value) (lo : Addr) (bl : Addr) (la : Addr) (lb : Addr) (li : Addr) (sb : Addr) (qs : Addr) (h0 : Heap) (n0 : Nat) (v : Option Value) (h : Heap) (L : List Loc) : Prop := v = none ∧ Fr n0 L ∧ h = h0
theorem rmNF (l : Launch) (Z : State) (a0 : Array Value) (hw : HW a0 Z) (ws : List Jvm.Cond) (cs : Int32) (fm : Value) (lo : Addr) (bl : Addr) (la : Addr) (lb : Addr) (li : Addr) (sb : Addr) (qs : Addr) (h0 : Heap) (n0 : Nat) (Z0 : n0 ≤ h0.size) (H0 : OSt Z cs fm lo bl la lb li) (pr1 : Old Z n0 h0) (pr2 : Fld Z h0 sb "java/lang/AbstractStringBuilder" "coder" "B" (.int 0)) (pr3 : Fld Z h0 qs "java/lang/String" "coder" "B" (.int 0)) (pr4 : Exa Z h0 qs "java/lang/String") :
    MF l Z ⟨"java/lang/AbstractStringBuilder", "inflateIfNeededFor", "(Ljava/lang/String;)V"⟩ jdk_68_method_71_code 2 none ws R_1_0_0_13 #[(.ref sb), (.ref qs)] h0 (QNF Z cs fm lo bl la lb li sb qs h0 n0) := by
  refine og_start (plainFor_of_name pn_java_lang_AbstractStringBuilder) fun p e s m below meth c s₁ Bd hx hby hml hZ hown hnm X0 e0 => ?_
  have y := @hb _ _ hby
  have w := @wd _ _ hw
  refine og (fun t k => castTop (ef10 m sb qs) k) ?_
  refine g_getS X0 hx hZ hown (w 88 rfl) e0 (Sta.ext pr1.2 H0.cs) (y d20_0) (fun T1 X1 e1 => ?_)
  refine og2 X1 hx (fun j _ k => o_ifNo j (y d20_3) (XT.i0_eq_f H0.csn) <| o_aloadN j (y d20_6) rfl rfl <| k) ?_
  refine g_getF X1 hx hZ hown (w 91 rfl) e1 pr2 (y d20_7) (fun T2 X2 e2 => ?_)
  refine og2 X2 hx (fun j _ k => o_aloadN j (y d20_10) rfl rfl <| k) ?_
  refine cV qs [] [(.int 0)] 1 X2 hx hZ hown (w 121 rfl) (w 74 rfl) (w 76 rfl) (w 75 rfl) (w 3 rfl) (w 77 rfl) (rmCO l Z a0 hw [] cs fm lo bl la lb li qs h0 n0 Z0 H0 pr1 pr3) e2 pr4 hml pd_ocB (y d20_11) (fun v3 T3 L3 hQ3 X3 => ?_)
  obtain ⟨rfl, N3a, eh3⟩ := hQ3
  have N3 := Fr.app (Fr.nil n0) N3a
  have e3 : T3.heap = h0 := eh3
  refine og2 X3 hx (fun j _ k => o_icmpYes j (pc' := 21) (y d20_14) (XT.ii_eq_t rfl) <| k) ?_
  exact r0 X3 hx Bd (y d20_21) e3 ⟨rfl, N3, rfl⟩

abbrev k37 := jdk_68_method_68_code
theorem d32_0 : decode k37 0 = .ok (.getstatic 18, 3) := by decide +kernel
theorem d32_3 : decode k37 3 = .ok (.ifCond .eq 14, 3) := by decide +kernel
theorem d32_6 : decode k37 6 = .ok (.aload_n 0, 1) := by decide +kernel
theorem d32_7 : decode k37 7 = .ok (.getfield 22, 3) := by decide +kernel
theorem d32_10 : decode k37 10 = .ok (.ifCond .ne 7, 3) := by decide +kernel
theorem d32_13 : decode k37 13 = .ok (.iconst 1, 1) := by decide +kernel
theorem d32_14 : decode k37 14 = .ok (.goto 4, 3) := by decide +kernel
theorem d32_18 : decode k37 18 = .ok (.ireturn, 1) := by decide +kernel
def QAL (Z : State) (cs : Int32) (fm : Value) (lo : Addr) (bl : Addr) (la : Addr) (lb : Addr) (li : Addr) (sb : Addr) (h0 : Heap) (n0 : Nat) (v : Option Value) (h : Heap) (L : List Loc) : Prop := v = some (.int 1) ∧ Fr n0 L ∧ h = h0
theorem rmAL (l : Launch) (Z : State) (a0 : Array Value) (hw : HW a0 Z) (ws : List Jvm.Cond) (cs : Int32) (fm : Value) (lo : Addr) (bl : Addr) (la : Addr) (lb : Addr) (li : Addr) (sb : Addr) (h0 : Heap) (n0 : Nat) (Z0 : n0 ≤ h0.size) (H0 : OSt Z cs fm lo bl la lb li) (pr1 : Old Z n0 h0) (pr2 : Fld Z h0 sb "java/lang/AbstractStringBuilder" "coder" "B" (.int 0)) :
    MF l Z ⟨"java/lang/AbstractStringBuilder", "isLatin1", "()Z"⟩ jdk_68_method_68_code 1 (some .boolean) ws R_0_0_0_0 #[(.ref sb)] h0 (QAL Z cs fm lo bl la lb li sb h0 n0) := by
  refine og_start (plainFor_of_name pn_java_lang_AbstractStringBuilder) fun p e s m below meth c s₁ Bd hx hby hml hZ hown hnm X0 e0 => ?_
  have y := @hb _ _ hby
  have w := @wd _ _ hw
  refine og (fun t k => castTop (ef2 m sb) k) ?_
  refine g_getS X0 hx hZ hown (w 88 rfl) e0 (Sta.ext pr1.2 H0.cs) (y d32_0) (fun T1 X1 e1 => ?_)
  refine og2 X1 hx (fun j _ k => o_ifNo j (y d32_3) (XT.i0_eq_f H0.csn) <| o_aloadN j (y d32_6) rfl rfl <| k) ?_
  refine g_getF X1 hx hZ hown (w 91 rfl) e1 pr2 (y d32_7) (fun T2 X2 e2 => ?_)
  refine og2 X2 hx (fun j _ k => o_ifNo j (y d32_10) (by decide) <| o_iconstV j 1 (y d32_13) rfl <| o_goto j (pc' := 18) (y d32_14) <| k) ?_
  exact rN (v := (1 : Int32)) X2 hx Bd (by simp) rfl (y d32_18) e2 ⟨rfl, (Fr.nil n0), rfl⟩

abbrev R_1_1_20_12 : Room := ({ frames := 1, cells := 1, slots := 20, locals := 12 } : Room)
abbrev k34 := jdk_68_method_2_code
theorem d15_0 : decode k34 0 = .ok (.aload_n 0, 1) := by decide +kernel
theorem d15_1 : decode k34 1 = .ok (.invokespecial 3, 3) := by decide +kernel
theorem d15_4 : decode k34 4 = .ok (.getstatic 18, 3) := by decide +kernel
theorem d15_7 : decode k34 7 = .ok (.ifCond .eq 18, 3) := by decide +kernel
theorem d15_10 : decode k34 10 = .ok (.aload_n 0, 1) := by decide +kernel
theorem d15_11 : decode k34 11 = .ok (.iload_n 1, 1) := by decide +kernel
theorem d15_12 : decode k34 12 = .ok (.newarray .byte, 2) := by decide +kernel
theorem d15_14 : decode k34 14 = .ok (.putfield 15, 3) := by decide +kernel
theorem d15_17 : decode k34 17 = .ok (.aload_n 0, 1) := by decide +kernel
theorem d15_18 : decode k34 18 = .ok (.iconst 0, 1) := by decide +kernel
theorem d15_19 : decode k34 19 = .ok (.putfield 22, 3) := by decide +kernel
theorem d15_22 : decode k34 22 = .ok (.goto 16, 3) := by decide +kernel
theorem d15_38 : decode k34 38 = .ok (.return_, 1) := by decide +kernel
def QAI (Z : State) (cs : Int32) (fm : Value) (lo : Addr) (bl : Addr) (la : Addr) (lb : Addr) (li : Addr) (sb : Addr) (kn : Nat) (h0 : Heap) (n0 : Nat) (v : Option Value) (h : Heap) (L : List Loc) : Prop := ∃ va : Addr, ∃ vk : ClassId, v = none ∧ Fr n0 L ∧ Keep h0 h [sb] ∧ Fld Z h sb "java/lang/AbstractStringBuilder" "value" "[B" (.ref va) ∧ Fld Z h sb "java/lang/AbstractStringBuilder" "coder" "B" (.int 0) ∧ Fld Z h sb "java/lang/AbstractStringBuilder" "count" "I" (.int 0) ∧ Exa Z h sb "java/lang/StringBuilder" ∧ Arv Z h va vk .byte (own_nn kn) (own_pb kn []) (.int 0) ∧ Exa Z h va "[B" ∧ h0.size ≤ va
theorem rmAI (l : Launch) (Z : State) (a0 : Array Value) (hw : HW a0 Z) (ws : List Jvm.Cond) (cs : Int32) (fm : Value) (lo : Addr) (bl : Addr) (la : Addr) (lb : Addr) (li : Addr) (sb : Addr) (kn : Nat) (h0 : Heap) (n0 : Nat) (Z0 : n0 ≤ h0.size) (H0 : OSt Z cs fm lo bl la lb li) (pr1 : Old Z n0 h0) (pr2 : Fld Z h0 sb "java/lang/AbstractStringBuilder" "value" "[B" .null) (pr3 : Fld Z h0 sb "java/lang/AbstractStringBuilder" "coder" "B" (.int 0)) (pr4 : Fld Z h0 sb "java/lang/AbstractStringBuilder" "count" "I" (.int 0)) (pr5 : Exa Z h0 sb "java/lang/StringBuilder") (H6 : n0 ≤ sb) (H7 : 3 ≤ kn) (H8 : kn < 20) :
    MF l Z ⟨"java/lang/AbstractStringBuilder", "<init>", "(I)V"⟩ jdk_68_method_2_code 2 none ws R_1_1_20_12 #[(.ref sb), (.int (own_nn kn))] h0 (QAI Z cs fm lo bl la lb li sb kn h0 n0) := by
  refine og_start (plainFor_of_name pn_java_lang_AbstractStringBuilder) fun p e s m below meth c s₁ Bd hx hby hml hZ hown hnm X0 e0 => ?_
  have y := @hb _ _ hby
  have w := @wd _ _ hw
  refine og (fun t k => castTop (ef5 m sb (own_nn kn)) k) ?_
  refine og2 X0 hx (fun j _ k => o_aloadN j (y d15_0) rfl rfl <| k) ?_
  refine cO 0 X0 hx hZ hown (w 87 rfl) (w 12 rfl) (w 13 rfl) e0 hml (y d15_1) (fun T1 X1 e1 => ?_)
  refine g_getS X1 hx hZ hown (w 88 rfl) e1 (Sta.ext pr1.2 H0.cs) (y d15_4) (fun T2 X2 e2 => ?_)
  refine og2 X2 hx (fun j _ k => o_ifNo j (y d15_7) (XT.i0_eq_f H0.csn) <| o_aloadN j (y d15_10) rfl rfl <| o_iloadN j (y d15_11) rfl <| k) ?_
  refine nP .byte 20 "[B" X2 hx hZ (w 19 rfl) e2 (y d15_12) (fun T3 h3 a3 kc3 g3 X3 e3 E3 A3 D3 => ?_) (hn := (own_nn0 (Nat.lt_trans H8 (by decide)))) (hcap := (by rw [own_nn_nat (Nat.lt_trans H8 (by decide))]; exact Nat.le_of_lt H8))
  have GK3 : h0.size ≤ a3 := Nat.le_trans (Keep.refl h0 [sb]).1 (Nat.le_of_eq g3.symm)
  have P3 := (Keep.refl h0 [sb]).ext E3
  have F5 := (Fld.ext E3 pr2)
  have F6 := (Fld.ext E3 pr3)
  have F7 := (Fld.ext E3 pr4)
  have E8 := (Exa.ext E3 pr5)
  have A9 : Arv Z h3 a3 kc3 .byte (own_nn kn) (own_pb kn []) (.int 0) := (A3.pad (pad_rep [] _ kn))
  refine pF (.array .byte) X3 hx hZ hown (w 89 rfl) e3 F5 E8 (Or.inl (w 90 rfl)) (w 65 rfl) (y d15_14) (fun T10 h10 X10 e10 W10 => ?_)
  have N10 := Fr.snoc X10 (Fr.nil n0) H6
  have P10 := P3.wr W10 (Or.inl (List.mem_of_getElem? (i := 0) rfl))
  have E12 := (Exa.wr W10 E8)
  have A13 := (A9.other W10 (Ne.symm (Nat.ne_of_lt (Nat.lt_of_lt_of_eq pr2.lt g3.symm))))
  have E14 := (Exa.wr W10 D3)
  have F15 := (Fld.same W10 F5)
  have F16 := (Fld.other W10 F6 (Or.inr (slot_ne (C := "java/lang/StringBuilder") (Or.inl (w 92 rfl)) (Or.inl (w 90 rfl)) (by decide) (t := .byte) (t' := (.array .byte)) (by decide) (by decide))))
  have F17 := (Fld.other W10 F7 (Or.inr (slot_ne (C := "java/lang/StringBuilder") (Or.inl (w 105 rfl)) (Or.inl (w 90 rfl)) (by decide) (t := .int) (t' := (.array .byte)) (by decide) (by decide))))
  refine og2 X10 hx (fun j _ k => o_aloadN j (y d15_17) rfl rfl <| o_iconstV j 0 (y d15_18) rfl <| k) ?_
  refine pF .byte X10 hx hZ hown (w 91 rfl) e10 F16 E12 (Or.inl (w 92 rfl)) (w 65 rfl) (y d15_19) (fun T18 h18 X18 e18 W18 => ?_)
  have N18 := Fr.snoc X18 N10 H6
  have P18 := P10.wr W18 (Or.inl (List.mem_of_getElem? (i := 0) rfl))
  have E20 := (Exa.wr W18 E12)
  have A21 := (A13.other W18 (Ne.symm (Nat.ne_of_lt (Nat.lt_of_lt_of_eq pr2.lt g3.symm))))
  have E22 := (Exa.wr W18 E14)
  have F23 := (Fld.other W18 F15 (Or.inr (slot_ne (C := "java/lang/StringBuilder") (Or.inl (w 90 rfl)) (Or.inl (w 92 rfl)) (by decide) (t := (.array .byte)) (t' := .byte) (by decide) (by decide))))
  have F24 := (Fld.same W18 F16)
  have F25 := (Fld.other W18 F17 (Or.inr (slot_ne (C := "java/lang/StringBuilder") (Or.inl (w 105 rfl)) (Or.inl (w 92 rfl)) (by decide) (t := .int) (t' := .byte) (by decide) (by decide))))
  refine og2 X18 hx (fun j _ k => o_goto j (pc' := 38) (y d15_22) <| k) ?_
  exact r0 X18 hx Bd (y d15_38) e18 ⟨a3, kc3, rfl, N18, P18, F23, F24, F25, E20, A21, E22, GK3⟩

abbrev R_2_1_20_25 : Room := ({ frames := 2, cells := 1, slots := 20, locals := 25 } : Room)
abbrev k29 := jdk_67_method_2_code
theorem d14_0 : decode k29 0 = .ok (.aload_n 0, 1) := by decide +kernel
theorem d14_1 : decode k29 1 = .ok (.iload_n 1, 1) := by decide +kernel
theorem d14_2 : decode k29 2 = .ok (.invokespecial 1, 3) := by decide +kernel
theorem d14_5 : decode k29 5 = .ok (.return_, 1) := by decide +kernel
theorem pd_oIcV : parseMethodDescriptor "(I)V" = some ⟨[.int], none⟩ := by decide +kernel
theorem pn_java_lang_StringBuilder : plainName "java/lang/StringBuilder" = true := by first | (simp [plainName, overriddenIn]; done) | decide +kernel
def QSI (Z : State) (cs : Int32) (fm : Value) (lo : Addr) (bl : Addr) (la : Addr) (lb : Addr) (li : Addr) (sb : Addr) (kn : Nat) (h0 : Heap) (n0 : Nat) (v : Option Value) (h : Heap) (L : List Loc) : Prop := ∃ va : Addr, ∃ vk : ClassId, v = none ∧ Fr n0 L ∧ Keep h0 h [sb] ∧ Fld Z h sb "java/lang/AbstractStringBuilder" "value" "[B" (.ref va) ∧ Fld Z h sb "java/lang/AbstractStringBuilder" "coder" "B" (.int 0) ∧ Fld Z h sb "java/lang/AbstractStringBuilder" "count" "I" (.int 0) ∧ Exa Z h sb "java/lang/StringBuilder" ∧ Arv Z h va vk .byte (own_nn kn) (own_pb kn []) (.int 0) ∧ Exa Z h va "[B" ∧ h0.size ≤ va
theorem rmSI (l : Launch) (Z : State) (a0 : Array Value) (hw : HW a0 Z) (ws : List Jvm.Cond) (cs : Int32) (fm : Value) (lo : Addr) (bl : Addr) (la : Addr) (lb : Addr) (li : Addr) (sb : Addr) (kn : Nat) (h0 : Heap) (n0 : Nat) (Z0 : n0 ≤ h0.size) (H0 : OSt Z cs fm lo bl la lb li) (pr1 : Old Z n0 h0) (pr2 : Fld Z h0 sb "java/lang/AbstractStringBuilder" "value" "[B" .null) (pr3 : Fld Z h0 sb "java/lang/AbstractStringBuilder" "coder" "B" (.int 0)) (pr4 : Fld Z h0 sb "java/lang/AbstractStringBuilder" "count" "I" (.int 0)) (pr5 : Exa Z h0 sb "java/lang/StringBuilder") (H6 : n0 ≤ sb) (H7 : 3 ≤ kn) (H8 : kn < 20) :
    MF l Z ⟨"java/lang/StringBuilder", "<init>", "(I)V"⟩ jdk_67_method_2_code 2 none ws R_2_1_20_25 #[(.ref sb), (.int (own_nn kn))] h0 (QSI Z cs fm lo bl la lb li sb kn h0 n0) := by
  refine og_start (plainFor_of_name pn_java_lang_StringBuilder) fun p e s m below meth c s₁ Bd hx hby hml hZ hown hnm X0 e0 => ?_
  have y := @hb _ _ hby
  have w := @wd _ _ hw
  refine og (fun t k => castTop (ef5 m sb (own_nn kn)) k) ?_
  refine og2 X0 hx (fun j _ k => o_aloadN j (y d14_0) rfl rfl <| o_iloadN j (y d14_1) rfl <| k) ?_
  refine cI sb [(.int (own_nn kn))] [] 0 X0 hx hZ hown (w 81 rfl) (w 82 rfl) (w 85 rfl) (w 86 rfl) (rmAI l Z a0 hw [] cs fm lo bl la lb li sb kn h0 n0 Z0 H0 pr1 pr2 pr3 pr4 pr5 H6 H7 H8) e0 hml pd_oIcV (y d14_2) (fun v1 T1 L1 hQ1 X1 => ?_)
  obtain ⟨va_1, vk_1, rfl, N1a, K1, Q1_0, Q1_1, Q1_2, Q1_3, Q1_4, Q1_5, Q1_6⟩ := hQ1
  have N1 := Fr.app (Fr.nil n0) N1a
  have e1 : T1.heap = T1.heap := rfl
  have P1 : Keep h0 T1.heap [sb] := ((Keep.refl h0 [sb]).trans K1 (allS (Or.inl (List.mem_of_getElem? (i := 0) rfl)) all0))
  have GK1_va : h0.size ≤ va_1 := Nat.le_trans (Keep.refl h0 [sb]).1 Q1_6
  have ne1_sb_va : sb ≠ va_1 := Nat.ne_of_lt (Nat.lt_of_lt_of_le pr2.lt Q1_6)
  exact r0 X1 hx Bd (y d14_5) e1 ⟨va_1, vk_1, rfl, N1, P1, Q1_0, Q1_1, Q1_2, Q1_3, Q1_4, Q1_5, GK1_va⟩

abbrev R_1_0_0_18 : Room := ({ frames := 1, cells := 0, slots := 0, locals := 18 } : Room)
abbrev k7 := jdk_42_method_147_code
theorem d21_0 : decode k7 0 = .ok (.aload_n 0, 1) := by decide +kernel
theorem d21_1 : decode k7 1 = .ok (.invokevirtual 335, 3) := by decide +kernel
theorem d21_4 : decode k7 4 = .ok (.iload_n 3, 1) := by decide +kernel
theorem d21_5 : decode k7 5 = .ok (.if_icmp .ne 23, 3) := by decide +kernel
theorem d21_8 : decode k7 8 = .ok (.aload_n 0, 1) := by decide +kernel
theorem d21_9 : decode k7 9 = .ok (.getfield 9, 3) := by decide +kernel
theorem d21_12 : decode k7 12 = .ok (.iconst 0, 1) := by decide +kernel
theorem d21_13 : decode k7 13 = .ok (.aload_n 1, 1) := by decide +kernel
theorem d21_14 : decode k7 14 = .ok (.iload_n 2, 1) := by decide +kernel
theorem d21_15 : decode k7 15 = .ok (.iload_n 3, 1) := by decide +kernel
theorem d21_16 : decode k7 16 = .ok (.ishl, 1) := by decide +kernel
theorem d21_17 : decode k7 17 = .ok (.aload_n 0, 1) := by decide +kernel
theorem d21_18 : decode k7 18 = .ok (.getfield 9, 3) := by decide +kernel
theorem d21_21 : decode k7 21 = .ok (.arraylength, 1) := by decide +kernel
theorem d21_22 : decode k7 22 = .ok (.invokestatic 212, 3) := by decide +kernel
theorem d21_25 : decode k7 25 = .ok (.goto 18, 3) := by decide +kernel
theorem d21_43 : decode k7 43 = .ok (.return_, 1) := by decide +kernel
def QGB (Z : State) (cs : Int32) (fm : Value) (lo : Addr) (bl : Addr) (la : Addr) (lb : Addr) (li : Addr) (qs : Addr) (qb : Addr) (qk : ClassId) (va : Addr) (vk : ClassId) (kn : Nat) (h0 : Heap) (n0 : Nat) (v : Option Value) (h : Heap) (L : List Loc) : Prop := v = none ∧ Fr n0 L ∧ Keep h0 h [va] ∧ Arv Z h va vk .byte (own_nn kn) (own_pb kn [(105 : Int32), (102 : Int32), (95 : Int32)]) (.int 0)
theorem rmGB (l : Launch) (Z : State) (a0 : Array Value) (hw : HW a0 Z) (ws : List Jvm.Cond) (cs : Int32) (fm : Value) (lo : Addr) (bl : Addr) (la : Addr) (lb : Addr) (li : Addr) (qs : Addr) (qb : Addr) (qk : ClassId) (va : Addr) (vk : ClassId) (kn : Nat) (h0 : Heap) (n0 : Nat) (Z0 : n0 ≤ h0.size) (H0 : OSt Z cs fm lo bl la lb li) (pr1 : Old Z n0 h0) (pr2 : Fld Z h0 qs "java/lang/String" "value" "[B" (.ref qb)) (pr3 : Fld Z h0 qs "java/lang/String" "coder" "B" (.int 0)) (pr4 : Exa Z h0 qs "java/lang/String") (pr5 : Arv Z h0 qb qk .byte (3 : Int32) [(.int 105), (.int 102), (.int 95)] (.int 0)) (pr6 : Arv Z h0 va vk .byte (own_nn kn) (own_pb kn []) (.int 0)) (H7 : n0 ≤ va) (H8 : 3 ≤ kn) (H9 : kn < 20) :
    MF l Z ⟨"java/lang/String", "getBytes", "([BIB)V"⟩ jdk_42_method_147_code 4 none ws R_1_0_0_18 #[(.ref qs), (.ref va), (.int 0), (.int 0)] h0 (QGB Z cs fm lo bl la lb li qs qb qk va vk kn h0 n0) := by
  refine og_start (plainFor_of_name pn_java_lang_String) fun p e s m below meth c s₁ Bd hx hby hml hZ hown hnm X0 e0 => ?_
  have y := @hb _ _ hby
  have w := @wd _ _ hw
  refine og (fun t k => castTop (ef6 m qs va (0 : Int32) (0 : Int32)) k) ?_
  refine og2 X0 hx (fun j _ k => o_aloadN j (y d21_0) rfl rfl <| k) ?_
  refine cV qs [] [] 0 X0 hx hZ hown (w 73 rfl) (w 74 rfl) (w 76 rfl) (w 75 rfl) (w 3 rfl) (w 77 rfl) (rmCO l Z a0 hw [] cs fm lo bl la lb li qs h0 n0 Z0 H0 pr1 pr3) e0 pr4 hml pd_ocB (y d21_1) (fun v1 T1 L1 hQ1 X1 => ?_)
  obtain ⟨rfl, N1a, eh1⟩ := hQ1
  have N1 := Fr.app (Fr.nil n0) N1a
  have e1 : T1.heap = h0 := eh1
  refine og2 X1 hx (fun j _ k => o_iloadN j (y d21_4) rfl <| o_icmpNo j (y d21_5) (XT.ii_ne_f rfl) <| o_aloadN j (y d21_8) rfl rfl <| k) ?_
  refine g_getF X1 hx hZ hown (w 28 rfl) e1 pr2 (y d21_9) (fun T2 X2 e2 => ?_)
  refine og2 X2 hx (fun j _ k => o_iconstV j 0 (y d21_12) rfl <| o_aloadN j (y d21_13) rfl rfl <| o_iloadN j (y d21_14) rfl <| o_iloadN j (y d21_15) rfl <| o_ishl j (y d21_16) <| k) ?_
  rw [(by decide : (0 : Int32) <<< ((0 : Int32) &&& 31) = (0 : Int32))]
  refine og2 X2 hx (fun j _ k => o_aloadN j (y d21_17) rfl rfl <| k) ?_
  refine g_getF X2 hx hZ hown (w 28 rfl) e2 pr2 (y d21_18) (fun T3 X3 e3 => ?_)
  refine og (fun _ k => o_alen X3 hx hZ e3 pr5 (y d21_21) <| k) ?_
  obtain ⟨T4, h4, L4, X4, e4, N4, K4, B4, st4⟩ := cpA X3 hx hZ hown (w 127 rfl) (w 130 rfl) (w 128 rfl) (w 129 rfl) e3 pr5 pr6 (us := [.int 105, .int 102, .int 95]) (Or.inl ⟨rfl, rfl⟩) (by decide) (by decide) (by decide) (by decide) (by rw [own_nn_nat (Nat.lt_trans H9 (by decide))]; exact H8) rfl (by rw [own_pb_len (Nat.zero_le _)]; exact H8) N1 H7 (g := (mkF m 22 #[.val (.ref qs), .val (.ref va), .val (.int 0), .val (.int 0)] [(.int 3), (.int 0), (.ref va), (.int 0), (.ref qb)])) rfl (by rw [hml]; rfl) (rest := []) rfl (y d21_22) (by decide) (W := 0) (by show 2 * 0 + _ ≤ _; exact Nat.le_of_eq rfl) (by decide)
  have P4 : Keep h0 h4 [va] := ((Keep.refl h0 [va]).trans K4 (allS (Or.inl (List.mem_of_getElem? (i := 0) rfl)) all0))
  have B4v : Arv Z h4 va vk .byte (own_nn kn) (own_pb kn [(105 : Int32), (102 : Int32), (95 : Int32)]) (.int 0) := (by have q := B4; rw [own_conv kn [(105 : Int32), (102 : Int32), (95 : Int32)] _ (3 : Int32).toNatClampNeg own_if3.symm rfl] at q; exact q)
  refine og st4 ?_
  change OG _ _ _ _ (T4.setTop (mkF m 25 #[.val (.ref qs), .val (.ref va), .val (.int 0), .val (.int 0)] []))
  refine og2 X4 hx (fun j _ k => o_goto j (pc' := 43) (y d21_25) <| k) ?_
  exact r0 X4 hx Bd (y d21_43) e4 ⟨rfl, N4, P4, B4v⟩

abbrev R_2_0_0_33 : Room := ({ frames := 2, cells := 0, slots := 0, locals := 33 } : Room)
abbrev k40 := jdk_68_method_73_code
theorem d19_0 : decode k40 0 = .ok (.aload_n 0, 1) := by decide +kernel
theorem d19_1 : decode k40 1 = .ok (.aload_n 2, 1) := by decide +kernel
theorem d19_2 : decode k40 2 = .ok (.invokevirtual 397, 3) := by decide +kernel
theorem d19_5 : decode k40 5 = .ok (.aload_n 2, 1) := by decide +kernel
theorem d19_6 : decode k40 6 = .ok (.aload_n 0, 1) := by decide +kernel
theorem d19_7 : decode k40 7 = .ok (.getfield 15, 3) := by decide +kernel
theorem d19_10 : decode k40 10 = .ok (.iload_n 1, 1) := by decide +kernel
theorem d19_11 : decode k40 11 = .ok (.aload_n 0, 1) := by decide +kernel
theorem d19_12 : decode k40 12 = .ok (.getfield 22, 3) := by decide +kernel
theorem d19_15 : decode k40 15 = .ok (.invokevirtual 399, 3) := by decide +kernel
theorem d19_18 : decode k40 18 = .ok (.return_, 1) := by decide +kernel
theorem pd_oLjava_lang_StringscV : parseMethodDescriptor "(Ljava/lang/String;)V" = some ⟨[(.object "java/lang/String")], none⟩ := by decide +kernel
theorem pd_oaBIBcV : parseMethodDescriptor "([BIB)V" = some ⟨[(.array .byte), .int, .byte], none⟩ := by decide +kernel
theorem ef14 (m : MethodId) (x0 : Addr) (x1 : Int32) (x2 : Addr) : entryFrame m #[(.ref x0), (.int x1), (.ref x2)] 3 = (mkF m 0 #[.val (.ref x0), .val (.int x1), .val (.ref x2)] []) := by first | (simp [entryFrame, mkF, argsToLocals, Value.category]; done) | rfl
def QPA (Z : State) (cs : Int32) (fm : Value) (lo : Addr) (bl : Addr) (la : Addr) (lb : Addr) (li : Addr) (sb : Addr) (qs : Addr) (qb : Addr) (qk : ClassId) (va : Addr) (vk : ClassId) (kn : Nat) (h0 : Heap) (n0 : Nat) (v : Option Value) (h : Heap) (L : List Loc) : Prop := v = none ∧ Fr n0 L ∧ Keep h0 h [va] ∧ Arv Z h va vk .byte (own_nn kn) (own_pb kn [(105 : Int32), (102 : Int32), (95 : Int32)]) (.int 0)
theorem rmPA (l : Launch) (Z : State) (a0 : Array Value) (hw : HW a0 Z) (ws : List Jvm.Cond) (cs : Int32) (fm : Value) (lo : Addr) (bl : Addr) (la : Addr) (lb : Addr) (li : Addr) (sb : Addr) (qs : Addr) (qb : Addr) (qk : ClassId) (va : Addr) (vk : ClassId) (kn : Nat) (h0 : Heap) (n0 : Nat) (Z0 : n0 ≤ h0.size) (H0 : OSt Z cs fm lo bl la lb li) (pr1 : Old Z n0 h0) (pr2 : Fld Z h0 qs "java/lang/String" "value" "[B" (.ref qb)) (pr3 : Fld Z h0 qs "java/lang/String" "coder" "B" (.int 0)) (pr4 : Exa Z h0 qs "java/lang/String") (pr5 : Arv Z h0 qb qk .byte (3 : Int32) [(.int 105), (.int 102), (.int 95)] (.int 0)) (pr6 : Fld Z h0 sb "java/lang/AbstractStringBuilder" "value" "[B" (.ref va)) (pr7 : Fld Z h0 sb "java/lang/AbstractStringBuilder" "coder" "B" (.int 0)) (pr8 : Exa Z h0 sb "java/lang/StringBuilder") (pr9 : Arv Z h0 va vk .byte (own_nn kn) (own_pb kn []) (.int 0)) (H10 : n0 ≤ va) (H11 : 3 ≤ kn) (H12 : kn < 20) :
    MF l Z ⟨"java/lang/AbstractStringBuilder", "putStringAt", "(ILjava/lang/String;)V"⟩ jdk_68_method_73_code 3 none ws R_2_0_0_33 #[(.ref sb), (.int 0), (.ref qs)] h0 (QPA Z cs fm lo bl la lb li sb qs qb qk va vk kn h0 n0) := by
  refine og_start (plainFor_of_name pn_java_lang_AbstractStringBuilder) fun p e s m below meth c s₁ Bd hx hby hml hZ hown hnm X0 e0 => ?_
  have y := @hb _ _ hby
  have w := @wd _ _ hw
  refine og (fun t k => castTop (ef14 m sb (0 : Int32) qs) k) ?_
  refine og2 X0 hx (fun j _ k => o_aloadN j (y d19_0) rfl rfl <| o_aloadN j (y d19_1) rfl rfl <| k) ?_
  refine cV sb [(.ref qs)] [] 0 X0 hx hZ hown (w 116 rfl) (own_decl (w 117 rfl) (w 120 rfl)) (w 119 rfl) (w 117 rfl) (w 85 rfl) (w 120 rfl) (rmNF l Z a0 hw [] cs fm lo bl la lb li sb qs h0 n0 Z0 H0 pr1 pr7 pr3 pr4) e0 pr8 hml pd_oLjava_lang_StringscV (y d19_2) (fun v1 T1 L1 hQ1 X1 => ?_)
  obtain ⟨rfl, N1a, eh1⟩ := hQ1
  have N1 := Fr.app (Fr.nil n0) N1a
  have e1 : T1.heap = h0 := eh1
  refine og2 X1 hx (fun j _ k => o_aloadN j (y d19_5) rfl rfl <| o_aloadN j (y d19_6) rfl rfl <| k) ?_
  refine g_getF X1 hx hZ hown (w 89 rfl) e1 pr6 (y d19_7) (fun T2 X2 e2 => ?_)
  refine og2 X2 hx (fun j _ k => o_iloadN j (y d19_10) rfl <| o_aloadN j (y d19_11) rfl rfl <| k) ?_
  refine g_getF X2 hx hZ hown (w 91 rfl) e2 pr7 (y d19_12) (fun T3 X3 e3 => ?_)
  refine cV qs [(.ref va), (.int 0), (.int 0)] [] 0 X3 hx hZ hown (w 122 rfl) (w 123 rfl) (w 125 rfl) (w 124 rfl) (w 3 rfl) (w 126 rfl) (rmGB l Z a0 hw [] cs fm lo bl la lb li qs qb qk va vk kn h0 n0 Z0 H0 pr1 pr2 pr3 pr4 pr5 pr9 H10 H11 H12) e3 pr4 hml pd_oaBIBcV (y d19_15) (fun v4 T4 L4 hQ4 X4 => ?_)
  obtain ⟨rfl, N4a, K4, Q4_0⟩ := hQ4
  have N4 := Fr.app N1 N4a
  have e4 : T4.heap = T4.heap := rfl
  have P4 : Keep h0 T4.heap [va] := ((Keep.refl h0 [va]).trans K4 (allS (Or.inl (List.mem_of_getElem? (i := 0) rfl)) all0))
  exact r0 X4 hx Bd (y d19_18) e4 ⟨rfl, N4, P4, Q4_0⟩

abbrev R_3_0_0_47 : Room := ({ frames := 3, cells := 0, slots := 0, locals := 47 } : Room)
abbrev k33 := jdk_68_method_22_code
theorem d17_0 : decode k33 0 = .ok (.aload_n 1, 1) := by decide +kernel
theorem d17_1 : decode k33 1 = .ok (.ifnonnull 8, 3) := by decide +kernel
theorem d17_9 : decode k33 9 = .ok (.aload_n 1, 1) := by decide +kernel
theorem d17_10 : decode k33 10 = .ok (.invokevirtual 32, 3) := by decide +kernel
theorem d17_13 : decode k33 13 = .ok (.istore_n 2, 1) := by decide +kernel
theorem d17_14 : decode k33 14 = .ok (.aload_n 0, 1) := by decide +kernel
theorem d17_15 : decode k33 15 = .ok (.aload_n 0, 1) := by decide +kernel
theorem d17_16 : decode k33 16 = .ok (.getfield 79, 3) := by decide +kernel
theorem d17_19 : decode k33 19 = .ok (.iload_n 2, 1) := by decide +kernel
theorem d17_20 : decode k33 20 = .ok (.iadd, 1) := by decide +kernel
theorem d17_21 : decode k33 21 = .ok (.invokevirtual 100, 3) := by decide +kernel
theorem d17_24 : decode k33 24 = .ok (.aload_n 0, 1) := by decide +kernel
theorem d17_25 : decode k33 25 = .ok (.aload_n 0, 1) := by decide +kernel
theorem d17_26 : decode k33 26 = .ok (.getfield 79, 3) := by decide +kernel
theorem d17_29 : decode k33 29 = .ok (.aload_n 1, 1) := by decide +kernel
theorem d17_30 : decode k33 30 = .ok (.invokevirtual 208, 3) := by decide +kernel
theorem d17_33 : decode k33 33 = .ok (.aload_n 0, 1) := by decide +kernel
theorem d17_34 : decode k33 34 = .ok (.dup, 1) := by decide +kernel
theorem d17_35 : decode k33 35 = .ok (.getfield 79, 3) := by decide +kernel
theorem d17_38 : decode k33 38 = .ok (.iload_n 2, 1) := by decide +kernel
theorem d17_39 : decode k33 39 = .ok (.iadd, 1) := by decide +kernel
theorem d17_40 : decode k33 40 = .ok (.putfield 79, 3) := by decide +kernel
theorem d17_43 : decode k33 43 = .ok (.aload_n 0, 1) := by decide +kernel
theorem d17_44 : decode k33 44 = .ok (.areturn, 1) := by decide +kernel
theorem pd_ocI : parseMethodDescriptor "()I" = some ⟨[], some .int⟩ := by decide +kernel
theorem pd_oILjava_lang_StringscV : parseMethodDescriptor "(ILjava/lang/String;)V" = some ⟨[.int, (.object "java/lang/String")], none⟩ := by decide +kernel
theorem ef15 (m : MethodId) (x0 : Addr) (x1 : Addr) : entryFrame m #[(.ref x0), (.ref x1)] 3 = (mkF m 0 #[.val (.ref x0), .val (.ref x1), .unset] []) := by first | (simp [entryFrame, mkF, argsToLocals, Value.category]; done) | rfl
def QAP (Z : State) (cs : Int32) (fm : Value) (lo : Addr) (bl : Addr) (la : Addr) (lb : Addr) (li : Addr) (sb : Addr) (qs : Addr) (qb : Addr) (qk : ClassId) (va : Addr) (vk : ClassId) (kn : Nat) (h0 : Heap) (n0 : Nat) (v : Option Value) (h : Heap) (L : List Loc) : Prop := v = some (.ref sb) ∧ Fr n0 L ∧ Keep h0 h [sb, va] ∧ Fld Z h sb "java/lang/AbstractStringBuilder" "value" "[B" (.ref va) ∧ Fld Z h sb "java/lang/AbstractStringBuilder" "coder" "B" (.int 0) ∧ Fld Z h sb "java/lang/AbstractStringBuilder" "count" "I" (.int 3) ∧ Exa Z h sb "java/lang/StringBuilder" ∧ Arv Z h va vk .byte (own_nn kn) (own_pb kn [(105 : Int32), (102 : Int32), (95 : Int32)]) (.int 0)
theorem rmAP (l : Launch) (Z : State) (a0 : Array Value) (hw : HW a0 Z) (ws : List Jvm.Cond) (cs : Int32) (fm : Value) (lo : Addr) (bl : Addr) (la : Addr) (lb : Addr) (li : Addr) (sb : Addr) (qs : Addr) (qb : Addr) (qk : ClassId) (va : Addr) (vk : ClassId) (kn : Nat) (h0 : Heap) (n0 : Nat) (Z0 : n0 ≤ h0.size) (H0 : OSt Z cs fm lo bl la lb li) (pr1 : Old Z n0 h0) (pr2 : Fld Z h0 qs "java/lang/String" "value" "[B" (.ref qb)) (pr3 : Fld Z h0 qs "java/lang/String" "coder" "B" (.int 0)) (pr4 : Exa Z h0 qs "java/lang/String") (pr5 : Arv Z h0 qb qk .byte (3 : Int32) [(.int 105), (.int 102), (.int 95)] (.int 0)) (pr6 : Fld Z h0 sb "java/lang/AbstractStringBuilder" "value" "[B" (.ref va)) (pr7 : Fld Z h0 sb "java/lang/AbstractStringBuilder" "coder" "B" (.int 0)) (pr8 : Fld Z h0 sb "java/lang/AbstractStringBuilder" "count" "I" (.int 0)) (pr9 : Exa Z h0 sb "java/lang/StringBuilder") (pr10 : Arv Z h0 va vk .byte (own_nn kn) (own_pb kn []) (.int 0)) (H11 : n0 ≤ sb) (H12 : n0 ≤ va) (H13 : 3 ≤ kn) (H14 : kn < 20) :
    MF l Z ⟨"java/lang/AbstractStringBuilder", "append", "(Ljava/lang/String;)Ljava/lang/AbstractStringBuilder;"⟩ jdk_68_method_22_code 3 (some (.object "java/lang/AbstractStringBuilder")) ws R_3_0_0_47 #[(.ref sb), (.ref qs)] h0 (QAP Z cs fm lo bl la lb li sb qs qb qk va vk kn h0 n0) := by
  refine og_start (plainFor_of_name pn_java_lang_AbstractStringBuilder) fun p e s m below meth c s₁ Bd hx hby hml hZ hown hnm X0 e0 => ?_
  have y := @hb _ _ hby
  have w := @wd _ _ hw
  refine og (fun t k => castTop (ef15 m sb qs) k) ?_
  refine og2 X0 hx (fun j _ k => o_aloadN j (y d17_0) rfl rfl <| o_ifnonnullYes j (pc' := 9) (y d17_1) <| o_aloadN j (y d17_9) rfl rfl <| k) ?_
  refine cV qs [] [] 0 X0 hx hZ hown (w 103 rfl) (w 69 rfl) (w 71 rfl) (w 70 rfl) (w 3 rfl) (w 72 rfl) (rmLE l Z a0 hw [] cs fm lo bl la lb li qs qb qk (3 : Int32) ([(.int 105), (.int 102), (.int 95)]) h0 n0 Z0 H0 pr1 pr2 pr3 pr4 pr5) e0 pr4 hml pd_ocI (y d17_10) (fun v1 T1 L1 hQ1 X1 => ?_)
  obtain ⟨rfl, N1a, eh1⟩ := hQ1
  have N1 := Fr.app (Fr.nil n0) N1a
  have e1 : T1.heap = h0 := eh1
  refine og2 X1 hx (fun j _ k => o_istoreN j (y d17_13) (l' := #[.val (.ref sb), .val (.ref qs), .val (.int 3)]) rfl <| o_aloadN j (y d17_14) rfl rfl <| o_aloadN j (y d17_15) rfl rfl <| k) ?_
  refine g_getF X1 hx hZ hown (w 104 rfl) e1 pr8 (y d17_16) (fun T2 X2 e2 => ?_)
  refine og2 X2 hx (fun j _ k => o_iloadN j (y d17_19) rfl <| o_iadd j (y d17_20) <| k) ?_
  rw [(by decide : (0 : Int32) + (3 : Int32) = (3 : Int32))]
  refine cV sb [(.int 3)] [] 0 X2 hx hZ hown (w 106 rfl) (own_decl (w 107 rfl) (w 110 rfl)) (w 109 rfl) (w 107 rfl) (w 85 rfl) (w 110 rfl) (rmEN l Z a0 hw [] sb va vk (own_nn kn) (own_pb kn []) (3 : Int32) h0 n0 Z0 pr6 pr7 pr10 (own_room (L := [(105 : Int32), (102 : Int32), (95 : Int32)]) H13 (Nat.lt_trans H14 (by decide)))) e2 pr9 hml pd_oIcV (y d17_21) (fun v3 T3 L3 hQ3 X3 => ?_)
  obtain ⟨rfl, N3a, eh3⟩ := hQ3
  have N3 := Fr.app N1 N3a
  have e3 : T3.heap = h0 := eh3
  refine og2 X3 hx (fun j _ k => o_aloadN j (y d17_24) rfl rfl <| o_aloadN j (y d17_25) rfl rfl <| k) ?_
  refine g_getF X3 hx hZ hown (w 104 rfl) e3 pr8 (y d17_26) (fun T4 X4 e4 => ?_)
  refine og2 X4 hx (fun j _ k => o_aloadN j (y d17_29) rfl rfl <| k) ?_
  refine cV sb [(.int 0), (.ref qs)] [] 0 X4 hx hZ hown (w 111 rfl) (own_decl (w 112 rfl) (w 115 rfl)) (w 114 rfl) (w 112 rfl) (w 85 rfl) (w 115 rfl) (rmPA l Z a0 hw [] cs fm lo bl la lb li sb qs qb qk va vk kn h0 n0 Z0 H0 pr1 pr2 pr3 pr4 pr5 pr6 pr7 pr9 pr10 H12 H13 H14) e4 pr9 hml pd_oILjava_lang_StringscV (y d17_30) (fun v5 T5 L5 hQ5 X5 => ?_)
  obtain ⟨rfl, N5a, K5, Q5_0⟩ := hQ5
  have N5 := Fr.app N3 N5a
  have e5 : T5.heap = T5.heap := rfl
  have P5 : Keep h0 T5.heap [sb, va] := ((Keep.refl h0 [sb, va]).trans K5 (allS (Or.inl (List.mem_of_getElem? (i := 1) rfl)) all0))
  have F10 := (pr6.keep K5 (ninS (Exa.neArv pr9 pr10 (w 65 rfl)) nin0))
  have F11 := (pr7.keep K5 (ninS (Exa.neArv pr9 pr10 (w 65 rfl)) nin0))
  have F12 := (pr8.keep K5 (ninS (Exa.neArv pr9 pr10 (w 65 rfl)) nin0))
  have E13 := (pr9.keep K5)
  refine og2 X5 hx (fun j _ k => o_aloadN j (y d17_33) rfl rfl <| o_dup j (y d17_34) rfl <| k) ?_
  refine g_getF X5 hx hZ hown (w 104 rfl) e5 F12 (y d17_35) (fun T14 X14 e14 => ?_)
  refine og2 X14 hx (fun j _ k => o_iloadN j (y d17_38) rfl <| o_iadd j (y d17_39) <| k) ?_
  rw [(by decide : (0 : Int32) + (3 : Int32) = (3 : Int32))]
  refine pF .int X14 hx hZ hown (w 104 rfl) e14 F12 E13 (Or.inl (w 105 rfl)) (w 65 rfl) (y d17_40) (fun T15 h15 X15 e15 W15 => ?_)
  have N15 := Fr.snoc X15 N5 H11
  have P15 := P5.wr W15 (Or.inl (List.mem_of_getElem? (i := 0) rfl))
  have E20 := (Exa.wr W15 E13)
  have A21 := (Q5_0.other W15 (Ne.symm (Exa.neArv E13 Q5_0 (w 65 rfl))))
  have F22 := (Fld.other W15 F10 (Or.inr (slot_ne (C := "java/lang/StringBuilder") (Or.inl (w 90 rfl)) (Or.inl (w 105 rfl)) (by decide) (t := (.array .byte)) (t' := .int) (by decide) (by decide))))
  have F23 := (Fld.other W15 F11 (Or.inr (slot_ne (C := "java/lang/StringBuilder") (Or.inl (w 92 rfl)) (Or.inl (w 105 rfl)) (by decide) (t := .byte) (t' := .int) (by decide) (by decide))))
  have F24 := (Fld.same W15 F12)
  refine og2 X15 hx (fun j _ k => o_aloadN j (y d17_43) rfl rfl <| k) ?_
  exact rA X15 hx Bd rfl rfl rfl (y d17_44) e15 ⟨rfl, N15, P15, F22, F23, F24, E20, A21⟩

abbrev R_4_0_0_61 : Room := ({ frames := 4, cells := 0, slots := 0, locals := 61 } : Room)
abbrev k31 := jdk_67_method_7_code
theorem d16_0 : decode k31 0 = .ok (.aload_n 0, 1) := by decide +kernel
theorem d16_1 : decode k31 1 = .ok (.aload_n 1, 1) := by decide +kernel
theorem d16_2 : decode k31 2 = .ok (.invokespecial 29, 3) := by decide +kernel
theorem d16_5 : decode k31 5 = .ok (.pop, 1) := by decide +kernel
theorem d16_6 : decode k31 6 = .ok (.aload_n 0, 1) := by decide +kernel
theorem d16_7 : decode k31 7 = .ok (.areturn, 1) := by decide +kernel
theorem pd_oLjava_lang_StringscLjava_lang_AbstractStringBuilders : parseMethodDescriptor "(Ljava/lang/String;)Ljava/lang/AbstractStringBuilder;" = some ⟨[(.object "java/lang/String")], some (.object "java/lang/AbstractStringBuilder")⟩ := by decide +kernel
def QSS (Z : State) (cs : Int32) (fm : Value) (lo : Addr) (bl : Addr) (la : Addr) (lb : Addr) (li : Addr) (sb : Addr) (qs : Addr) (qb : Addr) (qk : ClassId) (va : Addr) (vk : ClassId) (kn : Nat) (h0 : Heap) (n0 : Nat) (v : Option Value) (h : Heap) (L : List Loc) : Prop := v = some (.ref sb) ∧ Fr n0 L ∧ Keep h0 h [sb, va] ∧ Fld Z h sb "java/lang/AbstractStringBuilder" "value" "[B" (.ref va) ∧ Fld Z h sb "java/lang/AbstractStringBuilder" "coder" "B" (.int 0) ∧ Fld Z h sb "java/lang/AbstractStringBuilder" "count" "I" (.int 3) ∧ Exa Z h sb "java/lang/StringBuilder" ∧ Arv Z h va vk .byte (own_nn kn) (own_pb kn [(105 : Int32), (102 : Int32), (95 : Int32)]) (.int 0)
theorem rmSS (l : Launch) (Z : State) (a0 : Array Value) (hw : HW a0 Z) (ws : List Jvm.Cond) (cs : Int32) (fm : Value) (lo : Addr) (bl : Addr) (la : Addr) (lb : Addr) (li : Addr) (sb : Addr) (qs : Addr) (qb : Addr) (qk : ClassId) (va : Addr) (vk : ClassId) (kn : Nat) (h0 : Heap) (n0 : Nat) (Z0 : n0 ≤ h0.size) (H0 : OSt Z cs fm lo bl la lb li) (pr1 : Old Z n0 h0) (pr2 : Fld Z h0 qs "java/lang/String" "value" "[B" (.ref qb)) (pr3 : Fld Z h0 qs "java/lang/String" "coder" "B" (.int 0)) (pr4 : Exa Z h0 qs "java/lang/String") (pr5 : Arv Z h0 qb qk .byte (3 : Int32) [(.int 105), (.int 102), (.int 95)] (.int 0)) (pr6 : Fld Z h0 sb "java/lang/AbstractStringBuilder" "value" "[B" (.ref va)) (pr7 : Fld Z h0 sb "java/lang/AbstractStringBuilder" "coder" "B" (.int 0)) (pr8 : Fld Z h0 sb "java/lang/AbstractStringBuilder" "count" "I" (.int 0)) (pr9 : Exa Z h0 sb "java/lang/StringBuilder") (pr10 : Arv Z h0 va vk .byte (own_nn kn) (own_pb kn []) (.int 0)) (H11 : n0 ≤ sb) (H12 : n0 ≤ va) (H13 : 3 ≤ kn) (H14 : kn < 20) :
    MF l Z ⟨"java/lang/StringBuilder", "append", "(Ljava/lang/String;)Ljava/lang/StringBuilder;"⟩ jdk_67_method_7_code 2 (some (.object "java/lang/StringBuilder")) ws R_4_0_0_61 #[(.ref sb), (.ref qs)] h0 (QSS Z cs fm lo bl la lb li sb qs qb qk va vk kn h0 n0) := by
  refine og_start (plainFor_of_name pn_java_lang_StringBuilder) fun p e s m below meth c s₁ Bd hx hby hml hZ hown hnm X0 e0 => ?_
  have y := @hb _ _ hby
  have w := @wd _ _ hw
  refine og (fun t k => castTop (ef10 m sb qs) k) ?_
  refine og2 X0 hx (fun j _ k => o_aloadN j (y d16_0) rfl rfl <| o_aloadN j (y d16_1) rfl rfl <| k) ?_
  refine cU sb [(.ref qs)] [] 0 X0 hx hZ hown (w 98 rfl) (own_same (w 109 rfl) (w 99 rfl)) (w 99 rfl) (w 100 rfl) (w 85 rfl) (w 102 rfl) (rmAP l Z a0 hw [] cs fm lo bl la lb li sb qs qb qk va vk kn h0 n0 Z0 H0 pr1 pr2 pr3 pr4 pr5 pr6 pr7 pr8 pr9 pr10 H11 H12 H13 H14) e0 (Ins.self pr9) hml pd_oLjava_lang_StringscLjava_lang_AbstractStringBuilders (y d16_2) (fun v1 T1 L1 hQ1 X1 => ?_)
  obtain ⟨rfl, N1a, K1, Q1_0, Q1_1, Q1_2, Q1_3, Q1_4⟩ := hQ1
  have N1 := Fr.app (Fr.nil n0) N1a
  have e1 : T1.heap = T1.heap := rfl
  have P1 : Keep h0 T1.heap [sb, va] := ((Keep.refl h0 [sb, va]).trans K1 (allS (Or.inl (List.mem_of_getElem? (i := 0) rfl)) (allS (Or.inl (List.mem_of_getElem? (i := 1) rfl)) all0)))
  refine og2 X1 hx (fun j _ k => o_pop j (y d16_5) rfl <| o_aloadN j (y d16_6) rfl rfl <| k) ?_
  exact rA X1 hx Bd rfl rfl rfl (y d16_7) e1 ⟨rfl, N1, P1, Q1_0, Q1_1, Q1_2, Q1_3, Q1_4⟩

abbrev k35 := jdk_68_method_31_code
theorem d41_0 : decode k35 0 = .ok (.aload_n 0, 1) := by decide +kernel
theorem d41_1 : decode k35 1 = .ok (.aload_n 0, 1) := by decide +kernel
theorem d41_2 : decode k35 2 = .ok (.getfield 79, 3) := by decide +kernel
theorem d41_5 : decode k35 5 = .ok (.iconst 1, 1) := by decide +kernel
theorem d41_6 : decode k35 6 = .ok (.iadd, 1) := by decide +kernel
theorem d41_7 : decode k35 7 = .ok (.invokevirtual 100, 3) := by decide +kernel
theorem d41_10 : decode k35 10 = .ok (.aload_n 0, 1) := by decide +kernel
theorem d41_11 : decode k35 11 = .ok (.invokevirtual 83, 3) := by decide +kernel
theorem d41_14 : decode k35 14 = .ok (.ifCond .eq 31, 3) := by decide +kernel
theorem d41_17 : decode k35 17 = .ok (.iload_n 1, 1) := by decide +kernel
theorem d41_18 : decode k35 18 = .ok (.invokestatic 191, 3) := by decide +kernel
theorem d41_21 : decode k35 21 = .ok (.ifCond .eq 24, 3) := by decide +kernel
theorem d41_24 : decode k35 24 = .ok (.aload_n 0, 1) := by decide +kernel
theorem d41_25 : decode k35 25 = .ok (.getfield 15, 3) := by decide +kernel
theorem d41_28 : decode k35 28 = .ok (.aload_n 0, 1) := by decide +kernel
theorem d41_29 : decode k35 29 = .ok (.dup, 1) := by decide +kernel
theorem d41_30 : decode k35 30 = .ok (.getfield 79, 3) := by decide +kernel
theorem d41_33 : decode k35 33 = .ok (.dup_x1, 1) := by decide +kernel
theorem d41_34 : decode k35 34 = .ok (.iconst 1, 1) := by decide +kernel
theorem d41_35 : decode k35 35 = .ok (.iadd, 1) := by decide +kernel
theorem d41_36 : decode k35 36 = .ok (.putfield 79, 3) := by decide +kernel
theorem d41_39 : decode k35 39 = .ok (.iload_n 1, 1) := by decide +kernel
theorem d41_40 : decode k35 40 = .ok (.i2b, 1) := by decide +kernel
theorem d41_41 : decode k35 41 = .ok (.bastore, 1) := by decide +kernel
theorem d41_42 : decode k35 42 = .ok (.goto 33, 3) := by decide +kernel
theorem d41_75 : decode k35 75 = .ok (.aload_n 0, 1) := by decide +kernel
theorem d41_76 : decode k35 76 = .ok (.areturn, 1) := by decide +kernel
def QAC (Z : State) (cs : Int32) (fm : Value) (lo : Addr) (bl : Addr) (la : Addr) (lb : Addr) (li : Addr) (sb : Addr) (va : Addr) (vk : ClassId) (kn : Nat) (L0 : List Int32) (qc : Int32) (h0 : Heap) (n0 : Nat) (v : Option Value) (h : Heap) (L : List Loc) : Prop := v = some (.ref sb) ∧ Fr n0 L ∧ Keep h0 h [sb, va] ∧ Fld Z h sb "java/lang/AbstractStringBuilder" "value" "[B" (.ref va) ∧ Fld Z h sb "java/lang/AbstractStringBuilder" "coder" "B" (.int 0) ∧ Fld Z h sb "java/lang/AbstractStringBuilder" "count" "I" (.int (own_ln (L0 ++ [qc]))) ∧ Exa Z h sb "java/lang/StringBuilder" ∧ Arv Z h va vk .byte (own_nn kn) (own_pb kn (L0 ++ [qc])) (.int 0)
theorem rmAC (l : Launch) (Z : State) (a0 : Array Value) (hw : HW a0 Z) (ws : List Jvm.Cond) (cs : Int32) (fm : Value) (lo : Addr) (bl : Addr) (la : Addr) (lb : Addr) (li : Addr) (sb : Addr) (va : Addr) (vk : ClassId) (kn : Nat) (L0 : List Int32) (qc : Int32) (h0 : Heap) (n0 : Nat) (Z0 : n0 ≤ h0.size) (H0 : OSt Z cs fm lo bl la lb li) (pr1 : Old Z n0 h0) (pr2 : Fld Z h0 sb "java/lang/AbstractStringBuilder" "value" "[B" (.ref va)) (pr3 : Fld Z h0 sb "java/lang/AbstractStringBuilder" "coder" "B" (.int 0)) (pr4 : Fld Z h0 sb "java/lang/AbstractStringBuilder" "count" "I" (.int (own_ln L0))) (pr5 : Exa Z h0 sb "java/lang/StringBuilder") (pr6 : Arv Z h0 va vk .byte (own_nn kn) (own_pb kn L0) (.int 0)) (H7 : n0 ≤ sb) (H8 : n0 ≤ va) (H9 : L0.length < kn) (H10 : kn < 20) (H11 : OB qc) :
    MF l Z ⟨"java/lang/AbstractStringBuilder", "append", "(C)Ljava/lang/AbstractStringBuilder;"⟩ jdk_68_method_31_code 2 (some (.object "java/lang/AbstractStringBuilder")) ws R_1_0_0_14 #[(.ref sb), (.int qc)] h0 (QAC Z cs fm lo bl la lb li sb va vk kn L0 qc h0 n0) := by
  refine og_start (plainFor_of_name pn_java_lang_AbstractStringBuilder) fun p e s m below meth c s₁ Bd hx hby hml hZ hown hnm X0 e0 => ?_
  have y := @hb _ _ hby
  have w := @wd _ _ hw
  refine og (fun t k => castTop (ef5 m sb qc) k) ?_
  refine og2 X0 hx (fun j _ k => o_aloadN j (y d41_0) rfl rfl <| o_aloadN j (y d41_1) rfl rfl <| k) ?_
  refine g_getF X0 hx hZ hown (w 104 rfl) e0 pr4 (y d41_2) (fun T1 X1 e1 => ?_)
  refine og2 X1 hx (fun j _ k => o_iconstV j 1 (y d41_5) rfl <| o_iadd j (y d41_6) <| k) ?_
  rw [(own_ln_app L0 qc)]
  refine cV sb [(.int (own_ln (L0 ++ [qc])))] [] 0 X1 hx hZ hown (w 106 rfl) (own_decl (w 107 rfl) (w 110 rfl)) (w 109 rfl) (w 107 rfl) (w 85 rfl) (w 110 rfl) (rmEN l Z a0 hw [] sb va vk (own_nn kn) (own_pb kn L0) (own_ln (L0 ++ [qc])) h0 n0 Z0 pr2 pr3 pr6 (own_room (by first | omega | (simp only [List.length_append, List.length_cons, List.length_nil]; omega)) (by omega))) e1 pr5 hml pd_oIcV (y d41_7) (fun v2 T2 L2 hQ2 X2 => ?_)
  obtain ⟨rfl, N2a, eh2⟩ := hQ2
  have N2 := Fr.app (Fr.nil n0) N2a
  have e2 : T2.heap = h0 := eh2
  refine og2 X2 hx (fun j _ k => o_aloadN j (y d41_10) rfl rfl <| k) ?_
  refine cV sb [] [] 0 X2 hx hZ hown (w 216 rfl) (w 173 rfl) (w 175 rfl) (w 174 rfl) (w 85 rfl) (w 176 rfl) (rmAL l Z a0 hw [] cs fm lo bl la lb li sb h0 n0 Z0 H0 pr1 pr3) e2 pr5 hml pd_ocZ (y d41_11) (fun v3 T3 L3 hQ3 X3 => ?_)
  obtain ⟨rfl, N3a, eh3⟩ := hQ3
  have N3 := Fr.app N2 N3a
  have e3 : T3.heap = h0 := eh3
  refine og2 X3 hx (fun j _ k => o_ifNo j (y d41_14) (by decide) <| o_iloadN j (y d41_17) rfl <| k) ?_
  refine cS [(.int qc)] [] 0 X3 hx hZ hown (w 217 rfl) (w 218 rfl) (w 55 rfl) (w 219 rfl) (rmCN l Z a0 hw [] qc h0 n0 Z0 H11) e3 hml pd_oCcZ (y d41_18) (fun v4 T4 L4 hQ4 X4 => ?_)
  obtain ⟨rfl, N4a, eh4⟩ := hQ4
  have N4 := Fr.app N3 N4a
  have e4 : T4.heap = h0 := eh4
  refine og2 X4 hx (fun j _ k => o_ifNo j (y d41_21) (by decide) <| o_aloadN j (y d41_24) rfl rfl <| k) ?_
  refine g_getF X4 hx hZ hown (w 89 rfl) e4 pr2 (y d41_25) (fun T5 X5 e5 => ?_)
  refine og2 X5 hx (fun j _ k => o_aloadN j (y d41_28) rfl rfl <| o_dup j (y d41_29) rfl <| k) ?_
  refine g_getF X5 hx hZ hown (w 104 rfl) e5 pr4 (y d41_30) (fun T6 X6 e6 => ?_)
  refine og2 X6 hx (fun j _ k => o_dupX1 j (y d41_33) rfl rfl <| o_iconstV j 1 (y d41_34) rfl <| o_iadd j (y d41_35) <| k) ?_
  rw [(own_ln_app L0 qc)]
  refine pF .int X6 hx hZ hown (w 104 rfl) e6 pr4 pr5 (Or.inl (w 105 rfl)) (w 65 rfl) (y d41_36) (fun T7 h7 X7 e7 W7 => ?_)
  have N7 := Fr.snoc X7 N4 H7
  have P7 := (Keep.refl h0 [sb, va]).wr W7 (Or.inl (List.mem_of_getElem? (i := 0) rfl))
  have E9 := (Exa.wr W7 pr5)
  have A10 := (pr6.other W7 (Ne.symm (Exa.neArv pr5 pr6 (w 65 rfl))))
  have F11 := (Fld.other W7 pr2 (Or.inr (slot_ne (C := "java/lang/StringBuilder") (Or.inl (w 90 rfl)) (Or.inl (w 105 rfl)) (by decide) (t := (.array .byte)) (t' := .int) (by decide) (by decide))))
  have F12 := (Fld.other W7 pr3 (Or.inr (slot_ne (C := "java/lang/StringBuilder") (Or.inl (w 92 rfl)) (Or.inl (w 105 rfl)) (by decide) (t := .byte) (t' := .int) (by decide) (by decide))))
  have F13 := (Fld.same W7 pr4)
  refine og2 X7 hx (fun j _ k => o_iloadN j (y d41_39) rfl <| o_i2bO j (y d41_40) <| k) ?_
  refine sBs (v := own_b qc) (L0.length) X7 hx hZ e7 A10 (own_nar_b _) ⟨own_ln0 (by omega), own_ln_nn (by omega) (by omega)⟩ (own_ln_nat (by omega)) (by rw [own_pb_len (by omega)]; omega) (own_pb_set _ (by omega)) (y d41_41) (fun T14 h14 X14 e14 W14 A14 => ?_)
  have N14 := Fr.snoc X14 N7 H8
  have P14 := P7.wr W14 (Or.inl (List.mem_of_getElem? (i := 1) rfl))
  have E16 := (Exa.wr W14 E9)
  have F17 := (Fld.other W14 F11 (Or.inl (Exa.neArv E9 A10 (w 65 rfl))))
  have F18 := (Fld.other W14 F12 (Or.inl (Exa.neArv E9 A10 (w 65 rfl))))
  have F19 := (Fld.other W14 F13 (Or.inl (Exa.neArv E9 A10 (w 65 rfl))))
  have A14v : Arv Z h14 va vk .byte (own_nn kn) (own_pb kn (L0 ++ [qc])) (.int 0) := A14
  refine og2 X14 hx (fun j _ k => o_goto j (pc' := 75) (y d41_42) <| o_aloadN j (y d41_75) rfl rfl <| k) ?_
  exact rA X14 hx Bd rfl rfl rfl (y d41_76) e14 ⟨rfl, N14, P14, F17, F18, F19, E16, A14v⟩

abbrev k28 := jdk_67_method_14_code
theorem d40_0 : decode k28 0 = .ok (.aload_n 0, 1) := by decide +kernel
theorem d40_1 : decode k28 1 = .ok (.iload_n 1, 1) := by decide +kernel
theorem d40_2 : decode k28 2 = .ok (.invokespecial 50, 3) := by decide +kernel
theorem d40_5 : decode k28 5 = .ok (.pop, 1) := by decide +kernel
theorem d40_6 : decode k28 6 = .ok (.aload_n 0, 1) := by decide +kernel
theorem d40_7 : decode k28 7 = .ok (.areturn, 1) := by decide +kernel
theorem pd_oCcLjava_lang_AbstractStringBuilders : parseMethodDescriptor "(C)Ljava/lang/AbstractStringBuilder;" = some ⟨[.char], some (.object "java/lang/AbstractStringBuilder")⟩ := by decide +kernel
def QSA (Z : State) (cs : Int32) (fm : Value) (lo : Addr) (bl : Addr) (la : Addr) (lb : Addr) (li : Addr) (sb : Addr) (va : Addr) (vk : ClassId) (kn : Nat) (L0 : List Int32) (qc : Int32) (h0 : Heap) (n0 : Nat) (v : Option Value) (h : Heap) (L : List Loc) : Prop := v = some (.ref sb) ∧ Fr n0 L ∧ Keep h0 h [sb, va] ∧ Fld Z h sb "java/lang/AbstractStringBuilder" "value" "[B" (.ref va) ∧ Fld Z h sb "java/lang/AbstractStringBuilder" "coder" "B" (.int 0) ∧ Fld Z h sb "java/lang/AbstractStringBuilder" "count" "I" (.int (own_ln (L0 ++ [qc]))) ∧ Exa Z h sb "java/lang/StringBuilder" ∧ Arv Z h va vk .byte (own_nn kn) (own_pb kn (L0 ++ [qc])) (.int 0)
theorem rmSA (l : Launch) (Z : State) (a0 : Array Value) (hw : HW a0 Z) (ws : List Jvm.Cond) (cs : Int32) (fm : Value) (lo : Addr) (bl : Addr) (la : Addr) (lb : Addr) (li : Addr) (sb : Addr) (va : Addr) (vk : ClassId) (kn : Nat) (L0 : List Int32) (qc : Int32) (h0 : Heap) (n0 : Nat) (Z0 : n0 ≤ h0.size) (H0 : OSt Z cs fm lo bl la lb li) (pr1 : Old Z n0 h0) (pr2 : Fld Z h0 sb "java/lang/AbstractStringBuilder" "value" "[B" (.ref va)) (pr3 : Fld Z h0 sb "java/lang/AbstractStringBuilder" "coder" "B" (.int 0)) (pr4 : Fld Z h0 sb "java/lang/AbstractStringBuilder" "count" "I" (.int (own_ln L0))) (pr5 : Exa Z h0 sb "java/lang/StringBuilder") (pr6 : Arv Z h0 va vk .byte (own_nn kn) (own_pb kn L0) (.int 0)) (H7 : n0 ≤ sb) (H8 : n0 ≤ va) (H9 : L0.length < kn) (H10 : kn < 20) (H11 : OB qc) :
    MF l Z ⟨"java/lang/StringBuilder", "append", "(C)Ljava/lang/StringBuilder;"⟩ jdk_67_method_14_code 2 (some (.object "java/lang/StringBuilder")) ws R_2_0_0_27 #[(.ref sb), (.int qc)] h0 (QSA Z cs fm lo bl la lb li sb va vk kn L0 qc h0 n0) := by
  refine og_start (plainFor_of_name pn_java_lang_StringBuilder) fun p e s m below meth c s₁ Bd hx hby hml hZ hown hnm X0 e0 => ?_
  have y := @hb _ _ hby
  have w := @wd _ _ hw
  refine og (fun t k => castTop (ef5 m sb qc) k) ?_
  refine og2 X0 hx (fun j _ k => o_aloadN j (y d40_0) rfl rfl <| o_iloadN j (y d40_1) rfl <| k) ?_
  refine cU sb [(.int qc)] [] 0 X0 hx hZ hown (w 212 rfl) (own_same (w 109 rfl) (w 213 rfl)) (w 213 rfl) (w 100 rfl) (w 85 rfl) (w 215 rfl) (rmAC l Z a0 hw [] cs fm lo bl la lb li sb va vk kn L0 qc h0 n0 Z0 H0 pr1 pr2 pr3 pr4 pr5 pr6 H7 H8 H9 H10 H11) e0 (Ins.self pr5) hml pd_oCcLjava_lang_AbstractStringBuilders (y d40_2) (fun v1 T1 L1 hQ1 X1 => ?_)
  obtain ⟨rfl, N1a, K1, Q1_0, Q1_1, Q1_2, Q1_3, Q1_4⟩ := hQ1
  have N1 := Fr.app (Fr.nil n0) N1a
  have e1 : T1.heap = T1.heap := rfl
  have P1 : Keep h0 T1.heap [sb, va] := ((Keep.refl h0 [sb, va]).trans K1 (allS (Or.inl (List.mem_of_getElem? (i := 0) rfl)) (allS (Or.inl (List.mem_of_getElem? (i := 1) rfl)) all0)))
  refine og2 X1 hx (fun j _ k => o_pop j (y d40_5) rfl <| o_aloadN j (y d40_6) rfl rfl <| k) ?_
  exact rA X1 hx Bd rfl rfl rfl (y d40_7) e1 ⟨rfl, N1, P1, Q1_0, Q1_1, Q1_2, Q1_3, Q1_4⟩

abbrev k38 := jdk_68_method_6_code
theorem d31_0 : decode k38 0 = .ok (.aload_n 0, 1) := by decide +kernel
theorem d31_1 : decode k38 1 = .ok (.getfield 79, 3) := by decide +kernel
theorem d31_4 : decode k38 4 = .ok (.ireturn, 1) := by decide +kernel
def QAN (Z : State) (sb : Addr) (qn : Int32) (h0 : Heap) (n0 : Nat) (v : Option Value) (h : Heap) (L : List Loc) : Prop := v = some (.int qn) ∧ Fr n0 L ∧ h = h0
theorem rmAN (l : Launch) (Z : State) (a0 : Array Value) (hw : HW a0 Z) (ws : List Jvm.Cond) (sb : Addr) (qn : Int32) (h0 : Heap) (n0 : Nat) (Z0 : n0 ≤ h0.size) (pr0 : Fld Z h0 sb "java/lang/AbstractStringBuilder" "count" "I" (.int qn)) :
    MF l Z ⟨"java/lang/AbstractStringBuilder", "length", "()I"⟩ jdk_68_method_6_code 1 (some .int) ws R_0_0_0_0 #[(.ref sb)] h0 (QAN Z sb qn h0 n0) := by
  refine og_start (plainFor_of_name pn_java_lang_AbstractStringBuilder) fun p e s m below meth c s₁ Bd hx hby hml hZ hown hnm X0 e0 => ?_
  have y := @hb _ _ hby
  have w := @wd _ _ hw
  refine og (fun t k => castTop (ef2 m sb) k) ?_
  refine og2 X0 hx (fun j _ k => o_aloadN j (y d31_0) rfl rfl <| k) ?_
  refine g_getF X0 hx hZ hown (w 104 rfl) e0 pr0 (y d31_1) (fun T1 X1 e1 => ?_)
  exact rI X1 hx Bd (y d31_4) e1 ⟨rfl, (Fr.nil n0), rfl⟩

abbrev k32 := jdk_67_method_93_code
theorem d30_0 : decode k32 0 = .ok (.aload_n 0, 1) := by decide +kernel
theorem d30_1 : decode k32 1 = .ok (.invokespecial 343, 3) := by decide +kernel
theorem d30_4 : decode k32 4 = .ok (.ireturn, 1) := by decide +kernel
def QSN (Z : State) (sb : Addr) (qn : Int32) (h0 : Heap) (n0 : Nat) (v : Option Value) (h : Heap) (L : List Loc) : Prop := v = some (.int qn) ∧ Fr n0 L ∧ h = h0
theorem rmSN (l : Launch) (Z : State) (a0 : Array Value) (hw : HW a0 Z) (ws : List Jvm.Cond) (sb : Addr) (qn : Int32) (h0 : Heap) (n0 : Nat) (Z0 : n0 ≤ h0.size) (pr0 : Fld Z h0 sb "java/lang/AbstractStringBuilder" "count" "I" (.int qn)) (pr1 : Exa Z h0 sb "java/lang/StringBuilder") :
    MF l Z ⟨"java/lang/StringBuilder", "length", "()I"⟩ jdk_67_method_93_code 1 (some .int) ws R_1_0_0_12 #[(.ref sb)] h0 (QSN Z sb qn h0 n0) := by
  refine og_start (plainFor_of_name pn_java_lang_StringBuilder) fun p e s m below meth c s₁ Bd hx hby hml hZ hown hnm X0 e0 => ?_
  have y := @hb _ _ hby
  have w := @wd _ _ hw
  refine og (fun t k => castTop (ef2 m sb) k) ?_
  refine og2 X0 hx (fun j _ k => o_aloadN j (y d30_0) rfl rfl <| k) ?_
  refine cU sb [] [] 0 X0 hx hZ hown (w 170 rfl) (own_same (w 109 rfl) (w 166 rfl)) (w 166 rfl) (w 100 rfl) (w 85 rfl) (w 171 rfl) (rmAN l Z a0 hw [] sb qn h0 n0 Z0 pr0) e0 (Ins.self pr1) hml pd_ocI (y d30_1) (fun v1 T1 L1 hQ1 X1 => ?_)
  obtain ⟨rfl, N1a, eh1⟩ := hQ1
  have N1 := Fr.app (Fr.nil n0) N1a
  have e1 : T1.heap = h0 := eh1
  exact rI X1 hx Bd (y d30_4) e1 ⟨rfl, N1, rfl⟩

abbrev k36 := jdk_68_method_64_code
theorem d29_0 : decode k36 0 = .ok (.aload_n 0, 1) := by decide +kernel
theorem d29_1 : decode k36 1 = .ok (.getfield 15, 3) := by decide +kernel
theorem d29_4 : decode k36 4 = .ok (.areturn, 1) := by decide +kernel
def QGV (Z : State) (sb : Addr) (va : Addr) (h0 : Heap) (n0 : Nat) (v : Option Value) (h : Heap) (L : List Loc) : Prop := v = some (.ref va) ∧ Fr n0 L ∧ h = h0
theorem rmGV (l : Launch) (Z : State) (a0 : Array Value) (hw : HW a0 Z) (ws : List Jvm.Cond) (sb : Addr) (va : Addr) (h0 : Heap) (n0 : Nat) (Z0 : n0 ≤ h0.size) (pr0 : Fld Z h0 sb "java/lang/AbstractStringBuilder" "value" "[B" (.ref va)) :
    MF l Z ⟨"java/lang/AbstractStringBuilder", "getValue", "()[B"⟩ jdk_68_method_64_code 1 (some (.array .byte)) ws R_0_0_0_0 #[(.ref sb)] h0 (QGV Z sb va h0 n0) := by
  refine og_start (plainFor_of_name pn_java_lang_AbstractStringBuilder) fun p e s m below meth c s₁ Bd hx hby hml hZ hown hnm X0 e0 => ?_
  have y := @hb _ _ hby
  have w := @wd _ _ hw
  refine og (fun t k => castTop (ef2 m sb) k) ?_
  refine og2 X0 hx (fun j _ k => o_aloadN j (y d29_0) rfl rfl <| k) ?_
  refine g_getF X0 hx hZ hown (w 89 rfl) e0 pr0 (y d29_1) (fun T1 X1 e1 => ?_)
  exact rA X1 hx Bd rfl rfl rfl (y d29_4) e1 ⟨rfl, (Fr.nil n0), rfl⟩

abbrev k25 := jdk_65_method_131_code
theorem d35_0 : decode k25 0 = .ok (.iload_n 1, 1) := by decide +kernel
theorem d35_1 : decode k25 1 = .ok (.iload_n 0, 1) := by decide +kernel
theorem d35_2 : decode k25 2 = .ok (.if_icmp .ge 35, 3) := by decide +kernel
theorem d35_37 : decode k25 37 = .ok (.return_, 1) := by decide +kernel
theorem pn_java_util_Arrays : plainName "java/util/Arrays" = true := by first | (simp [plainName, overriddenIn]; done) | decide +kernel
def QCL (Z : State) (qa : Int32) (qb : Int32) (h0 : Heap) (n0 : Nat) (v : Option Value) (h : Heap) (L : List Loc) : Prop := v = none ∧ Fr n0 L ∧ h = h0
theorem rmCL (l : Launch) (Z : State) (a0 : Array Value) (hw : HW a0 Z) (ws : List Jvm.Cond) (qa : Int32) (qb : Int32) (h0 : Heap) (n0 : Nat) (Z0 : n0 ≤ h0.size) (H0 : ¬ qb < qa) :
    MF l Z ⟨"java/util/Arrays", "checkLength", "(II)V"⟩ jdk_65_method_131_code 2 none ws R_0_0_0_0 #[(.int qa), (.int qb)] h0 (QCL Z qa qb h0 n0) := by
  refine og_start (plainFor_of_name pn_java_util_Arrays) fun p e s m below meth c s₁ Bd hx hby hml hZ hown hnm X0 e0 => ?_
  have y := @hb _ _ hby
  refine og (fun t k => castTop (ef4 m qa qb) k) ?_
  refine og2 X0 hx (fun j _ k => o_iloadN j (y d35_0) rfl <| o_iloadN j (y d35_1) rfl <| o_icmpYes j (pc' := 37) (y d35_2) (XT.ii_ge_t H0) <| k) ?_
  exact r0 X0 hx Bd (y d35_37) e0 ⟨rfl, (Fr.nil n0), rfl⟩

abbrev k2 := jdk_29_method_69_code
theorem d36_0 : decode k2 0 = .ok (.iload_n 0, 1) := by decide +kernel
theorem d36_1 : decode k2 1 = .ok (.iload_n 1, 1) := by decide +kernel
theorem d36_2 : decode k2 2 = .ok (.if_icmp .gt 7, 3) := by decide +kernel
theorem d36_9 : decode k2 9 = .ok (.iload_n 1, 1) := by decide +kernel
theorem d36_10 : decode k2 10 = .ok (.ireturn, 1) := by decide +kernel
def QMI (Z : State) (qa : Int32) (qb : Int32) (h0 : Heap) (n0 : Nat) (v : Option Value) (h : Heap) (L : List Loc) : Prop := v = some (.int qb) ∧ Fr n0 L ∧ h = h0
theorem rmMI (l : Launch) (Z : State) (a0 : Array Value) (hw : HW a0 Z) (ws : List Jvm.Cond) (qa : Int32) (qb : Int32) (h0 : Heap) (n0 : Nat) (Z0 : n0 ≤ h0.size) (H0 : qb < qa) :
    MF l Z ⟨"java/lang/Math", "min", "(II)I"⟩ jdk_29_method_69_code 2 (some .int) ws R_0_0_0_0 #[(.int qa), (.int qb)] h0 (QMI Z qa qb h0 n0) := by
  refine og_start (by decide +kernel) fun p e s m below meth c s₁ Bd hx hby hml hZ hown hnm X0 e0 => ?_
  have y := @hb _ _ hby
  refine og (fun t k => castTop (ef4 m qa qb) k) ?_
  refine og2 X0 hx (fun j _ k => o_iloadN j (y d36_0) rfl <| o_iloadN j (y d36_1) rfl <| o_icmpYes j (pc' := 9) (y d36_2) (XT.ii_gt_t H0) <| o_iloadN j (y d36_9) rfl <| k) ?_
  exact rI X0 hx Bd (y d36_10) e0 ⟨rfl, (Fr.nil n0), rfl⟩

theorem own_lneq {L : List Int32} {k : Nat} (h : own_ln L = own_nn k) (g : L.length < 1000) (q : k < 1000) : L.length = k := by
  have e := congrArg Int32.toInt h
  rw [own_ln_int g, own_nn_int q] at e; omega
theorem own_lnne {L : List Int32} {k : Nat} (h : ¬ own_ln L = own_nn k) (g : L.length ≤ k) : L.length < k := Nat.lt_of_le_of_ne g fun e => h (by rw [← e]; rfl)

abbrev k27 := jdk_65_method_133_code
theorem d34_0 : decode k27 0 = .ok (.iload_n 1, 1) := by decide +kernel
theorem d34_1 : decode k27 1 = .ok (.iload_n 2, 1) := by decide +kernel
theorem d34_2 : decode k27 2 = .ok (.invokestatic 343, 3) := by decide +kernel
theorem d34_5 : decode k27 5 = .ok (.iload_n 2, 1) := by decide +kernel
theorem d34_6 : decode k27 6 = .ok (.iload_n 1, 1) := by decide +kernel
theorem d34_7 : decode k27 7 = .ok (.isub, 1) := by decide +kernel
theorem d34_8 : decode k27 8 = .ok (.istore_n 3, 1) := by decide +kernel
theorem d34_9 : decode k27 9 = .ok (.iload_n 3, 1) := by decide +kernel
theorem d34_10 : decode k27 10 = .ok (.newarray .byte, 2) := by decide +kernel
theorem d34_12 : decode k27 12 = .ok (.astore 4, 2) := by decide +kernel
theorem d34_14 : decode k27 14 = .ok (.aload_n 0, 1) := by decide +kernel
theorem d34_15 : decode k27 15 = .ok (.iload_n 1, 1) := by decide +kernel
theorem d34_16 : decode k27 16 = .ok (.aload 4, 2) := by decide +kernel
theorem d34_18 : decode k27 18 = .ok (.iconst 0, 1) := by decide +kernel
theorem d34_19 : decode k27 19 = .ok (.aload_n 0, 1) := by decide +kernel
theorem d34_20 : decode k27 20 = .ok (.arraylength, 1) := by decide +kernel
theorem d34_21 : decode k27 21 = .ok (.iload_n 1, 1) := by decide +kernel
theorem d34_22 : decode k27 22 = .ok (.isub, 1) := by decide +kernel
theorem d34_23 : decode k27 23 = .ok (.iload_n 3, 1) := by decide +kernel
theorem d34_24 : decode k27 24 = .ok (.invokestatic 304, 3) := by decide +kernel
theorem d34_27 : decode k27 27 = .ok (.invokestatic 150, 3) := by decide +kernel
theorem d34_30 : decode k27 30 = .ok (.aload 4, 2) := by decide +kernel
theorem d34_32 : decode k27 32 = .ok (.areturn, 1) := by decide +kernel
theorem pd_oIIcI : parseMethodDescriptor "(II)I" = some ⟨[.int, .int], some .int⟩ := by decide +kernel
theorem ef16 (m : MethodId) (x0 : Addr) (x1 : Int32) (x2 : Int32) : entryFrame m #[(.ref x0), (.int x1), (.int x2)] 5 = (mkF m 0 #[.val (.ref x0), .val (.int x1), .val (.int x2), .unset, .unset] []) := by first | (simp [entryFrame, mkF, argsToLocals, Value.category]; done) | rfl
def QCB (Z : State) (ba : Addr) (bk : ClassId) (kn : Nat) (L0 : List Int32) (h0 : Heap) (n0 : Nat) (v : Option Value) (h : Heap) (L : List Loc) : Prop := ∃ r : Addr, ∃ rk : ClassId, v = some (.ref r) ∧ Fr n0 L ∧ Keep h0 h [] ∧ Arv Z h r rk .byte (own_ln L0) (own_vb L0) (.int 0) ∧ h0.size ≤ r
theorem rmCB (l : Launch) (Z : State) (a0 : Array Value) (hw : HW a0 Z) (ws : List Jvm.Cond) (ba : Addr) (bk : ClassId) (kn : Nat) (L0 : List Int32) (h0 : Heap) (n0 : Nat) (Z0 : n0 ≤ h0.size) (pr0 : Arv Z h0 ba bk .byte (own_nn kn) (own_pb kn L0) (.int 0)) (H1 : L0.length < kn) (H2 : kn < 20) :
    MF l Z ⟨"java/util/Arrays", "copyOfRangeByte", "([BII)[B"⟩ jdk_65_method_133_code 5 (some (.array .byte)) ws R_1_1_20_18 #[(.ref ba), (.int 0), (.int (own_ln L0))] h0 (QCB Z ba bk kn L0 h0 n0) := by
  refine og_start (plainFor_of_name pn_java_util_Arrays) fun p e s m below meth c s₁ Bd hx hby hml hZ hown hnm X0 e0 => ?_
  have y := @hb _ _ hby
  have w := @wd _ _ hw
  refine og (fun t k => castTop (ef16 m ba (0 : Int32) (own_ln L0)) k) ?_
  refine og2 X0 hx (fun j _ k => o_iloadN j (y d34_0) rfl <| o_iloadN j (y d34_1) rfl <| k) ?_
  refine cS [(.int 0), (.int (own_ln L0))] [] 0 X0 hx hZ hown (w 184 rfl) (w 185 rfl) (w 179 rfl) (w 186 rfl) (rmCL l Z a0 hw [] (0 : Int32) (own_ln L0) h0 n0 Z0 (own_ln0 (by omega))) e0 hml pd_oIIcV (y d34_2) (fun v1 T1 L1 hQ1 X1 => ?_)
  obtain ⟨rfl, N1a, eh1⟩ := hQ1
  have N1 := Fr.app (Fr.nil n0) N1a
  have e1 : T1.heap = h0 := eh1
  refine og2 X1 hx (fun j _ k => o_iloadN j (y d34_5) rfl <| o_iloadN j (y d34_6) rfl <| o_isub j (y d34_7) <| k) ?_
  rw [(own_sub0 _)]
  refine og2 X1 hx (fun j _ k => o_istoreN j (y d34_8) (l' := #[.val (.ref ba), .val (.int 0), .val (.int (own_ln L0)), .val (.int (own_ln L0)), .unset]) rfl <| o_iloadN j (y d34_9) rfl <| k) ?_
  refine nP .byte 20 "[B" X1 hx hZ (w 19 rfl) e1 (y d34_10) (fun T2 h2 a2 kc2 g2 X2 e2 E2 A2 D2 => ?_) (hn := (own_ln0 (by omega))) (hcap := (by rw [own_ln_nat (by omega)]; omega))
  have Z2 : n0 ≤ h2.size := Nat.le_trans Z0 E2.1
  have G2 : n0 ≤ a2 := Nat.le_trans Z0 (Nat.le_of_eq g2.symm)
  have GK2 : h0.size ≤ a2 := Nat.le_trans (Keep.refl h0 []).1 (Nat.le_of_eq g2.symm)
  have P2 := (Keep.refl h0 []).ext E2
  have A3 := (pr0.ext E2)
  have A4 : Arv Z h2 a2 kc2 .byte (own_ln L0) (List.replicate L0.length (.int 0)) (.int 0) := (A2.pad (pad_rep [] _ L0.length))
  refine og2 X2 hx (fun j _ k => o_astore j (y d34_12) rfl (l' := #[.val (.ref ba), .val (.int 0), .val (.int (own_ln L0)), .val (.int (own_ln L0)), .val (.ref a2)]) rfl <| o_aloadN j (y d34_14) rfl rfl <| o_iloadN j (y d34_15) rfl <| o_aload j (y d34_16) rfl rfl <| o_iconstV j 0 (y d34_18) rfl <| o_aloadN j (y d34_19) rfl rfl <| o_alen X2 hx hZ e2 A3 (y d34_20) <| o_iloadN j (y d34_21) rfl <| o_isub j (y d34_22) <| k) ?_
  rw [(own_sub0 _)]
  refine og2 X2 hx (fun j _ k => o_iloadN j (y d34_23) rfl <| k) ?_
  refine cS [(.int (own_nn kn)), (.int (own_ln L0))] [(.int 0), (.ref a2), (.int 0), (.ref ba)] 4 X2 hx hZ hown (w 187 rfl) (w 188 rfl) (w 189 rfl) (w 190 rfl) (rmMI l Z a0 hw [] (own_nn kn) (own_ln L0) h2 n0 Z2 (own_ln_nn (by omega) (by omega))) e2 hml pd_oIIcI (y d34_24) (fun v5 T5 L5 hQ5 X5 => ?_)
  obtain ⟨rfl, N5a, eh5⟩ := hQ5
  have N5 := Fr.app N1 N5a
  have e5 : T5.heap = h2 := eh5
  obtain ⟨T6, h6, L6, X6, e6, N6, K6, B6, st6⟩ := cpA X5 hx hZ hown (w 191 rfl) (w 130 rfl) (w 128 rfl) (w 129 rfl) e5 A3 A4 (us := (own_vb L0)) (Or.inl ⟨rfl, rfl⟩) (by decide) (by decide) (own_ln0 (by omega)) (by rw [own_ln_nat (by omega), own_nn_nat (by omega), show (0 : Int32).toNatClampNeg = 0 from rfl]; omega) (by rw [show (0 : Int32).toNatClampNeg = 0 from rfl]; omega) (own_copy (by omega)) (by rw [List.length_replicate, own_ln_nat (by omega), show (0 : Int32).toNatClampNeg = 0 from rfl]; omega) N5 G2 (g := (mkF m 27 #[.val (.ref ba), .val (.int 0), .val (.int (own_ln L0)), .val (.int (own_ln L0)), .val (.ref a2)] [(.int (own_ln L0)), (.int 0), (.ref a2), (.int 0), (.ref ba)])) rfl (by rw [hml]; rfl) (rest := []) rfl (y d34_27) (by decide) (W := 0) (by show 2 * 0 + _ ≤ _; exact Nat.le_of_eq rfl) (by decide)
  have P6 : Keep h0 h6 [] := (P2.trans K6 (allS (Or.inr GK2) all0))
  have B6v : Arv Z h6 a2 kc2 .byte (own_ln L0) (own_vb L0) (.int 0) := (by have q := B6; rw [show (0 : Int32).toNatClampNeg = 0 from rfl, Nat.zero_add, own_ln_nat (L := L0) (by omega), List.drop_of_length_le (by simp), List.append_nil] at q; exact q)
  refine og st6 ?_
  change OG _ _ _ _ (T6.setTop (mkF m 30 #[.val (.ref ba), .val (.int 0), .val (.int (own_ln L0)), .val (.int (own_ln L0)), .val (.ref a2)] []))
  refine og2 X6 hx (fun j _ k => o_aload j (y d34_30) rfl rfl <| k) ?_
  exact rA X6 hx Bd rfl rfl rfl (y d34_32) e6 ⟨a2, _, rfl, N6, P6, B6v, GK2⟩

abbrev R_2_1_20_34 : Room := ({ frames := 2, cells := 1, slots := 20, locals := 34 } : Room)
abbrev k26 := jdk_65_method_132_code
theorem d33_0 : decode k26 0 = .ok (.iload_n 1, 1) := by decide +kernel
theorem d33_1 : decode k26 1 = .ok (.ifCond .ne 9, 3) := by decide +kernel
theorem d33_4 : decode k26 4 = .ok (.iload_n 2, 1) := by decide +kernel
theorem d33_5 : decode k26 5 = .ok (.aload_n 0, 1) := by decide +kernel
theorem d33_6 : decode k26 6 = .ok (.arraylength, 1) := by decide +kernel
theorem d33_7 : decode k26 7 = .ok (.if_icmp .eq 10, 3) := by decide +kernel
theorem d33_10 : decode k26 10 = .ok (.aload_n 0, 1) := by decide +kernel
theorem d33_11 : decode k26 11 = .ok (.iload_n 1, 1) := by decide +kernel
theorem d33_12 : decode k26 12 = .ok (.iload_n 2, 1) := by decide +kernel
theorem d33_13 : decode k26 13 = .ok (.invokestatic 339, 3) := by decide +kernel
theorem d33_16 : decode k26 16 = .ok (.areturn, 1) := by decide +kernel
theorem d33_17 : decode k26 17 = .ok (.aload_n 0, 1) := by decide +kernel
theorem d33_18 : decode k26 18 = .ok (.invokevirtual 310, 3) := by decide +kernel
theorem d33_21 : decode k26 21 = .ok (.checkcast 311, 3) := by decide +kernel
theorem d33_24 : decode k26 24 = .ok (.areturn, 1) := by decide +kernel
theorem pd_oaBIIcaB : parseMethodDescriptor "([BII)[B" = some ⟨[(.array .byte), .int, .int], some (.array .byte)⟩ := by decide +kernel
theorem ef17 (m : MethodId) (x0 : Addr) (x1 : Int32) (x2 : Int32) : entryFrame m #[(.ref x0), (.int x1), (.int x2)] 3 = (mkF m 0 #[.val (.ref x0), .val (.int x1), .val (.int x2)] []) := by first | (simp [entryFrame, mkF, argsToLocals, Value.category]; done) | rfl
def QCR (Z : State) (ba : Addr) (bk : ClassId) (kn : Nat) (L0 : List Int32) (h0 : Heap) (n0 : Nat) (v : Option Value) (h : Heap) (L : List Loc) : Prop := ∃ r : Addr, ∃ rk : ClassId, v = some (.ref r) ∧ Fr n0 L ∧ Keep h0 h [] ∧ Arv Z h r rk .byte (own_ln L0) (own_vb L0) (.int 0) ∧ h0.size ≤ r
theorem rmCR (l : Launch) (Z : State) (a0 : Array Value) (hw : HW a0 Z) (ws : List Jvm.Cond) (ba : Addr) (bk : ClassId) (kn : Nat) (L0 : List Int32) (h0 : Heap) (n0 : Nat) (Z0 : n0 ≤ h0.size) (pr0 : Arv Z h0 ba bk .byte (own_nn kn) (own_pb kn L0) (.int 0)) (pr1 : Exa Z h0 ba "[B") (H2 : L0.length ≤ kn) (H3 : kn < 20) :
    MF l Z ⟨"java/util/Arrays", "copyOfRange", "([BII)[B"⟩ jdk_65_method_132_code 3 (some (.array .byte)) ws R_2_1_20_34 #[(.ref ba), (.int 0), (.int (own_ln L0))] h0 (QCR Z ba bk kn L0 h0 n0) := by
  refine og_start (plainFor_of_name pn_java_util_Arrays) fun p e s m below meth c s₁ Bd hx hby hml hZ hown hnm X0 e0 => ?_
  have y := @hb _ _ hby
  have w := @wd _ _ hw
  refine og (fun t k => castTop (ef17 m ba (0 : Int32) (own_ln L0)) k) ?_
  refine og2 X0 hx (fun j _ k => o_iloadN j (y d33_0) rfl <| o_ifNo j (y d33_1) (by decide) <| o_iloadN j (y d33_4) rfl <| o_aloadN j (y d33_5) rfl rfl <| o_alen X0 hx hZ e0 pr0 (y d33_6) <| k) ?_
  by_cases C1 : (own_ln L0) = (own_nn kn)
  · refine og2 X0 hx (fun j _ k => o_icmpYes j (pc' := 17) (y d33_7) (XT.ii_eq_t C1) <| o_aloadN j (y d33_17) rfl rfl <| k) ?_
    obtain ⟨T2, h2, X2, e2, E2, A2, D2, st2⟩ := cloneH X0 hx hZ hown (w 224 rfl) (w 225 rfl) (w 229 rfl) (w 227 rfl) (w 228 rfl) (w 230 rfl) e0 (Arv.arh pr0) pr1 (g := (mkF m 18 #[.val (.ref ba), .val (.int 0), .val (.int (own_ln L0))] [(.ref ba)])) rfl (by rw [hml]; rfl) rfl (y d33_18) (by decide) (W := 0) (by show 2 * 0 + _ ≤ _; exact Nat.le_of_eq rfl) (by decide) (cap := 20) (by rw [own_nn_nat (by omega)]; omega) (by decide) (by decide)
    obtain ⟨a2, g2⟩ : ∃ z, z = h0.size := ⟨_, rfl⟩
    rw [← g2] at A2 D2 st2
    have GK2 : h0.size ≤ a2 := Nat.le_trans (Keep.refl h0 []).1 (Nat.le_of_eq g2.symm)
    have P2 := (Keep.refl h0 []).ext E2
    have A2v : Arv Z h2 a2 bk .byte (own_nn kn) (own_pb kn L0) (.int 0) := A2
    refine og st2 ?_
    change OG _ _ _ _ (T2.setTop (mkF m 21 #[.val (.ref ba), .val (.int 0), .val (.int (own_ln L0))] [(.ref a2)]))
    refine g_cast (C := "") X2 hx hZ hown (w 231 rfl) e2 (Ins.self D2) (y d33_21) (fun T5 X5 e5 => ?_)
    exact rA X5 hx Bd rfl rfl rfl (y d33_24) e5 ⟨a2, bk, rfl, (Fr.nil n0), P2, (by have q := A2v; rw [← C1, own_pb_full (own_lneq C1 (by omega) (by omega))] at q; exact q), GK2⟩
  · refine og2 X0 hx (fun j _ k => o_icmpNo j (y d33_7) (XT.ii_eq_f C1) <| o_aloadN j (y d33_10) rfl rfl <| o_iloadN j (y d33_11) rfl <| o_iloadN j (y d33_12) rfl <| k) ?_
    refine cS [(.ref ba), (.int 0), (.int (own_ln L0))] [] 0 X0 hx hZ hown (w 181 rfl) (w 182 rfl) (w 179 rfl) (w 183 rfl) (rmCB l Z a0 hw [] ba bk kn L0 h0 n0 Z0 pr0 (own_lnne C1 H2) H3) e0 hml pd_oaBIIcaB (y d33_13) (fun v6 T6 L6 hQ6 X6 => ?_)
    obtain ⟨r_6, rk_6, rfl, N6a, K6, Q6_0, Q6_1⟩ := hQ6
    have N6 := Fr.app (Fr.nil n0) N6a
    have e6 : T6.heap = T6.heap := rfl
    have P6 : Keep h0 T6.heap [] := ((Keep.refl h0 []).trans K6 all0)
    have GK6_r : h0.size ≤ r_6 := Nat.le_trans (Keep.refl h0 []).1 Q6_1
    have ne6_ba_r : ba ≠ r_6 := Nat.ne_of_lt (Nat.lt_of_lt_of_le pr0.lt Q6_1)
    exact rA X6 hx Bd rfl rfl rfl (y d33_16) e6 ⟨r_6, rk_6, rfl, N6, P6, Q6_0, GK6_r⟩

abbrev R_3_1_20_49 : Room := ({ frames := 3, cells := 1, slots := 20, locals := 49 } : Room)
abbrev k9 := jdk_42_method_150_code
theorem d28_0 : decode k9 0 = .ok (.aload_n 0, 1) := by decide +kernel
theorem d28_1 : decode k9 1 = .ok (.invokespecial 1, 3) := by decide +kernel
theorem d28_4 : decode k9 4 = .ok (.aload_n 1, 1) := by decide +kernel
theorem d28_5 : decode k9 5 = .ok (.invokevirtual 552, 3) := by decide +kernel
theorem d28_8 : decode k9 8 = .ok (.astore_n 3, 1) := by decide +kernel
theorem d28_9 : decode k9 9 = .ok (.aload_n 1, 1) := by decide +kernel
theorem d28_10 : decode k9 10 = .ok (.invokevirtual 549, 3) := by decide +kernel
theorem d28_13 : decode k9 13 = .ok (.istore 4, 2) := by decide +kernel
theorem d28_15 : decode k9 15 = .ok (.aload_n 1, 1) := by decide +kernel
theorem d28_16 : decode k9 16 = .ok (.invokevirtual 1047, 3) := by decide +kernel
theorem d28_19 : decode k9 19 = .ok (.ifCond .eq 22, 3) := by decide +kernel
theorem d28_22 : decode k9 22 = .ok (.aload_n 0, 1) := by decide +kernel
theorem d28_23 : decode k9 23 = .ok (.iconst 0, 1) := by decide +kernel
theorem d28_24 : decode k9 24 = .ok (.putfield 15, 3) := by decide +kernel
theorem d28_27 : decode k9 27 = .ok (.aload_n 0, 1) := by decide +kernel
theorem d28_28 : decode k9 28 = .ok (.aload_n 3, 1) := by decide +kernel
theorem d28_29 : decode k9 29 = .ok (.iconst 0, 1) := by decide +kernel
theorem d28_30 : decode k9 30 = .ok (.iload 4, 2) := by decide +kernel
theorem d28_32 : decode k9 32 = .ok (.invokestatic 54, 3) := by decide +kernel
theorem d28_35 : decode k9 35 = .ok (.putfield 9, 3) := by decide +kernel
theorem d28_38 : decode k9 38 = .ok (.goto 59, 3) := by decide +kernel
theorem d28_97 : decode k9 97 = .ok (.return_, 1) := by decide +kernel
theorem pd_ocaB : parseMethodDescriptor "()[B" = some ⟨[], some (.array .byte)⟩ := by decide +kernel
theorem ef18 (m : MethodId) (x0 : Addr) (x1 : Addr) : entryFrame m #[(.ref x0), (.ref x1), .null] 5 = (mkF m 0 #[.val (.ref x0), .val (.ref x1), .val .null, .unset, .unset] []) := by first | (simp [entryFrame, mkF, argsToLocals, Value.category]; done) | rfl
def QSZ (Z : State) (cs : Int32) (fm : Value) (lo : Addr) (bl : Addr) (la : Addr) (lb : Addr) (li : Addr) (sa : Addr) (sb : Addr) (va : Addr) (vk : ClassId) (kn : Nat) (L0 : List Int32) (h0 : Heap) (n0 : Nat) (v : Option Value) (h : Heap) (L : List Loc) : Prop := ∃ b : Addr, ∃ bk : ClassId, v = none ∧ Fr n0 L ∧ Keep h0 h [sa] ∧ Fld Z h sa "java/lang/String" "value" "[B" (.ref b) ∧ Fld Z h sa "java/lang/String" "coder" "B" (.int 0) ∧ Exa Z h sa "java/lang/String" ∧ Arv Z h b bk .byte (own_ln (L0)) (own_vb (L0)) (.int 0)
theorem rmSZ (l : Launch) (Z : State) (a0 : Array Value) (hw : HW a0 Z) (ws : List Jvm.Cond) (cs : Int32) (fm : Value) (lo : Addr) (bl : Addr) (la : Addr) (lb : Addr) (li : Addr) (sa : Addr) (sb : Addr) (va : Addr) (vk : ClassId) (kn : Nat) (L0 : List Int32) (h0 : Heap) (n0 : Nat) (Z0 : n0 ≤ h0.size) (H0 : OSt Z cs fm lo bl la lb li) (pr1 : Old Z n0 h0) (pr2 : Fld Z h0 sa "java/lang/String" "value" "[B" .null) (pr3 : Fld Z h0 sa "java/lang/String" "coder" "B" (.int 0)) (pr4 : Exa Z h0 sa "java/lang/String") (H5 : n0 ≤ sa) (pr6 : Fld Z h0 sb "java/lang/AbstractStringBuilder" "value" "[B" (.ref va)) (pr7 : Fld Z h0 sb "java/lang/AbstractStringBuilder" "coder" "B" (.int 0)) (pr8 : Fld Z h0 sb "java/lang/AbstractStringBuilder" "count" "I" (.int (own_ln L0))) (pr9 : Exa Z h0 sb "java/lang/StringBuilder") (pr10 : Arv Z h0 va vk .byte (own_nn kn) (own_pb kn L0) (.int 0)) (pr11 : Exa Z h0 va "[B") (H12 : L0.length ≤ kn) (H13 : kn < 20) :
    MF l Z ⟨"java/lang/String", "<init>", "(Ljava/lang/AbstractStringBuilder;Ljava/lang/Void;)V"⟩ jdk_42_method_150_code 5 none ws R_3_1_20_49 #[(.ref sa), (.ref sb), .null] h0 (QSZ Z cs fm lo bl la lb li sa sb va vk kn L0 h0 n0) := by
  refine og_start (plainFor_of_name pn_java_lang_String) fun p e s m below meth c s₁ Bd hx hby hml hZ hown hnm X0 e0 => ?_
  have y := @hb _ _ hby
  have w := @wd _ _ hw
  refine og (fun t k => castTop (ef18 m sa sb) k) ?_
  refine og2 X0 hx (fun j _ k => o_aloadN j (y d28_0) rfl rfl <| k) ?_
  refine cO 0 X0 hx hZ hown (w 11 rfl) (w 12 rfl) (w 13 rfl) e0 hml (y d28_1) (fun T1 X1 e1 => ?_)
  refine og2 X1 hx (fun j _ k => o_aloadN j (y d28_4) rfl rfl <| k) ?_
  refine cV sb [] [] 0 X1 hx hZ hown (w 159 rfl) (w 160 rfl) (w 162 rfl) (w 161 rfl) (w 85 rfl) (w 163 rfl) (rmGV l Z a0 hw [] sb va h0 n0 Z0 pr6) e1 pr9 hml pd_ocaB (y d28_5) (fun v2 T2 L2 hQ2 X2 => ?_)
  obtain ⟨rfl, N2a, eh2⟩ := hQ2
  have N2 := Fr.app (Fr.nil n0) N2a
  have e2 : T2.heap = h0 := eh2
  refine og2 X2 hx (fun j _ k => o_astoreN j (y d28_8) rfl (l' := #[.val (.ref sa), .val (.ref sb), .val .null, .val (.ref va), .unset]) rfl <| o_aloadN j (y d28_9) rfl rfl <| k) ?_
  refine cVz sb [] [] 0 X2 hx hZ hown (w 164 rfl) (w 165 rfl) (own_nf (args := #[]) (mvT hZ (w 109 rfl)) rfl) (w 167 rfl) (w 168 rfl) (w 66 rfl) (w 169 rfl) (rmSN l Z a0 hw [] sb (own_ln L0) h0 n0 Z0 pr8 pr9) e2 pr9 hml pd_ocI (y d28_10) (fun v3 T3 L3 hQ3 X3 => ?_)
  obtain ⟨rfl, N3a, eh3⟩ := hQ3
  have N3 := Fr.app N2 N3a
  have e3 : T3.heap = h0 := eh3
  refine og2 X3 hx (fun j _ k => o_istore j (y d28_13) (l' := #[.val (.ref sa), .val (.ref sb), .val .null, .val (.ref va), .val (.int (own_ln L0))]) rfl <| o_aloadN j (y d28_15) rfl rfl <| k) ?_
  refine cV sb [] [] 0 X3 hx hZ hown (w 172 rfl) (w 173 rfl) (w 175 rfl) (w 174 rfl) (w 85 rfl) (w 176 rfl) (rmAL l Z a0 hw [] cs fm lo bl la lb li sb h0 n0 Z0 H0 pr1 pr7) e3 pr9 hml pd_ocZ (y d28_16) (fun v4 T4 L4 hQ4 X4 => ?_)
  obtain ⟨rfl, N4a, eh4⟩ := hQ4
  have N4 := Fr.app N3 N4a
  have e4 : T4.heap = h0 := eh4
  refine og2 X4 hx (fun j _ k => o_ifNo j (y d28_19) (by decide) <| o_aloadN j (y d28_22) rfl rfl <| o_iconstV j 0 (y d28_23) rfl <| k) ?_
  refine pF .byte X4 hx hZ hown (w 26 rfl) e4 pr3 pr4 (Or.inr ⟨(w 27 rfl), rfl, hnm⟩) (w 2 rfl) (y d28_24) (fun T5 h5 X5 e5 W5 => ?_)
  have N5 := Fr.snoc X5 N4 H5
  have P5 := (Keep.refl h0 [sa]).wr W5 (Or.inl (List.mem_of_getElem? (i := 0) rfl))
  have Z5 : n0 ≤ h5.size := (by rw [W5.size]; exact Z0)
  have E7 := (Exa.wr W5 pr4)
  have F8 := (Fld.other W5 pr6 (Or.inl (own_ene pr9 pr4 (by decide))))
  have A12 := (pr10.other W5 (Ne.symm (Exa.neArv pr4 pr10 (w 2 rfl))))
  have E13 := (Exa.wr W5 pr11)
  have F14 := (Fld.other W5 pr2 (Or.inr (slot_ne (C := "java/lang/String") (Or.inr (w 29 rfl)) (Or.inr (w 27 rfl)) (by decide) (t := (.array .byte)) (t' := .byte) (by decide) (by decide))))
  have F15 := (Fld.same W5 pr3)
  refine og2 X5 hx (fun j _ k => o_aloadN j (y d28_27) rfl rfl <| o_aloadN j (y d28_28) rfl rfl <| o_iconstV j 0 (y d28_29) rfl <| o_iload j (y d28_30) rfl <| k) ?_
  refine cS [(.ref va), (.int 0), (.int (own_ln L0))] [(.ref sa)] 1 X5 hx hZ hown (w 177 rfl) (w 178 rfl) (w 179 rfl) (w 180 rfl) (rmCR l Z a0 hw [] va vk kn L0 h5 n0 Z5 A12 E13 H12 H13) e5 hml pd_oaBIIcaB (y d28_32) (fun v16 T16 L16 hQ16 X16 => ?_)
  obtain ⟨r_16, rk_16, rfl, N16a, K16, Q16_0, Q16_1⟩ := hQ16
  have N16 := Fr.app N5 N16a
  have e16 : T16.heap = T16.heap := rfl
  have P16 : Keep h0 T16.heap [sa] := (P5.trans K16 all0)
  have E18 := (E7.keep K16)
  have F25 := (F14.keep K16 nin0)
  have F26 := (F15.keep K16 nin0)
  have ne16_sa_r : sa ≠ r_16 := Nat.ne_of_lt (Nat.lt_of_lt_of_le E7.lt Q16_1)
  have ne16_sb_r : sb ≠ r_16 := Nat.ne_of_lt (Nat.lt_of_lt_of_le F8.lt Q16_1)
  have ne16_va_r : va ≠ r_16 := Nat.ne_of_lt (Nat.lt_of_lt_of_le A12.lt Q16_1)
  refine pF (.array .byte) X16 hx hZ hown (w 28 rfl) e16 F25 E18 (Or.inr ⟨(w 29 rfl), rfl, hnm⟩) (w 2 rfl) (y d28_35) (fun T27 h27 X27 e27 W27 => ?_)
  have N27 := Fr.snoc X27 N16 H5
  have P27 := P16.wr W27 (Or.inl (List.mem_of_getElem? (i := 0) rfl))
  have E29 := (Exa.wr W27 E18)
  have A36 := (Q16_0.other W27 (Ne.symm ne16_sa_r))
  have F37 := (Fld.same W27 F25)
  have F38 := (Fld.other W27 F26 (Or.inr (slot_ne (C := "java/lang/String") (Or.inr (w 27 rfl)) (Or.inr (w 29 rfl)) (by decide) (t := .byte) (t' := (.array .byte)) (by decide) (by decide))))
  refine og2 X27 hx (fun j _ k => o_goto j (pc' := 97) (y d28_38) <| k) ?_
  exact r0 X27 hx Bd (y d28_97) e27 ⟨r_16, rk_16, rfl, N27, P27, F37, F38, E29, A36⟩

abbrev R_4_1_20_65 : Room := ({ frames := 4, cells := 1, slots := 20, locals := 65 } : Room)
abbrev k15 := jdk_42_method_53_code
theorem d27_0 : decode k15 0 = .ok (.aload_n 0, 1) := by decide +kernel
theorem d27_1 : decode k15 1 = .ok (.aload_n 1, 1) := by decide +kernel
theorem d27_2 : decode k15 2 = .ok (.aconst_null, 1) := by decide +kernel
theorem d27_3 : decode k15 3 = .ok (.invokespecial 489, 3) := by decide +kernel
theorem d27_6 : decode k15 6 = .ok (.return_, 1) := by decide +kernel
theorem pd_oLjava_lang_AbstractStringBuildersLjava_lang_VoidscV : parseMethodDescriptor "(Ljava/lang/AbstractStringBuilder;Ljava/lang/Void;)V" = some ⟨[(.object "java/lang/AbstractStringBuilder"), (.object "java/lang/Void")], none⟩ := by decide +kernel
def QSY (Z : State) (cs : Int32) (fm : Value) (lo : Addr) (bl : Addr) (la : Addr) (lb : Addr) (li : Addr) (sa : Addr) (sb : Addr) (va : Addr) (vk : ClassId) (kn : Nat) (L0 : List Int32) (h0 : Heap) (n0 : Nat) (v : Option Value) (h : Heap) (L : List Loc) : Prop := ∃ b : Addr, ∃ bk : ClassId, v = none ∧ Fr n0 L ∧ Keep h0 h [sa] ∧ Fld Z h sa "java/lang/String" "value" "[B" (.ref b) ∧ Fld Z h sa "java/lang/String" "coder" "B" (.int 0) ∧ Exa Z h sa "java/lang/String" ∧ Arv Z h b bk .byte (own_ln (L0)) (own_vb (L0)) (.int 0)
theorem rmSY (l : Launch) (Z : State) (a0 : Array Value) (hw : HW a0 Z) (ws : List Jvm.Cond) (cs : Int32) (fm : Value) (lo : Addr) (bl : Addr) (la : Addr) (lb : Addr) (li : Addr) (sa : Addr) (sb : Addr) (va : Addr) (vk : ClassId) (kn : Nat) (L0 : List Int32) (h0 : Heap) (n0 : Nat) (Z0 : n0 ≤ h0.size) (H0 : OSt Z cs fm lo bl la lb li) (pr1 : Old Z n0 h0) (pr2 : Fld Z h0 sa "java/lang/String" "value" "[B" .null) (pr3 : Fld Z h0 sa "java/lang/String" "coder" "B" (.int 0)) (pr4 : Exa Z h0 sa "java/lang/String") (H5 : n0 ≤ sa) (pr6 : Fld Z h0 sb "java/lang/AbstractStringBuilder" "value" "[B" (.ref va)) (pr7 : Fld Z h0 sb "java/lang/AbstractStringBuilder" "coder" "B" (.int 0)) (pr8 : Fld Z h0 sb "java/lang/AbstractStringBuilder" "count" "I" (.int (own_ln L0))) (pr9 : Exa Z h0 sb "java/lang/StringBuilder") (pr10 : Arv Z h0 va vk .byte (own_nn kn) (own_pb kn L0) (.int 0)) (pr11 : Exa Z h0 va "[B") (H12 : L0.length ≤ kn) (H13 : kn < 20) :
    MF l Z ⟨"java/lang/String", "<init>", "(Ljava/lang/StringBuilder;)V"⟩ jdk_42_method_53_code 2 none ws R_4_1_20_65 #[(.ref sa), (.ref sb)] h0 (QSY Z cs fm lo bl la lb li sa sb va vk kn L0 h0 n0) := by
  refine og_start (plainFor_of_name pn_java_lang_String) fun p e s m below meth c s₁ Bd hx hby hml hZ hown hnm X0 e0 => ?_
  have y := @hb _ _ hby
  have w := @wd _ _ hw
  refine og (fun t k => castTop (ef10 m sa sb) k) ?_
  refine og2 X0 hx (fun j _ k => o_aloadN j (y d27_0) rfl rfl <| o_aloadN j (y d27_1) rfl rfl <| o_aconstNull j (y d27_2) <| k) ?_
  refine cI sa [(.ref sb), .null] [] 0 X0 hx hZ hown (w 156 rfl) (w 157 rfl) (w 3 rfl) (w 158 rfl) (rmSZ l Z a0 hw [] cs fm lo bl la lb li sa sb va vk kn L0 h0 n0 Z0 H0 pr1 pr2 pr3 pr4 H5 pr6 pr7 pr8 pr9 pr10 pr11 H12 H13) e0 hml pd_oLjava_lang_AbstractStringBuildersLjava_lang_VoidscV (y d27_3) (fun v1 T1 L1 hQ1 X1 => ?_)
  obtain ⟨b_1, bk_1, rfl, N1a, K1, Q1_0, Q1_1, Q1_2, Q1_3⟩ := hQ1
  have N1 := Fr.app (Fr.nil n0) N1a
  have e1 : T1.heap = T1.heap := rfl
  have P1 : Keep h0 T1.heap [sa] := ((Keep.refl h0 [sa]).trans K1 (allS (Or.inl (List.mem_of_getElem? (i := 0) rfl)) all0))
  exact r0 X1 hx Bd (y d27_6) e1 ⟨b_1, bk_1, rfl, N1, P1, Q1_0, Q1_1, Q1_2, Q1_3⟩

abbrev R_5_2_24_79 : Room := ({ frames := 5, cells := 2, slots := 24, locals := 79 } : Room)
abbrev k30 := jdk_67_method_42_code
theorem d26_0 : decode k30 0 = .ok (.new 18, 3) := by decide +kernel
theorem d26_3 : decode k30 3 = .ok (.dup, 1) := by decide +kernel
theorem d26_4 : decode k30 4 = .ok (.aload_n 0, 1) := by decide +kernel
theorem d26_5 : decode k30 5 = .ok (.invokespecial 137, 3) := by decide +kernel
theorem d26_8 : decode k30 8 = .ok (.areturn, 1) := by decide +kernel
theorem pd_oLjava_lang_StringBuilderscV : parseMethodDescriptor "(Ljava/lang/StringBuilder;)V" = some ⟨[(.object "java/lang/StringBuilder")], none⟩ := by decide +kernel
def QTS (Z : State) (cs : Int32) (fm : Value) (lo : Addr) (bl : Addr) (la : Addr) (lb : Addr) (li : Addr) (sb : Addr) (va : Addr) (vk : ClassId) (kn : Nat) (L0 : List Int32) (h0 : Heap) (n0 : Nat) (v : Option Value) (h : Heap) (L : List Loc) : Prop := ∃ r : Addr, ∃ b : Addr, ∃ bk : ClassId, v = some (.ref r) ∧ Fr n0 L ∧ Keep h0 h [] ∧ Fld Z h r "java/lang/String" "value" "[B" (.ref b) ∧ Fld Z h r "java/lang/String" "coder" "B" (.int 0) ∧ Exa Z h r "java/lang/String" ∧ Arv Z h b bk .byte (own_ln (L0)) (own_vb (L0)) (.int 0) ∧ h0.size ≤ r
theorem rmTS (l : Launch) (Z : State) (a0 : Array Value) (hw : HW a0 Z) (ws : List Jvm.Cond) (cs : Int32) (fm : Value) (lo : Addr) (bl : Addr) (la : Addr) (lb : Addr) (li : Addr) (sb : Addr) (va : Addr) (vk : ClassId) (kn : Nat) (L0 : List Int32) (h0 : Heap) (n0 : Nat) (Z0 : n0 ≤ h0.size) (H0 : OSt Z cs fm lo bl la lb li) (pr1 : Old Z n0 h0) (pr2 : Fld Z h0 sb "java/lang/AbstractStringBuilder" "value" "[B" (.ref va)) (pr3 : Fld Z h0 sb "java/lang/AbstractStringBuilder" "coder" "B" (.int 0)) (pr4 : Fld Z h0 sb "java/lang/AbstractStringBuilder" "count" "I" (.int (own_ln L0))) (pr5 : Exa Z h0 sb "java/lang/StringBuilder") (pr6 : Arv Z h0 va vk .byte (own_nn kn) (own_pb kn L0) (.int 0)) (pr7 : Exa Z h0 va "[B") (H8 : L0.length ≤ kn) (H9 : kn < 20) :
    MF l Z ⟨"java/lang/StringBuilder", "toString", "()Ljava/lang/String;"⟩ jdk_67_method_42_code 1 (some (.object "java/lang/String")) ws R_5_2_24_79 #[(.ref sb)] h0 (QTS Z cs fm lo bl la lb li sb va vk kn L0 h0 n0) := by
  refine og_start (plainFor_of_name pn_java_lang_StringBuilder) fun p e s m below meth c s₁ Bd hx hby hml hZ hown hnm X0 e0 => ?_
  have y := @hb _ _ hby
  have w := @wd _ _ hw
  refine og (fun t k => castTop (ef2 m sb) k) ?_
  refine nO X0 hx hZ hown (w 152 rfl) (w 2 rfl) (w 3 rfl) e0 (y d26_0) (fun T1 h1 a1 g1 X1 e1 E1 A1 D1 => ?_)
  have Z1 : n0 ≤ h1.size := Nat.le_trans Z0 E1.1
  have G1 : n0 ≤ a1 := Nat.le_trans Z0 (Nat.le_of_eq g1.symm)
  have GK1 : h0.size ≤ a1 := Nat.le_trans (Keep.refl h0 []).1 (Nat.le_of_eq g1.symm)
  have P1 := (Keep.refl h0 []).ext E1
  have O2 := (pr1.ext E1)
  have F3 := (Fld.ext E1 pr2)
  have F4 := (Fld.ext E1 pr3)
  have F5 := (Fld.ext E1 pr4)
  have E6 := (Exa.ext E1 pr5)
  have A7 := (pr6.ext E1)
  have E8 := (Exa.ext E1 pr7)
  have F9 : Fld Z h1 a1 "java/lang/String" "coder" "B" (.int 0) := (D1 (Or.inr (w 27 rfl)) (ty := .byte) (by decide))
  have F10 : Fld Z h1 a1 "java/lang/String" "value" "[B" .null := (D1 (Or.inr (w 29 rfl)) (ty := (.array .byte)) (by decide))
  refine og2 X1 hx (fun j _ k => o_dup j (y d26_3) rfl <| o_aloadN j (y d26_4) rfl rfl <| k) ?_
  refine cI a1 [(.ref sb)] [(.ref a1)] 1 X1 hx hZ hown (w 153 rfl) (w 154 rfl) (w 3 rfl) (w 155 rfl) (rmSY l Z a0 hw [] cs fm lo bl la lb li a1 sb va vk kn L0 h1 n0 Z1 H0 O2 F10 F9 A1 G1 F3 F4 F5 E6 A7 E8 H8 H9) e1 hml pd_oLjava_lang_StringBuilderscV (y d26_5) (fun v11 T11 L11 hQ11 X11 => ?_)
  obtain ⟨b_11, bk_11, rfl, N11a, K11, Q11_0, Q11_1, Q11_2, Q11_3⟩ := hQ11
  have N11 := Fr.app (Fr.nil n0) N11a
  have e11 : T11.heap = T11.heap := rfl
  have P11 : Keep h0 T11.heap [] := (P1.trans K11 (allS (Or.inr GK1) all0))
  exact rA X11 hx Bd rfl rfl rfl (y d26_8) e11 ⟨a1, b_11, bk_11, rfl, N11, P11, Q11_0, Q11_1, Q11_2, Q11_3, GK1⟩

theorem own_nxl {L : List Int32} {s d : Int32} {k : Nat} (h : L.length ≤ k) : (own_nx L s d).length ≤ k + 2 := Nat.le_trans (own_nx_len L s d) (by omega)

theorem own_cap (L : List Int32) : (3 : Int32) + own_ln (L.map own_low) = own_nn (L.length + 3) := by
  unfold own_ln own_nn
  rw [List.length_map, Nat.add_comm L.length 3]
  exact (Int32.ofNat_add 3 L.length).symm
theorem own_at_mid {A r L : List Int32} {c : Int32} (h : A ++ c :: r = L) (g : L.length < 1000) : own_at L (own_ln A) = c := by
  have q := own_midlt h
  unfold own_at
  rw [own_ln_nat (by omega), ← h, List.getD_eq_getElem?_getD, List.getElem?_append_right (Nat.le_refl _), Nat.sub_self]
  rfl

abbrev R_6_28_336_91 : Room := ({ frames := 6, cells := 28, slots := 336, locals := 91 } : Room)
abbrev k46 := prog_3_method_2_code
theorem d6_0 : decode k46 0 = .ok (.aload_n 0, 1) := by decide +kernel
theorem d6_1 : decode k46 1 = .ok (.ldc 7, 2) := by decide +kernel
theorem d6_3 : decode k46 3 = .ok (.invokestatic 9, 3) := by decide +kernel
theorem d6_6 : decode k46 6 = .ok (.pop, 1) := by decide +kernel
theorem d6_7 : decode k46 7 = .ok (.aload_n 0, 1) := by decide +kernel
theorem d6_8 : decode k46 8 = .ok (.getstatic 15, 3) := by decide +kernel
theorem d6_11 : decode k46 11 = .ok (.invokevirtual 21, 3) := by decide +kernel
theorem d6_14 : decode k46 14 = .ok (.astore_n 1, 1) := by decide +kernel
theorem d6_15 : decode k46 15 = .ok (.new 27, 3) := by decide +kernel
theorem d6_18 : decode k46 18 = .ok (.dup, 1) := by decide +kernel
theorem d6_19 : decode k46 19 = .ok (.ldc 31, 2) := by decide +kernel
theorem d6_21 : decode k46 21 = .ok (.invokevirtual 33, 3) := by decide +kernel
theorem d6_24 : decode k46 24 = .ok (.aload_n 1, 1) := by decide +kernel
theorem d6_25 : decode k46 25 = .ok (.invokevirtual 33, 3) := by decide +kernel
theorem d6_28 : decode k46 28 = .ok (.iadd, 1) := by decide +kernel
theorem d6_29 : decode k46 29 = .ok (.invokespecial 37, 3) := by decide +kernel
theorem d6_32 : decode k46 32 = .ok (.ldc 31, 2) := by decide +kernel
theorem d6_34 : decode k46 34 = .ok (.invokevirtual 40, 3) := by decide +kernel
theorem d6_37 : decode k46 37 = .ok (.astore_n 2, 1) := by decide +kernel
theorem d6_38 : decode k46 38 = .ok (.iconst 0, 1) := by decide +kernel
theorem d6_39 : decode k46 39 = .ok (.istore_n 3, 1) := by decide +kernel
theorem d6_40 : decode k46 40 = .ok (.iconst 0, 1) := by decide +kernel
theorem d6_41 : decode k46 41 = .ok (.istore 4, 2) := by decide +kernel
theorem d6_43 : decode k46 43 = .ok (.iload 4, 2) := by decide +kernel
theorem d6_45 : decode k46 45 = .ok (.aload_n 1, 1) := by decide +kernel
theorem d6_46 : decode k46 46 = .ok (.invokevirtual 33, 3) := by decide +kernel
theorem d6_49 : decode k46 49 = .ok (.if_icmp .ge 82, 3) := by decide +kernel
theorem d6_52 : decode k46 52 = .ok (.aload_n 1, 1) := by decide +kernel
theorem d6_53 : decode k46 53 = .ok (.iload 4, 2) := by decide +kernel
theorem d6_55 : decode k46 55 = .ok (.invokevirtual 44, 3) := by decide +kernel
theorem d6_58 : decode k46 58 = .ok (.istore 5, 2) := by decide +kernel
theorem d6_60 : decode k46 60 = .ok (.iload 5, 2) := by decide +kernel
theorem d6_62 : decode k46 62 = .ok (.bipush 97, 2) := by decide +kernel
theorem d6_64 : decode k46 64 = .ok (.if_icmp .lt 10, 3) := by decide +kernel
theorem d6_67 : decode k46 67 = .ok (.iload 5, 2) := by decide +kernel
theorem d6_69 : decode k46 69 = .ok (.bipush 122, 2) := by decide +kernel
theorem d6_71 : decode k46 71 = .ok (.if_icmp .le 17, 3) := by decide +kernel
theorem d6_74 : decode k46 74 = .ok (.iload 5, 2) := by decide +kernel
theorem d6_76 : decode k46 76 = .ok (.bipush 48, 2) := by decide +kernel
theorem d6_78 : decode k46 78 = .ok (.if_icmp .lt 45, 3) := by decide +kernel
theorem d6_81 : decode k46 81 = .ok (.iload 5, 2) := by decide +kernel
theorem d6_83 : decode k46 83 = .ok (.bipush 57, 2) := by decide +kernel
theorem d6_85 : decode k46 85 = .ok (.if_icmp .gt 38, 3) := by decide +kernel
theorem d6_88 : decode k46 88 = .ok (.iload_n 3, 1) := by decide +kernel
theorem d6_89 : decode k46 89 = .ok (.ifCond .eq 22, 3) := by decide +kernel
theorem d6_92 : decode k46 92 = .ok (.aload_n 2, 1) := by decide +kernel
theorem d6_93 : decode k46 93 = .ok (.invokevirtual 48, 3) := by decide +kernel
theorem d6_96 : decode k46 96 = .ok (.ldc 31, 2) := by decide +kernel
theorem d6_98 : decode k46 98 = .ok (.invokevirtual 33, 3) := by decide +kernel
theorem d6_101 : decode k46 101 = .ok (.if_icmp .le 10, 3) := by decide +kernel
theorem d6_104 : decode k46 104 = .ok (.aload_n 2, 1) := by decide +kernel
theorem d6_105 : decode k46 105 = .ok (.bipush 95, 2) := by decide +kernel
theorem d6_107 : decode k46 107 = .ok (.invokevirtual 49, 3) := by decide +kernel
theorem d6_110 : decode k46 110 = .ok (.pop, 1) := by decide +kernel
theorem d6_111 : decode k46 111 = .ok (.aload_n 2, 1) := by decide +kernel
theorem d6_112 : decode k46 112 = .ok (.iload 5, 2) := by decide +kernel
theorem d6_114 : decode k46 114 = .ok (.invokevirtual 49, 3) := by decide +kernel
theorem d6_117 : decode k46 117 = .ok (.pop, 1) := by decide +kernel
theorem d6_118 : decode k46 118 = .ok (.iconst 0, 1) := by decide +kernel
theorem d6_119 : decode k46 119 = .ok (.istore_n 3, 1) := by decide +kernel
theorem d6_120 : decode k46 120 = .ok (.goto 5, 3) := by decide +kernel
theorem d6_123 : decode k46 123 = .ok (.iconst 1, 1) := by decide +kernel
theorem d6_124 : decode k46 124 = .ok (.istore_n 3, 1) := by decide +kernel
theorem d6_125 : decode k46 125 = .ok (.iinc 4 1, 3) := by decide +kernel
theorem d6_128 : decode k46 128 = .ok (.goto (-85), 3) := by decide +kernel
theorem d6_131 : decode k46 131 = .ok (.aload_n 2, 1) := by decide +kernel
theorem d6_132 : decode k46 132 = .ok (.invokevirtual 52, 3) := by decide +kernel
theorem d6_135 : decode k46 135 = .ok (.areturn, 1) := by decide +kernel
theorem pd_oLjava_lang_ObjectsLjava_lang_StringscLjava_lang_Objects : parseMethodDescriptor "(Ljava/lang/Object;Ljava/lang/String;)Ljava/lang/Object;" = some ⟨[(.object "java/lang/Object"), (.object "java/lang/String")], some (.object "java/lang/Object")⟩ := by decide +kernel
theorem pd_oLjava_util_LocalescLjava_lang_Strings : parseMethodDescriptor "(Ljava/util/Locale;)Ljava/lang/String;" = some ⟨[(.object "java/util/Locale")], some (.object "java/lang/String")⟩ := by decide +kernel
theorem pd_oLjava_lang_StringscLjava_lang_StringBuilders : parseMethodDescriptor "(Ljava/lang/String;)Ljava/lang/StringBuilder;" = some ⟨[(.object "java/lang/String")], some (.object "java/lang/StringBuilder")⟩ := by decide +kernel
theorem pd_oCcLjava_lang_StringBuilders : parseMethodDescriptor "(C)Ljava/lang/StringBuilder;" = some ⟨[.char], some (.object "java/lang/StringBuilder")⟩ := by decide +kernel
theorem pn_com_example_obieg_obieg_ChoiceId : plainName "com/example/obieg/obieg/ChoiceId" = true := by first | (simp [plainName, overriddenIn]; done) | decide +kernel
theorem ef19 (m : MethodId) (x0 : Addr) : entryFrame m #[(.ref x0)] 6 = (mkF m 0 #[.val (.ref x0), .unset, .unset, .unset, .unset, .unset] []) := by first | (simp [entryFrame, mkF, argsToLocals, Value.category]; done) | rfl
def QOF (Z : State) (cs : Int32) (fm : Value) (lo : Addr) (bl : Addr) (la : Addr) (lb : Addr) (li : Addr) (sa : Addr) (ba : Addr) (bk : ClassId) (L0 : List Int32) (h0 : Heap) (n0 : Nat) (v : Option Value) (h : Heap) (L : List Loc) : Prop := ∃ r : Addr, ∃ rb : Addr, ∃ rbk : ClassId, v = some (.ref r) ∧ Fr n0 L ∧ Keep h0 h [] ∧ Fld Z h r "java/lang/String" "value" "[B" (.ref rb) ∧ Fld Z h r "java/lang/String" "coder" "B" (.int 0) ∧ Exa Z h r "java/lang/String" ∧ Arv Z h rb rbk .byte (own_ln (own_run [(105 : Int32), (102 : Int32), (95 : Int32)] (0 : Int32) (L0.map own_low))) (own_vb (own_run [(105 : Int32), (102 : Int32), (95 : Int32)] (0 : Int32) (L0.map own_low))) (.int 0)
theorem rmOF (l : Launch) (Z : State) (a0 : Array Value) (hw : HW a0 Z) (ws : List Jvm.Cond) (cs : Int32) (fm : Value) (lo : Addr) (bl : Addr) (la : Addr) (lb : Addr) (li : Addr) (sa : Addr) (ba : Addr) (bk : ClassId) (L0 : List Int32) (h0 : Heap) (n0 : Nat) (Z0 : n0 ≤ h0.size) (H0 : OSt Z cs fm lo bl la lb li) (pr1 : Old Z n0 h0) (pr2 : Fld Z h0 sa "java/lang/String" "value" "[B" (.ref ba)) (pr3 : Fld Z h0 sa "java/lang/String" "coder" "B" (.int 0)) (pr4 : Exa Z h0 sa "java/lang/String") (pr5 : Arv Z h0 ba bk .byte (own_ln L0) (own_vb L0) (.int 0)) (H6 : OL L0) (H7 : L0.length ≤ 5) :
    MetFree l (⟨"com/example/obieg/obieg/ChoiceId", "of", "(Ljava/lang/String;)Ljava/lang/String;"⟩ : MethodName) (head1 (Jvm.Cond.code (⟨"com/example/obieg/obieg/ChoiceId", "of", "(Ljava/lang/String;)Ljava/lang/String;"⟩ : MethodName) prog_3_method_2_code 6 (some (.object "java/lang/String")) :: ws) R_6_28_336_91) (fun a U => a = #[(.ref sa)] ∧ Z.Warmed39 U.vm ∧ U.heap = h0 ∧ CHv Z own_EL U.vm h0) (fun _ _ _ _ _ => True) (fun _ U o U' => ∃ v L, o = .returned v ∧ QOF Z cs fm lo bl la lb li sa ba bk L0 h0 n0 v U'.heap L ∧ ReturnedEndW U o U' L R_6_28_336_91.cells R_6_28_336_91.slots) := by
  refine og_startH (plainFor_of_name pn_com_example_obieg_obieg_ChoiceId) fun p e s m below meth c s₁ Bd hx hby hml hZ hown hnm X0 e0 hS hkS hC0 => ?_
  have y := @hb _ _ hby
  have w := @wd _ _ hw
  refine og (fun t k => castTop (ef19 m sa) k) ?_
  refine og2 X0 hx (fun j _ k => o_aloadN j (y d6_0) rfl rfl <| k) ?_
  refine gO 112 X0 hx hZ hown hw (w 34 rfl) e0 hS hkS hC0 (y d6_1) (fun a1 T1 h1 ks1 X1 e1 E1 hS hkS hZ hown CR1 => ?_)
  have Z1 : n0 ≤ h1.size := (Nat.le_trans Z0 E1.1)
  have P1 := (Keep.refl h0 []).ext E1
  have O3 := (pr1.ext E1)
  have F4 := (Fld.ext E1 pr2)
  have F5 := (Fld.ext E1 pr3)
  have E6 := (Exa.ext E1 pr4)
  have A7 := (pr5.ext E1)
  refine cS [(.ref sa), (.ref a1)] [] 0 X1 hx hZ hown (w 37 rfl) (w 38 rfl) (w 39 rfl) (w 40 rfl) (rmRN l Z a0 hw [] sa a1 h1 n0 Z1) e1 hml pd_oLjava_lang_ObjectsLjava_lang_StringscLjava_lang_Objects (y d6_3) (fun v8 T8 L8 hQ8 X8 => ?_)
  obtain ⟨rfl, N8a, eh8⟩ := hQ8
  have N8 := Fr.app (Fr.nil n0) N8a
  have e8 : T8.heap = h1 := eh8
  refine og2 X8 hx (fun j _ k => o_pop j (y d6_6) rfl <| o_aloadN j (y d6_7) rfl rfl <| k) ?_
  refine g_getS X8 hx hZ hown (w 41 rfl) e8 (Sta.ext O3.2 H0.ro) (y d6_8) (fun T9 X9 e9 => ?_)
  refine cVH sa [(.ref lo)] [] 0 X9 hx hZ hown hS hkS (w 43 rfl) (w 44 rfl) (w 46 rfl) (w 45 rfl) (w 3 rfl) (w 47 rfl) (own_EW hw) CR1.1 (rmTL l Z a0 hw [] cs fm lo bl la lb li sa ba bk L0 h1 n0 Z1 H0 O3 A7 F4 F5 E6 H6 (by omega)) e9 E6 hml pd_oLjava_util_LocalescLjava_lang_Strings (y d6_11) (fun v10 T10 L10 hQ10 X10 hS hZ hown CC10 => ?_)
  obtain ⟨r_10, rb_10, rbk_10, rfl, N10a, K10, Q10_0, Q10_1, Q10_2, Q10_3⟩ := hQ10
  have N10 := Fr.app N8 N10a
  have e10 : T10.heap = T10.heap := rfl
  have Z10 : n0 ≤ T10.heap.size := (Nat.le_trans Z1 K10.1)
  have P10 : Keep h0 T10.heap [] := (P1.trans K10 all0)
  have O12 := (O3.keep K10 all0)
  have F13 := (F4.keep K10 nin0)
  have A16 := (A7.keep K10 nin0)
  have hkS : T10.heap.size ≤ T10.heap.size := Nat.le_refl _
  refine og2 X10 hx (fun j _ k => o_astoreN j (y d6_14) rfl (l' := #[.val (.ref sa), .val (.ref r_10), .unset, .unset, .unset, .unset]) rfl <| k) ?_
  refine nO X10 hx hZ hown (w 64 rfl) (w 65 rfl) (w 66 rfl) e10 (y d6_15) (fun T17 h17 a17 g17 X17 e17 E17 A17 D17 => ?_)
  have Z17 : n0 ≤ h17.size := Nat.le_trans Z10 E17.1
  have G17 : n0 ≤ a17 := Nat.le_trans Z10 (Nat.le_of_eq g17.symm)
  have GK17 : h0.size ≤ a17 := Nat.le_trans P10.1 (Nat.le_of_eq g17.symm)
  have P17 := P10.ext E17
  have CH18 := CHv.ext E17 CC10.1
  have O19 := (O12.ext E17)
  have F20 := (Fld.ext E17 F13)
  have A23 := (A16.ext E17)
  have F24 := (Fld.ext E17 Q10_0)
  have F25 := (Fld.ext E17 Q10_1)
  have E26 := (Exa.ext E17 Q10_2)
  have A27 := (Q10_3.ext E17)
  have SF17_a17 := Safe.ext E17 CC10.1 (Safe.new (Nat.le_of_eq g17.symm))
  have F28 : Fld Z h17 a17 "java/lang/AbstractStringBuilder" "value" "[B" .null := (D17 (Or.inl (w 90 rfl)) (ty := (.array .byte)) (by decide))
  have F29 : Fld Z h17 a17 "java/lang/AbstractStringBuilder" "coder" "B" (.int 0) := (D17 (Or.inl (w 92 rfl)) (ty := .byte) (by decide))
  have F30 : Fld Z h17 a17 "java/lang/AbstractStringBuilder" "count" "I" (.int 0) := (D17 (Or.inl (w 105 rfl)) (ty := .int) (by decide))
  refine og2 X17 hx (fun j _ k => o_dup j (y d6_18) rfl <| k) ?_
  refine gL [.int 105, .int 102, .int 95] 3 12 X17 hx hZ hown hw (w 67 rfl) e17 hS (Nat.le_trans hkS E17.1) CH18 (y d6_19) (fun a31 T31 h31 ks31 b31 kb31 X31 e31 E31 hS hkS hZ hown EA31 FC31 FV31 AB31 CR31 LT31 NS31 => ?_)
  have SF32_a17 := CR31.safe A17.lt SF17_a17
  have Z31 : n0 ≤ h31.size := (Nat.le_trans Z17 E31.1)
  have P31 := P17.ext E31
  have O33 := (O19.ext E31)
  have F34 := (Fld.ext E31 F20)
  have A37 := (A23.ext E31)
  have F38 := (Fld.ext E31 F24)
  have F39 := (Fld.ext E31 F25)
  have E40 := (Exa.ext E31 E26)
  have A41 := (A27.ext E31)
  have E42 := (Exa.ext E31 A17)
  have F43 := (Fld.ext E31 F28)
  have F44 := (Fld.ext E31 F29)
  have F45 := (Fld.ext E31 F30)
  refine cV a31 [] [(.ref a17), (.ref a17)] 2 X31 hx hZ hown (w 68 rfl) (w 69 rfl) (w 71 rfl) (w 70 rfl) (w 3 rfl) (w 72 rfl) (rmLE l Z a0 hw [] cs fm lo bl la lb li a31 b31 kb31 (3 : Int32) ([(.int 105), (.int 102), (.int 95)]) h31 n0 Z31 H0 O33 FV31 FC31 EA31 AB31) e31 EA31 hml pd_ocI (y d6_21) (fun v46 T46 L46 hQ46 X46 => ?_)
  obtain ⟨rfl, N46a, eh46⟩ := hQ46
  have N46 := Fr.app N10 N46a
  have e46 : T46.heap = h31 := eh46
  refine og2 X46 hx (fun j _ k => o_aloadN j (y d6_24) rfl rfl <| k) ?_
  refine cV r_10 [] [(.int 3), (.ref a17), (.ref a17)] 3 X46 hx hZ hown (w 68 rfl) (w 69 rfl) (w 71 rfl) (w 70 rfl) (w 3 rfl) (w 72 rfl) (rmLE l Z a0 hw [] cs fm lo bl la lb li r_10 rb_10 rbk_10 (own_ln (L0.map own_low)) (own_vb (L0.map own_low)) h31 n0 Z31 H0 O33 F38 F39 E40 A41) e46 E40 hml pd_ocI (y d6_25) (fun v47 T47 L47 hQ47 X47 => ?_)
  obtain ⟨rfl, N47a, eh47⟩ := hQ47
  have N47 := Fr.app N46 N47a
  have e47 : T47.heap = h31 := eh47
  refine og2 X47 hx (fun j _ k => o_iadd j (y d6_28) <| k) ?_
  rw [(own_cap L0)]
  refine cI a17 [(.int (own_nn (L0.length + 3)))] [(.ref a17)] 1 X47 hx hZ hown (w 78 rfl) (w 79 rfl) (w 66 rfl) (w 80 rfl) (rmSI l Z a0 hw [] cs fm lo bl la lb li a17 (L0.length + 3) h31 n0 Z31 H0 O33 F43 F44 F45 E42 G17 (by omega) (by omega)) e47 hml pd_oIcV (y d6_29) (fun v48 T48 L48 hQ48 X48 => ?_)
  obtain ⟨va_48, vk_48, rfl, N48a, K48, Q48_0, Q48_1, Q48_2, Q48_3, Q48_4, Q48_5, Q48_6⟩ := hQ48
  have N48 := Fr.app N47 N48a
  have e48 : T48.heap = T48.heap := rfl
  have Z48 : n0 ≤ T48.heap.size := (Nat.le_trans Z31 K48.1)
  have P48 : Keep h0 T48.heap [] := (P31.trans K48 (allS (Or.inr GK17) all0))
  have SF49_a17 := Safe.keep K48 (allS SF32_a17 all0) CR31.1 SF32_a17
  have CH49 := CHv.keep K48 (allS SF32_a17 all0) CR31.1
  have O50 := (O33.keep K48 (allS G17 all0))
  have F55 := (F38.keep K48 (ninS (Nat.ne_of_lt (Nat.lt_of_lt_of_eq Q10_0.lt g17.symm)) nin0))
  have F56 := (F39.keep K48 (ninS (Nat.ne_of_lt (Nat.lt_of_lt_of_eq Q10_0.lt g17.symm)) nin0))
  have E57 := (E40.keep K48)
  have A58 := (A41.keep K48 (ninS (Nat.ne_of_lt (Nat.lt_of_lt_of_eq Q10_3.lt g17.symm)) nin0))
  have E59 := (E42.keep K48)
  have G48_va : n0 ≤ va_48 := Nat.le_trans Z31 Q48_6
  have GK48_va : h0.size ≤ va_48 := Nat.le_trans P31.1 Q48_6
  have ne48_sa_va : sa ≠ va_48 := Nat.ne_of_lt (Nat.lt_of_lt_of_le F34.lt Q48_6)
  have ne48_ba_va : ba ≠ va_48 := Nat.ne_of_lt (Nat.lt_of_lt_of_le A37.lt Q48_6)
  have ne48_r_10_va : r_10 ≠ va_48 := Nat.ne_of_lt (Nat.lt_of_lt_of_le F38.lt Q48_6)
  have ne48_rb_10_va : rb_10 ≠ va_48 := Nat.ne_of_lt (Nat.lt_of_lt_of_le A41.lt Q48_6)
  have ne48_a17_va : a17 ≠ va_48 := Nat.ne_of_lt (Nat.lt_of_lt_of_le E42.lt Q48_6)
  have ne48_a31_va : a31 ≠ va_48 := Nat.ne_of_lt (Nat.lt_of_lt_of_le EA31.lt Q48_6)
  have ne48_b31_va : b31 ≠ va_48 := Nat.ne_of_lt (Nat.lt_of_lt_of_le AB31.lt Q48_6)
  have SF48_va_48 := Safe.keep K48 (allS SF32_a17 all0) CR31.1 (Safe.new Q48_6)
  refine gL [.int 105, .int 102, .int 95] 3 12 X48 hx hZ hown hw (w 67 rfl) e48 hS (Nat.le_trans hkS K48.1) CH49 (y d6_32) (fun a65 T65 h65 ks65 b65 kb65 X65 e65 E65 hS hkS hZ hown EA65 FC65 FV65 AB65 CR65 LT65 NS65 => ?_)
  have SF66_a17 := CR65.safe E59.lt SF49_a17
  have SF66_va_48 := CR65.safe Q48_4.lt SF48_va_48
  have Z65 : n0 ≤ h65.size := (Nat.le_trans Z48 E65.1)
  have P65 := P48.ext E65
  have O67 := (O50.ext E65)
  have F72 := (Fld.ext E65 F55)
  have F73 := (Fld.ext E65 F56)
  have E74 := (Exa.ext E65 E57)
  have A75 := (A58.ext E65)
  have F82 := (Fld.ext E65 Q48_0)
  have F83 := (Fld.ext E65 Q48_1)
  have F84 := (Fld.ext E65 Q48_2)
  have E85 := (Exa.ext E65 Q48_3)
  have A86 := (Q48_4.ext E65)
  have E87 := (Exa.ext E65 Q48_5)
  refine cV a17 [(.ref a65)] [] 0 X65 hx hZ hown (w 93 rfl) (w 94 rfl) (w 96 rfl) (w 95 rfl) (w 66 rfl) (w 97 rfl) (rmSS l Z a0 hw [] cs fm lo bl la lb li a17 a65 b65 kb65 va_48 vk_48 (L0.length + 3) h65 n0 Z65 H0 O67 FV65 FC65 EA65 AB65 F82 F83 F84 E85 A86 G17 G48_va (by omega) (by omega)) e65 E85 hml pd_oLjava_lang_StringscLjava_lang_StringBuilders (y d6_34) (fun v88 T88 L88 hQ88 X88 => ?_)
  obtain ⟨rfl, N88a, K88, Q88_0, Q88_1, Q88_2, Q88_3, Q88_4⟩ := hQ88
  have N88 := Fr.app N48 N88a
  have e88 : T88.heap = T88.heap := rfl
  have Z88 : n0 ≤ T88.heap.size := (Nat.le_trans Z65 K88.1)
  have P88 : Keep h0 T88.heap [] := (P65.trans K88 (allS (Or.inr GK17) (allS (Or.inr GK48_va) all0)))
  have SF89_va_48 := Safe.keep K88 (allS SF66_a17 (allS SF66_va_48 all0)) CR65.1 SF66_va_48
  have CH89 := CHv.keep K88 (allS SF66_a17 (allS SF66_va_48 all0)) CR65.1
  have O90 := (O67.keep K88 (allS G17 (allS G48_va all0)))
  have F95 := (F72.keep K88 (ninS (Nat.ne_of_lt (Nat.lt_of_lt_of_eq Q10_0.lt g17.symm)) (ninS ne48_r_10_va nin0)))
  have F96 := (F73.keep K88 (ninS (Nat.ne_of_lt (Nat.lt_of_lt_of_eq Q10_0.lt g17.symm)) (ninS ne48_r_10_va nin0)))
  have E97 := (E74.keep K88)
  have A98 := (A75.keep K88 (ninS (Nat.ne_of_lt (Nat.lt_of_lt_of_eq Q10_3.lt g17.symm)) (ninS ne48_rb_10_va nin0)))
  have E106 := (E87.keep K88)
  refine og2 X88 hx (fun j _ k => o_astoreN j (y d6_37) rfl (l' := #[.val (.ref sa), .val (.ref r_10), .val (.ref a17), .unset, .unset, .unset]) rfl <| o_iconstV j 0 (y d6_38) rfl <| o_istoreN j (y d6_39) (l' := #[.val (.ref sa), .val (.ref r_10), .val (.ref a17), .val (.int 0), .unset, .unset]) rfl <| o_iconstV j 0 (y d6_40) rfl <| o_istore j (y d6_41) (l' := #[.val (.ref sa), .val (.ref r_10), .val (.ref a17), .val (.int 0), .val (.int 0), .unset]) rfl <| k) ?_
  have LPp : ∀ (rp Ap : List Int32) (Ttp : State) (ltp : List Loc) (Lt : List Int32) (sp : Int32) (ce : Nat) (sl : Nat) (vt : Vm) (kt : Nat) (x5p : Slot) (htp : Heap), Ap ++ rp = (L0.map own_low) → own_run Lt sp rp = own_run [(105 : Int32), (102 : Int32), (95 : Int32)] (0 : Int32) (L0.map own_low) → Lt.length ≤ 3 + Ap.length → (sp = 0 ∨ Lt.length + 1 ≤ 3 + Ap.length) → ce + 2 * rp.length ≤ 26 → sl + 16 * rp.length ≤ 312 → (x5p = .unset ∨ ∃ z, x5p = .val (.int z)) → Stand p l e R_6_28_336_91 (s.setVm vt) m #[(.ref sa)] below meth c Ttp ltp ce sl → Ttp.heap = htp → Fr n0 ltp → n0 ≤ htp.size → Keep h0 htp [] → s.Since vt kt → kt ≤ htp.size → Z.Warmed39 (s.setVm vt).vm → (s.setVm vt).vm.findClass "com/example/obieg/obieg/ChoiceId" = some m.cls → Old Z n0 htp → Exa Z htp a17 "java/lang/StringBuilder" → Fld Z htp a17 "java/lang/AbstractStringBuilder" "value" "[B" (.ref va_48) → Fld Z htp a17 "java/lang/AbstractStringBuilder" "coder" "B" (.int 0) → Fld Z htp a17 "java/lang/AbstractStringBuilder" "count" "I" (.int (own_ln Lt)) → Arv Z htp va_48 vk_48 .byte (own_nn (L0.length + 3)) (own_pb (L0.length + 3) Lt) (.int 0) → Exa Z htp va_48 "[B" → Exa Z htp r_10 "java/lang/String" → Fld Z htp r_10 "java/lang/String" "coder" "B" (.int 0) → Fld Z htp r_10 "java/lang/String" "value" "[B" (.ref rb_10) → Arv Z htp rb_10 rbk_10 .byte (own_ln (L0.map own_low)) (own_vb (L0.map own_low)) (.int 0) → CHv Z own_EL vt htp → Safe Z own_EL vt htp va_48 → OG p.tables e below (fun o u => ∃ v L, o = .returned v ∧ QOF Z cs fm lo bl la lb li sa ba bk L0 h0 n0 v u.heap L ∧ ReturnedEndW s o u L R_6_28_336_91.cells R_6_28_336_91.slots) (Ttp.setTop (mkF m 43 #[.val (.ref sa), .val (.ref r_10), .val (.ref a17), .val (.int sp), .val (.int (own_ln Ap)), x5p] [])) := by
    intro rp
    induction rp with
    | nil =>
      intro Ap Ttp ltp Lt sp ce sl vt kt x5p htp hAp hR hL1 hL2 hce hsl hx5p Xtp etp Ntp Ztp Ptp hS hktp hZ hown Fpt0 Fpt1 Fpt2 Fpt3 Fpt4 Fpt5 Fpt6 Fpt7 Fpt8 Fpt9 Fpt10 CHtp SFtp_va_48
      have hce : ce ≤ 26 := hce
      have hsl : sl ≤ 312 := hsl
      have hAp : Ap = (L0.map own_low) := by rw [← hAp]; exact (List.append_nil _).symm
      refine og2 Xtp hx (fun j _ k => o_iload j (y d6_43) rfl <| o_aloadN j (y d6_45) rfl rfl <| k) ?_
      refine cV r_10 [] [(.int (own_ln Ap))] 1 Xtp hx hZ hown (w 68 rfl) (w 69 rfl) (w 71 rfl) (w 70 rfl) (w 3 rfl) (w 72 rfl) (rmLE l Z a0 hw [] cs fm lo bl la lb li r_10 rb_10 rbk_10 (own_ln (L0.map own_low)) (own_vb (L0.map own_low)) htp n0 Ztp H0 Fpt0 Fpt9 Fpt8 Fpt7 Fpt10) etp Fpt7 hml pd_ocI (y d6_46) (fun v111 T111 L111 hQ111 X111 => ?_) (hc := by show ce + 0 ≤ 28; omega) (hs := by show sl + 0 ≤ 336; omega)
      obtain ⟨rfl, N111a, eh111⟩ := hQ111
      have N111 := Fr.app Ntp N111a
      have e111 : T111.heap = htp := eh111
      refine og2 X111 hx (fun j _ k => o_icmpYes j (pc' := 131) (y d6_49) (XT.ii_ge_t (by rw [hAp]; exact own_irr32 _)) <| o_aloadN j (y d6_131) rfl rfl <| k) ?_
      refine cV a17 [] [] 0 X111 hx hZ hown (w 147 rfl) (w 148 rfl) (w 150 rfl) (w 149 rfl) (w 66 rfl) (w 151 rfl) (rmTS l Z a0 hw [] cs fm lo bl la lb li a17 va_48 vk_48 (L0.length + 3) Lt htp n0 Ztp H0 Fpt0 Fpt2 Fpt3 Fpt4 Fpt1 Fpt5 Fpt6 (by have q := congrArg List.length hAp; rw [List.length_map] at q; omega) (by omega)) e111 Fpt1 hml pd_ocLjava_lang_Strings (y d6_132) (fun v112 T112 L112 hQ112 X112 => ?_) (hc := by show ce + 2 ≤ 28; omega) (hs := by show sl + 24 ≤ 336; omega)
      obtain ⟨r_112, b_112, bk_112, rfl, N112a, K112, Q112_0, Q112_1, Q112_2, Q112_3, Q112_4⟩ := hQ112
      have N112 := Fr.app N111 N112a
      have e112 : T112.heap = T112.heap := rfl
      have P112 : Keep h0 T112.heap [] := (Ptp.trans K112 all0)
      have ne112_a17_r : a17 ≠ r_112 := Nat.ne_of_lt (Nat.lt_of_lt_of_le Fpt1.lt Q112_4)
      have ne112_va_48_r : va_48 ≠ r_112 := Nat.ne_of_lt (Nat.lt_of_lt_of_le Fpt5.lt Q112_4)
      have ne112_r_10_r : r_10 ≠ r_112 := Nat.ne_of_lt (Nat.lt_of_lt_of_le Fpt7.lt Q112_4)
      have ne112_rb_10_r : rb_10 ≠ r_112 := Nat.ne_of_lt (Nat.lt_of_lt_of_le Fpt10.lt Q112_4)
      exact rAW X112 hx Bd hS (Nat.le_trans hktp K112.1) rfl rfl rfl (y d6_135) e112 ⟨r_112, b_112, bk_112, rfl, N112, P112, Q112_0, Q112_1, Q112_2, (by have q := Q112_3; rw [show Lt = own_run [(105 : Int32), (102 : Int32), (95 : Int32)] (0 : Int32) (L0.map own_low) from hR] at q; exact q)⟩ (hc := by show ce + 2 + 0 ≤ 28; omega) (hs := by show sl + 24 + 0 ≤ 336; omega)
    | cons cp rp ihp =>
      intro Ap Ttp ltp Lt sp ce sl vt kt x5p htp hAp hR hL1 hL2 hce hsl hx5p Xtp etp Ntp Ztp Ptp hS hktp hZ hown Fpt0 Fpt1 Fpt2 Fpt3 Fpt4 Fpt5 Fpt6 Fpt7 Fpt8 Fpt9 Fpt10 CHtp SFtp_va_48
      have hce : ce + 2 * (rp.length + 1) ≤ 26 := hce
      have hsl : sl + 16 * (rp.length + 1) ≤ 312 := hsl
      refine og2 Xtp hx (fun j _ k => o_iload j (y d6_43) rfl <| o_aloadN j (y d6_45) rfl rfl <| k) ?_
      refine cV r_10 [] [(.int (own_ln Ap))] 1 Xtp hx hZ hown (w 68 rfl) (w 69 rfl) (w 71 rfl) (w 70 rfl) (w 3 rfl) (w 72 rfl) (rmLE l Z a0 hw [] cs fm lo bl la lb li r_10 rb_10 rbk_10 (own_ln (L0.map own_low)) (own_vb (L0.map own_low)) htp n0 Ztp H0 Fpt0 Fpt9 Fpt8 Fpt7 Fpt10) etp Fpt7 hml pd_ocI (y d6_46) (fun v125 T125 L125 hQ125 X125 => ?_) (hc := by show ce + 0 ≤ 28; omega) (hs := by show sl + 0 ≤ 336; omega)
      obtain ⟨rfl, N125a, eh125⟩ := hQ125
      have N125 := Fr.app Ntp N125a
      have e125 : T125.heap = htp := eh125
      refine og2 X125 hx (fun j _ k => o_icmpNo j (y d6_49) (XT.ii_ge_f (own_mid hAp (by rw [List.length_map]; omega))) <| o_aloadN j (y d6_52) rfl rfl <| o_iload j (y d6_53) rfl <| k) ?_
      refine cV r_10 [(.int (own_ln Ap))] [] 0 X125 hx hZ hown (w 131 rfl) (w 132 rfl) (w 134 rfl) (w 133 rfl) (w 3 rfl) (w 135 rfl) (rmCA l Z a0 hw [] cs fm lo bl la lb li r_10 rb_10 rbk_10 (L0.map own_low) (own_ln Ap) htp n0 Ztp H0 Fpt0 (own_ln0 (Nat.lt_trans (own_midlt hAp) (by rw [List.length_map]; omega))) (own_mid hAp (by rw [List.length_map]; omega)) Fpt10 (own_ol_map H6) Fpt9 Fpt8 Fpt7) e125 Fpt7 hml pd_oIcC (y d6_55) (fun v126 T126 L126 hQ126 X126 => ?_) (hc := by show ce + 0 ≤ 28; omega) (hs := by show sl + 0 ≤ 336; omega)
      obtain ⟨rfl, N126a, eh126⟩ := hQ126
      have N126 := Fr.app N125 N126a
      have e126 : T126.heap = htp := eh126
      rw [(own_at_mid hAp (by rw [List.length_map]; omega))]
      refine og2 X126 hx (fun j _ k => o_istore j (y d6_58) (l' := #[.val (.ref sa), .val (.ref r_10), .val (.ref a17), .val (.int sp), .val (.int (own_ln Ap)), .val (.int cp)]) (own_st_6_5 _ hx5p) <| k) ?_
      have KP : own_k2 cp → OG p.tables e below (fun o u => ∃ v L, o = .returned v ∧ QOF Z cs fm lo bl la lb li sa ba bk L0 h0 n0 v u.heap L ∧ ReturnedEndW s o u L R_6_28_336_91.cells R_6_28_336_91.slots) (T126.setTop (mkF m 88 #[.val (.ref sa), .val (.ref r_10), .val (.ref a17), .val (.int sp), .val (.int (own_ln Ap)), .val (.int cp)] [])) := by
        intro hk2
        refine og2 X126 hx (fun j _ k => o_iloadN j (y d6_88) rfl <| k) ?_
        by_cases C127 : sp = 0
        · refine og2 X126 hx (fun j _ k => o_ifYes j (pc' := 111) (y d6_89) (XT.i0_eq_t C127) <| o_aloadN j (y d6_111) rfl rfl <| o_iload j (y d6_112) rfl <| k) ?_
          refine cV a17 [(.int cp)] [] 0 X126 hx hZ hown (w 207 rfl) (w 208 rfl) (w 210 rfl) (w 209 rfl) (w 66 rfl) (w 211 rfl) (rmSA l Z a0 hw [] cs fm lo bl la lb li a17 va_48 vk_48 (L0.length + 3) Lt cp htp n0 Ztp H0 Fpt0 Fpt2 Fpt3 Fpt4 Fpt1 Fpt5 G17 G48_va (by have q := own_midlt hAp; rw [List.length_map] at q; omega) (by omega) (own_mid_ob hAp (own_ol_map H6))) e126 Fpt1 hml pd_oCcLjava_lang_StringBuilders (y d6_114) (fun v128 T128 L128 hQ128 X128 => ?_) (hc := by show ce + 0 ≤ 28; omega) (hs := by show sl + 0 ≤ 336; omega)
          obtain ⟨rfl, N128a, K128, Q128_0, Q128_1, Q128_2, Q128_3, Q128_4⟩ := hQ128
          have N128 := Fr.app N126 N128a
          have e128 : T128.heap = T128.heap := rfl
          have Z128 : n0 ≤ T128.heap.size := (Nat.le_trans Ztp K128.1)
          have P128 : Keep h0 T128.heap [] := (Ptp.trans K128 (allS (Or.inr GK17) (allS (Or.inr GK48_va) all0)))
          have SF129_va_48 := Safe.keep K128 (allS (Safe.exa hZ.alike Fpt1 (by decide) (by decide)) (allS SFtp_va_48 all0)) CHtp SFtp_va_48
          have CH129 := CHv.keep K128 (allS (Safe.exa hZ.alike Fpt1 (by decide) (by decide)) (allS SFtp_va_48 all0)) CHtp
          have O130 := (Fpt0.keep K128 (allS G17 (allS G48_va all0)))
          have E132 := (Fpt6.keep K128)
          have E133 := (Fpt7.keep K128)
          have F134 := (Fpt8.keep K128 (ninS (Nat.ne_of_lt (Nat.lt_of_lt_of_eq Q10_0.lt g17.symm)) (ninS ne48_r_10_va nin0)))
          have F135 := (Fpt9.keep K128 (ninS (Nat.ne_of_lt (Nat.lt_of_lt_of_eq Q10_0.lt g17.symm)) (ninS ne48_r_10_va nin0)))
          have A136 := (Fpt10.keep K128 (ninS (Nat.ne_of_lt (Nat.lt_of_lt_of_eq Q10_3.lt g17.symm)) (ninS ne48_rb_10_va nin0)))
          refine og2 X128 hx (fun j _ k => o_pop j (y d6_117) rfl <| o_iconstV j 0 (y d6_118) rfl <| o_istoreN j (y d6_119) (l' := #[.val (.ref sa), .val (.ref r_10), .val (.ref a17), .val (.int 0), .val (.int (own_ln Ap)), .val (.int cp)]) rfl <| o_goto j (pc' := 125) (y d6_120) <| o_iincV j 1 (y d6_125) rfl rfl (l' := #[.val (.ref sa), .val (.ref r_10), .val (.ref a17), .val (.int 0), .val (.int ((own_ln Ap) + (1 : Int32))), .val (.int cp)]) rfl <| k) ?_
          rw [(own_ln_app Ap cp)]
          refine og2 X128 hx (fun j _ k => o_goto j (pc' := 43) (y d6_128) <| k) ?_
          exact ihp (Ap ++ [cp]) _ _ (Lt ++ [cp]) (0 : Int32) (ce + 2) (sl + 16) _ _ (.val (.int cp)) _ (by rw [List.append_assoc]; exact hAp) (own_r1 hk2 (Or.inl C127) hR) (by simp only [List.length_append, List.length_cons, List.length_nil]; omega) (Or.inl rfl) (by omega) (by omega) (Or.inr ⟨_, rfl⟩) (X128.mono (by show ce ≤ ce + 2; omega) (by show sl ≤ sl + 16; omega)) e128 N128 Z128 P128 hS (Nat.le_trans hktp K128.1) hZ hown O130 Q128_3 Q128_0 Q128_1 Q128_2 Q128_4 E132 E133 F134 F135 A136 CH129 SF129_va_48
        · refine og2 X126 hx (fun j _ k => o_ifNo j (y d6_89) (XT.i0_eq_f C127) <| o_aloadN j (y d6_92) rfl rfl <| k) ?_
          refine cV a17 [] [] 0 X126 hx hZ hown (w 204 rfl) (w 205 rfl) (w 206 rfl) (w 168 rfl) (w 66 rfl) (w 169 rfl) (rmSN l Z a0 hw [] a17 (own_ln Lt) htp n0 Ztp Fpt4 Fpt1) e126 Fpt1 hml pd_ocI (y d6_93) (fun v137 T137 L137 hQ137 X137 => ?_) (hc := by show ce + 0 ≤ 28; omega) (hs := by show sl + 0 ≤ 336; omega)
          obtain ⟨rfl, N137a, eh137⟩ := hQ137
          have N137 := Fr.app N126 N137a
          have e137 : T137.heap = htp := eh137
          refine gL [.int 105, .int 102, .int 95] 3 12 X137 hx hZ hown hw (w 67 rfl) e137 hS hktp CHtp (y d6_96) (fun a138 T138 h138 ks138 b138 kb138 X138 e138 E138 hS hkS hZ hown EA138 FC138 FV138 AB138 CR138 LT138 NS138 => ?_) (hc := by show ce + 2 ≤ 28; omega) (hl' := by show sl + 16 ≤ 336; omega)
          have SF139_va_48 := CR138.safe Fpt5.lt SFtp_va_48
          have Z138 : n0 ≤ h138.size := (Nat.le_trans Ztp E138.1)
          have P138 := Ptp.ext E138
          have O140 := (Fpt0.ext E138)
          have E141 := (Exa.ext E138 Fpt1)
          have F142 := (Fld.ext E138 Fpt2)
          have F143 := (Fld.ext E138 Fpt3)
          have F144 := (Fld.ext E138 Fpt4)
          have A145 := (Fpt5.ext E138)
          have E146 := (Exa.ext E138 Fpt6)
          have E147 := (Exa.ext E138 Fpt7)
          have F148 := (Fld.ext E138 Fpt8)
          have F149 := (Fld.ext E138 Fpt9)
          have A150 := (Fpt10.ext E138)
          refine cV a138 [] [(.int (own_ln Lt))] 1 X138 hx hZ hown (w 68 rfl) (w 69 rfl) (w 71 rfl) (w 70 rfl) (w 3 rfl) (w 72 rfl) (rmLE l Z a0 hw [] cs fm lo bl la lb li a138 b138 kb138 (3 : Int32) ([(.int 105), (.int 102), (.int 95)]) h138 n0 Z138 H0 O140 FV138 FC138 EA138 AB138) e138 EA138 hml pd_ocI (y d6_98) (fun v151 T151 L151 hQ151 X151 => ?_) (hc := by show ce + 2 + 0 ≤ 28; omega) (hs := by show sl + 16 + 0 ≤ 336; omega)
          obtain ⟨rfl, N151a, eh151⟩ := hQ151
          have N151 := Fr.app N137 N151a
          have e151 : T151.heap = h138 := eh151
          by_cases C152 : (3 : Int32) < (own_ln Lt)
          · refine og2 X151 hx (fun j _ k => o_icmpNo j (y d6_101) (XT.ii_le_f C152) <| o_aloadN j (y d6_104) rfl rfl <| o_bipushV j 95 (y d6_105) rfl <| k) ?_
            refine cV a17 [(.int 95)] [] 0 X151 hx hZ hown (w 207 rfl) (w 208 rfl) (w 210 rfl) (w 209 rfl) (w 66 rfl) (w 211 rfl) (rmSA l Z a0 hw [] cs fm lo bl la lb li a17 va_48 vk_48 (L0.length + 3) Lt (95 : Int32) h138 n0 Z138 H0 O140 F142 F143 F144 E141 A145 G17 G48_va (by have q := own_midlt hAp; rw [List.length_map] at q; omega) (by omega) (⟨by decide, by decide⟩)) e151 E141 hml pd_oCcLjava_lang_StringBuilders (y d6_107) (fun v153 T153 L153 hQ153 X153 => ?_) (hc := by show ce + 2 + 0 ≤ 28; omega) (hs := by show sl + 16 + 0 ≤ 336; omega)
            obtain ⟨rfl, N153a, K153, Q153_0, Q153_1, Q153_2, Q153_3, Q153_4⟩ := hQ153
            have N153 := Fr.app N151 N153a
            have e153 : T153.heap = T153.heap := rfl
            have Z153 : n0 ≤ T153.heap.size := (Nat.le_trans Z138 K153.1)
            have P153 : Keep h0 T153.heap [] := (P138.trans K153 (allS (Or.inr GK17) (allS (Or.inr GK48_va) all0)))
            have SF154_va_48 := Safe.keep K153 (allS (Safe.exa hZ.alike E141 (by decide) (by decide)) (allS SF139_va_48 all0)) CR138.1 SF139_va_48
            have SF154_a17 := Safe.keep K153 (allS (Safe.exa hZ.alike E141 (by decide) (by decide)) (allS SF139_va_48 all0)) CR138.1 (Safe.exa hZ.alike E141 (by decide) (by decide))
            have CH154 := CHv.keep K153 (allS (Safe.exa hZ.alike E141 (by decide) (by decide)) (allS SF139_va_48 all0)) CR138.1
            have O155 := (O140.keep K153 (allS G17 (allS G48_va all0)))
            have E157 := (E146.keep K153)
            have E158 := (E147.keep K153)
            have F159 := (F148.keep K153 (ninS (Nat.ne_of_lt (Nat.lt_of_lt_of_eq Q10_0.lt g17.symm)) (ninS ne48_r_10_va nin0)))
            have F160 := (F149.keep K153 (ninS (Nat.ne_of_lt (Nat.lt_of_lt_of_eq Q10_0.lt g17.symm)) (ninS ne48_r_10_va nin0)))
            have A161 := (A150.keep K153 (ninS (Nat.ne_of_lt (Nat.lt_of_lt_of_eq Q10_3.lt g17.symm)) (ninS ne48_rb_10_va nin0)))
            refine og2 X153 hx (fun j _ k => o_pop j (y d6_110) rfl <| o_aloadN j (y d6_111) rfl rfl <| o_iload j (y d6_112) rfl <| k) ?_
            refine cV a17 [(.int cp)] [] 0 X153 hx hZ hown (w 207 rfl) (w 208 rfl) (w 210 rfl) (w 209 rfl) (w 66 rfl) (w 211 rfl) (rmSA l Z a0 hw [] cs fm lo bl la lb li a17 va_48 vk_48 (L0.length + 3) (Lt ++ [(95 : Int32)]) cp T153.heap n0 Z153 H0 O155 Q153_0 Q153_1 Q153_2 Q153_3 Q153_4 G17 G48_va (by have q2 := hL2.resolve_left C127; have q := own_midlt hAp; rw [List.length_map] at q; simp only [List.length_append, List.length_cons, List.length_nil]; omega) (by omega) (own_mid_ob hAp (own_ol_map H6))) e153 Q153_3 hml pd_oCcLjava_lang_StringBuilders (y d6_114) (fun v166 T166 L166 hQ166 X166 => ?_) (hc := by show ce + 2 + 0 ≤ 28; omega) (hs := by show sl + 16 + 0 ≤ 336; omega)
            obtain ⟨rfl, N166a, K166, Q166_0, Q166_1, Q166_2, Q166_3, Q166_4⟩ := hQ166
            have N166 := Fr.app N153 N166a
            have e166 : T166.heap = T166.heap := rfl
            have Z166 : n0 ≤ T166.heap.size := (Nat.le_trans Z153 K166.1)
            have P166 : Keep h0 T166.heap [] := (P153.trans K166 (allS (Or.inr GK17) (allS (Or.inr GK48_va) all0)))
            have SF167_va_48 := Safe.keep K166 (allS SF154_a17 (allS SF154_va_48 all0)) CH154 SF154_va_48
            have CH167 := CHv.keep K166 (allS SF154_a17 (allS SF154_va_48 all0)) CH154
            have O168 := (O155.keep K166 (allS G17 (allS G48_va all0)))
            have E170 := (E157.keep K166)
            have E171 := (E158.keep K166)
            have F172 := (F159.keep K166 (ninS (Nat.ne_of_lt (Nat.lt_of_lt_of_eq Q10_0.lt g17.symm)) (ninS ne48_r_10_va nin0)))
            have F173 := (F160.keep K166 (ninS (Nat.ne_of_lt (Nat.lt_of_lt_of_eq Q10_0.lt g17.symm)) (ninS ne48_r_10_va nin0)))
            have A174 := (A161.keep K166 (ninS (Nat.ne_of_lt (Nat.lt_of_lt_of_eq Q10_3.lt g17.symm)) (ninS ne48_rb_10_va nin0)))
            refine og2 X166 hx (fun j _ k => o_pop j (y d6_117) rfl <| o_iconstV j 0 (y d6_118) rfl <| o_istoreN j (y d6_119) (l' := #[.val (.ref sa), .val (.ref r_10), .val (.ref a17), .val (.int 0), .val (.int (own_ln Ap)), .val (.int cp)]) rfl <| o_goto j (pc' := 125) (y d6_120) <| o_iincV j 1 (y d6_125) rfl rfl (l' := #[.val (.ref sa), .val (.ref r_10), .val (.ref a17), .val (.int 0), .val (.int ((own_ln Ap) + (1 : Int32))), .val (.int cp)]) rfl <| k) ?_
            rw [(own_ln_app Ap cp)]
            refine og2 X166 hx (fun j _ k => o_goto j (pc' := 43) (y d6_128) <| k) ?_
            exact ihp (Ap ++ [cp]) _ _ ((Lt ++ [(95 : Int32)]) ++ [cp]) (0 : Int32) (ce + 2) (sl + 16) _ _ (.val (.int cp)) _ (by rw [List.append_assoc]; exact hAp) (own_r2 hk2 C127 C152 hR) (by have q := hL2.resolve_left C127; simp only [List.length_append, List.length_cons, List.length_nil]; omega) (Or.inl rfl) (by omega) (by omega) (Or.inr ⟨_, rfl⟩) (X166.mono (by show ce + 2 ≤ ce + 2; omega) (by show sl + 16 ≤ sl + 16; omega)) e166 N166 Z166 P166 hS (Nat.le_trans (Nat.le_trans hkS K153.1) K166.1) hZ hown O168 Q166_3 Q166_0 Q166_1 Q166_2 Q166_4 E170 E171 F172 F173 A174 CH167 SF167_va_48
          · refine og2 X151 hx (fun j _ k => o_icmpYes j (pc' := 111) (y d6_101) (XT.ii_le_t C152) <| o_aloadN j (y d6_111) rfl rfl <| o_iload j (y d6_112) rfl <| k) ?_
            refine cV a17 [(.int cp)] [] 0 X151 hx hZ hown (w 207 rfl) (w 208 rfl) (w 210 rfl) (w 209 rfl) (w 66 rfl) (w 211 rfl) (rmSA l Z a0 hw [] cs fm lo bl la lb li a17 va_48 vk_48 (L0.length + 3) Lt cp h138 n0 Z138 H0 O140 F142 F143 F144 E141 A145 G17 G48_va (by have q := own_midlt hAp; rw [List.length_map] at q; omega) (by omega) (own_mid_ob hAp (own_ol_map H6))) e151 E141 hml pd_oCcLjava_lang_StringBuilders (y d6_114) (fun v180 T180 L180 hQ180 X180 => ?_) (hc := by show ce + 2 + 0 ≤ 28; omega) (hs := by show sl + 16 + 0 ≤ 336; omega)
            obtain ⟨rfl, N180a, K180, Q180_0, Q180_1, Q180_2, Q180_3, Q180_4⟩ := hQ180
            have N180 := Fr.app N151 N180a
            have e180 : T180.heap = T180.heap := rfl
            have Z180 : n0 ≤ T180.heap.size := (Nat.le_trans Z138 K180.1)
            have P180 : Keep h0 T180.heap [] := (P138.trans K180 (allS (Or.inr GK17) (allS (Or.inr GK48_va) all0)))
            have SF181_va_48 := Safe.keep K180 (allS (Safe.exa hZ.alike E141 (by decide) (by decide)) (allS SF139_va_48 all0)) CR138.1 SF139_va_48
            have CH181 := CHv.keep K180 (allS (Safe.exa hZ.alike E141 (by decide) (by decide)) (allS SF139_va_48 all0)) CR138.1
            have O182 := (O140.keep K180 (allS G17 (allS G48_va all0)))
            have E184 := (E146.keep K180)
            have E185 := (E147.keep K180)
            have F186 := (F148.keep K180 (ninS (Nat.ne_of_lt (Nat.lt_of_lt_of_eq Q10_0.lt g17.symm)) (ninS ne48_r_10_va nin0)))
            have F187 := (F149.keep K180 (ninS (Nat.ne_of_lt (Nat.lt_of_lt_of_eq Q10_0.lt g17.symm)) (ninS ne48_r_10_va nin0)))
            have A188 := (A150.keep K180 (ninS (Nat.ne_of_lt (Nat.lt_of_lt_of_eq Q10_3.lt g17.symm)) (ninS ne48_rb_10_va nin0)))
            refine og2 X180 hx (fun j _ k => o_pop j (y d6_117) rfl <| o_iconstV j 0 (y d6_118) rfl <| o_istoreN j (y d6_119) (l' := #[.val (.ref sa), .val (.ref r_10), .val (.ref a17), .val (.int 0), .val (.int (own_ln Ap)), .val (.int cp)]) rfl <| o_goto j (pc' := 125) (y d6_120) <| o_iincV j 1 (y d6_125) rfl rfl (l' := #[.val (.ref sa), .val (.ref r_10), .val (.ref a17), .val (.int 0), .val (.int ((own_ln Ap) + (1 : Int32))), .val (.int cp)]) rfl <| k) ?_
            rw [(own_ln_app Ap cp)]
            refine og2 X180 hx (fun j _ k => o_goto j (pc' := 43) (y d6_128) <| k) ?_
            exact ihp (Ap ++ [cp]) _ _ (Lt ++ [cp]) (0 : Int32) (ce + 2) (sl + 16) _ _ (.val (.int cp)) _ (by rw [List.append_assoc]; exact hAp) (own_r1 hk2 (Or.inr C152) hR) (by simp only [List.length_append, List.length_cons, List.length_nil]; omega) (Or.inl rfl) (by omega) (by omega) (Or.inr ⟨_, rfl⟩) (X180.mono (by show ce + 2 ≤ ce + 2; omega) (by show sl + 16 ≤ sl + 16; omega)) e180 N180 Z180 P180 hS (Nat.le_trans hkS K180.1) hZ hown O182 Q180_3 Q180_0 Q180_1 Q180_2 Q180_4 E184 E185 F186 F187 A188 CH181 SF181_va_48
      refine og2 X126 hx (fun j _ k => o_iload j (y d6_60) rfl <| o_bipushV j 97 (y d6_62) rfl <| k) ?_
      by_cases C193 : cp < (97 : Int32)
      · refine og2 X126 hx (fun j _ k => o_icmpYes j (pc' := 74) (y d6_64) (XT.ii_lt_t C193) <| o_iload j (y d6_74) rfl <| o_bipushV j 48 (y d6_76) rfl <| k) ?_
        by_cases C194 : cp < (48 : Int32)
        · refine og2 X126 hx (fun j _ k => o_icmpYes j (pc' := 123) (y d6_78) (XT.ii_lt_t C194) <| o_iconstV j 1 (y d6_123) rfl <| o_istoreN j (y d6_124) (l' := #[.val (.ref sa), .val (.ref r_10), .val (.ref a17), .val (.int 1), .val (.int (own_ln Ap)), .val (.int cp)]) rfl <| o_iincV j 1 (y d6_125) rfl rfl (l' := #[.val (.ref sa), .val (.ref r_10), .val (.ref a17), .val (.int 1), .val (.int ((own_ln Ap) + (1 : Int32))), .val (.int cp)]) rfl <| k) ?_
          rw [(own_ln_app Ap cp)]
          refine og2 X126 hx (fun j _ k => o_goto j (pc' := 43) (y d6_128) <| k) ?_
          exact ihp (Ap ++ [cp]) _ _ Lt (1 : Int32) (ce + 2) (sl + 16) _ _ (.val (.int cp)) _ (by rw [List.append_assoc]; exact hAp) (own_r0 (own_k2n1 C194) hR) (by simp only [List.length_append, List.length_cons, List.length_nil]; omega) (Or.inr (by simp only [List.length_append, List.length_cons, List.length_nil]; omega)) (by omega) (by omega) (Or.inr ⟨_, rfl⟩) (X126.mono (by show ce ≤ ce + 2; omega) (by show sl ≤ sl + 16; omega)) e126 N126 Ztp Ptp hS hktp hZ hown Fpt0 Fpt1 Fpt2 Fpt3 Fpt4 Fpt5 Fpt6 Fpt7 Fpt8 Fpt9 Fpt10 CHtp SFtp_va_48
        · refine og2 X126 hx (fun j _ k => o_icmpNo j (y d6_78) (XT.ii_lt_f C194) <| o_iload j (y d6_81) rfl <| o_bipushV j 57 (y d6_83) rfl <| k) ?_
          by_cases C195 : (57 : Int32) < cp
          · refine og2 X126 hx (fun j _ k => o_icmpYes j (pc' := 123) (y d6_85) (XT.ii_gt_t C195) <| o_iconstV j 1 (y d6_123) rfl <| o_istoreN j (y d6_124) (l' := #[.val (.ref sa), .val (.ref r_10), .val (.ref a17), .val (.int 1), .val (.int (own_ln Ap)), .val (.int cp)]) rfl <| o_iincV j 1 (y d6_125) rfl rfl (l' := #[.val (.ref sa), .val (.ref r_10), .val (.ref a17), .val (.int 1), .val (.int ((own_ln Ap) + (1 : Int32))), .val (.int cp)]) rfl <| k) ?_
            rw [(own_ln_app Ap cp)]
            refine og2 X126 hx (fun j _ k => o_goto j (pc' := 43) (y d6_128) <| k) ?_
            exact ihp (Ap ++ [cp]) _ _ Lt (1 : Int32) (ce + 2) (sl + 16) _ _ (.val (.int cp)) _ (by rw [List.append_assoc]; exact hAp) (own_r0 (own_k2n2 C193 C195) hR) (by simp only [List.length_append, List.length_cons, List.length_nil]; omega) (Or.inr (by simp only [List.length_append, List.length_cons, List.length_nil]; omega)) (by omega) (by omega) (Or.inr ⟨_, rfl⟩) (X126.mono (by show ce ≤ ce + 2; omega) (by show sl ≤ sl + 16; omega)) e126 N126 Ztp Ptp hS hktp hZ hown Fpt0 Fpt1 Fpt2 Fpt3 Fpt4 Fpt5 Fpt6 Fpt7 Fpt8 Fpt9 Fpt10 CHtp SFtp_va_48
          · refine og2 X126 hx (fun j _ k => o_icmpNo j (y d6_85) (XT.ii_gt_f C195) <| k) ?_
            exact KP (own_k2b C194 C195)
      · refine og2 X126 hx (fun j _ k => o_icmpNo j (y d6_64) (XT.ii_lt_f C193) <| o_iload j (y d6_67) rfl <| o_bipushV j 122 (y d6_69) rfl <| k) ?_
        by_cases C196 : (122 : Int32) < cp
        · refine og2 X126 hx (fun j _ k => o_icmpNo j (y d6_71) (XT.ii_le_f C196) <| o_iload j (y d6_74) rfl <| o_bipushV j 48 (y d6_76) rfl <| o_icmpNo j (y d6_78) (XT.ii_lt_f (own_i48 C193)) <| o_iload j (y d6_81) rfl <| o_bipushV j 57 (y d6_83) rfl <| o_icmpYes j (pc' := 123) (y d6_85) (XT.ii_gt_t (own_i57 C193)) <| o_iconstV j 1 (y d6_123) rfl <| o_istoreN j (y d6_124) (l' := #[.val (.ref sa), .val (.ref r_10), .val (.ref a17), .val (.int 1), .val (.int (own_ln Ap)), .val (.int cp)]) rfl <| o_iincV j 1 (y d6_125) rfl rfl (l' := #[.val (.ref sa), .val (.ref r_10), .val (.ref a17), .val (.int 1), .val (.int ((own_ln Ap) + (1 : Int32))), .val (.int cp)]) rfl <| k) ?_
          rw [(own_ln_app Ap cp)]
          refine og2 X126 hx (fun j _ k => o_goto j (pc' := 43) (y d6_128) <| k) ?_
          exact ihp (Ap ++ [cp]) _ _ Lt (1 : Int32) (ce + 2) (sl + 16) _ _ (.val (.int cp)) _ (by rw [List.append_assoc]; exact hAp) (own_r0 (own_k2n3 C193 C196) hR) (by simp only [List.length_append, List.length_cons, List.length_nil]; omega) (Or.inr (by simp only [List.length_append, List.length_cons, List.length_nil]; omega)) (by omega) (by omega) (Or.inr ⟨_, rfl⟩) (X126.mono (by show ce ≤ ce + 2; omega) (by show sl ≤ sl + 16; omega)) e126 N126 Ztp Ptp hS hktp hZ hown Fpt0 Fpt1 Fpt2 Fpt3 Fpt4 Fpt5 Fpt6 Fpt7 Fpt8 Fpt9 Fpt10 CHtp SFtp_va_48
        · refine og2 X126 hx (fun j _ k => o_icmpYes j (pc' := 88) (y d6_71) (XT.ii_le_t C196) <| k) ?_
          exact KP (own_k2a C193 C196)
  exact LPp ((L0.map own_low)) [] _ _ [(105 : Int32), (102 : Int32), (95 : Int32)] (0 : Int32) 16 232 _ _ .unset _ rfl rfl (Nat.le_of_ble_eq_true rfl) (Or.inl rfl) (by rw [List.length_map]; omega) (by rw [List.length_map]; omega) (Or.inl rfl) X88 e88 N88 Z88 P88 hS (Nat.le_trans hkS K88.1) hZ hown O90 Q88_3 Q88_0 Q88_1 Q88_2 Q88_4 E106 E97 F96 F95 A98 CH89 SF89_va_48

theorem pd_oaCcV : parseMethodDescriptor "([C)V" = some ⟨[(.array .char)], none⟩ := by decide +kernel
theorem pd_oLjava_lang_StringscLjava_lang_Strings : parseMethodDescriptor "(Ljava/lang/String;)Ljava/lang/String;" = some ⟨[(.object "java/lang/String")], some (.object "java/lang/String")⟩ := by decide +kernel
theorem pd_oaCIIaCIcI : parseMethodDescriptor "([CII[CI)I" = some ⟨[(.array .char), .int, .int, (.array .char), .int], some .int⟩ := by decide +kernel
theorem pd_oLjava_lang_StringsaCIIcZ : parseMethodDescriptor "(Ljava/lang/String;[CII)Z" = some ⟨[(.object "java/lang/String"), (.array .char), .int, .int], some .boolean⟩ := by decide +kernel
theorem ef20 (m : MethodId) (x0 : Int32) (x1 : Int32) (x2 : Int32) (x3 : Int32) (x4 : Int32) (x5 : Int32) : entryFrame m #[(.int x0), (.int x1), (.int x2), (.int x3), (.int x4), (.int x5)] maxLocals = (mkF m 0 #[.val (.int x0), .val (.int x1), .val (.int x2), .val (.int x3), .val (.int x4), .val (.int x5), .unset, .unset, .unset, .unset, .unset, .unset] []) := by first | (simp [entryFrame, mkF, argsToLocals, Value.category, maxLocals]; done) | rfl
def Q0v0 (Z : State) (cs : Int32) (fm : Value) (lo : Addr) (bl : Addr) (la : Addr) (lb : Addr) (li : Addr) (p1 : Int32) (p2 : Int32) (p3 : Int32) (p4 : Int32) (p5 : Int32) (p6 : Int32) (c0 : Int32) (c1 : Int32) (c2 : Int32) (c3 : Int32) (c4 : Int32) (h0 : Heap) (n0 : Nat) (v : Option Value) (h : Heap) (L : List Loc) : Prop := v = some (.int 1) ∧ Fr n0 L
theorem rm0v0 (l : Launch) (Z : State) (a0 : Array Value) (hw : HW a0 Z) (ws : List Jvm.Cond) (cs : Int32) (fm : Value) (lo : Addr) (bl : Addr) (la : Addr) (lb : Addr) (li : Addr) (p1 : Int32) (p2 : Int32) (p3 : Int32) (p4 : Int32) (p5 : Int32) (p6 : Int32) (c0 : Int32) (c1 : Int32) (c2 : Int32) (c3 : Int32) (c4 : Int32) (h0 : Heap) (n0 : Nat) (Z0 : n0 ≤ h0.size) (H0 : OSt Z cs fm lo bl la lb li) (pr1 : Old Z n0 h0) (H2 : own_i2c (p1 &&& (255 : Int32)) = c0) (H3 : own_i2c (p2 &&& (255 : Int32)) = c1) (H4 : own_i2c (p3 &&& (255 : Int32)) = c2) (H5 : own_i2c (p4 &&& (255 : Int32)) = c3) (H6 : own_i2c (p5 &&& (255 : Int32)) = c4) (H7 : (p6 &&& (7 : Int32)) - ((p6 &&& (7 : Int32)) / (6 : Int32)) * (6 : Int32) = 0) (H8 : OB c0) (H9 : OB c1) (H10 : OB c2) (H11 : OB c3) (H12 : OB c4) :
    MetFree l x (head1 (Jvm.Cond.code x code maxLocals ret :: ws) room_1) (fun a U => a = #[(.int p1), (.int p2), (.int p3), (.int p4), (.int p5), (.int p6)] ∧ Z.Warmed39 U.vm ∧ U.heap = h0 ∧ CHv Z own_EL U.vm h0) (fun _ _ _ _ _ => True) (fun _ U o U' => ∃ v L, o = .returned v ∧ Q0v0 Z cs fm lo bl la lb li p1 p2 p3 p4 p5 p6 c0 c1 c2 c3 c4 h0 n0 v U'.heap L ∧ ReturnedEndW U o U' L room_1.cells room_1.slots) := by
  refine og_startH (plainFor_of_name pn_com_example_obieg_obieg_ChoiceIdOfPinLaw) fun p e s m below meth c s₁ Bd hx hby hml hZ hown hnm X0 e0 hS hkS hC0 => ?_
  have y := @hb _ _ hby
  have w := @wd _ _ hw
  refine og (fun t k => castTop (ef20 m p1 p2 p3 p4 p5 p6) k) ?_
  refine og2 X0 hx (fun j _ k => o_iload j (y at_0) rfl <| o_bipushV j 7 (y at_2) rfl <| o_iand j (y at_4) <| o_bipushV j 6 (y at_5) rfl <| o_irem j (y at_7) (by decide) <| k) ?_
  rw [H7]
  refine og2 X0 hx (fun j _ k => o_istore j (y at_8) (l' := #[.val (.int p1), .val (.int p2), .val (.int p3), .val (.int p4), .val (.int p5), .val (.int p6), .val (.int 0), .unset, .unset, .unset, .unset, .unset]) rfl <| o_iconstV j 5 (y at_10) rfl <| k) ?_
  refine nP .char 5 "[C" X0 hx hZ (w 0 rfl) e0 (y at_11) (fun T1 h1 a1 kc1 g1 X1 e1 E1 A1 D1 => ?_)
  have Z1 : n0 ≤ h1.size := Nat.le_trans Z0 E1.1
  have G1 : n0 ≤ a1 := Nat.le_trans Z0 (Nat.le_of_eq g1.symm)
  have CH2 := CHv.ext E1 hC0
  have O3 := (pr1.ext E1)
  have SF1_a1 := Safe.ext E1 hC0 (Safe.new (Nat.le_of_eq g1.symm))
  have A4 : Arv Z h1 a1 kc1 .char (5 : Int32) [(.int 0), (.int 0), (.int 0), (.int 0), (.int 0)] (.int 0) := (A1.pad (pad_rep [] _ 5))
  refine og2 X1 hx (fun j _ k => o_astore j (y at_13) rfl (l' := #[.val (.int p1), .val (.int p2), .val (.int p3), .val (.int p4), .val (.int p5), .val (.int p6), .val (.int 0), .val (.ref a1), .unset, .unset, .unset, .unset]) rfl <| o_aload j (y at_15) rfl rfl <| o_iconstV j 0 (y at_17) rfl <| o_iloadN j (y at_18) rfl <| o_sipushV j 255 (y at_19) rfl <| o_iand j (y at_22) <| o_i2cO j (y at_23) <| k) ?_
  rw [H2]
  refine sC (v := c0) 0 X1 hx hZ e1 A4 (own_nar_ob H8) (y at_24) (fun T5 h5 X5 e5 W5 A5 => ?_)
  have SF6_a1 := Safe.wr W5 SF1_a1 CH2 SF1_a1
  have CH6 := CHv.wr W5 SF1_a1 CH2
  have N5 := Fr.snoc X5 (Fr.nil n0) G1
  have Z5 : n0 ≤ h5.size := (by rw [W5.size]; exact Z1)
  have O7 := (O3.wr W5 G1)
  have A5v : Arv Z h5 a1 kc1 .char (5 : Int32) [(.int c0), (.int 0), (.int 0), (.int 0), (.int 0)] (.int 0) := A5
  refine og2 X5 hx (fun j _ k => o_aload j (y at_25) rfl rfl <| o_iconstV j 1 (y at_27) rfl <| o_iloadN j (y at_28) rfl <| o_sipushV j 255 (y at_29) rfl <| o_iand j (y at_32) <| o_i2cO j (y at_33) <| k) ?_
  rw [H3]
  refine sC (v := c1) 1 X5 hx hZ e5 A5v (own_nar_ob H9) (y at_34) (fun T8 h8 X8 e8 W8 A8 => ?_)
  have SF9_a1 := Safe.wr W8 SF6_a1 CH6 SF6_a1
  have CH9 := CHv.wr W8 SF6_a1 CH6
  have N8 := Fr.snoc X8 N5 G1
  have Z8 : n0 ≤ h8.size := (by rw [W8.size]; exact Z5)
  have O10 := (O7.wr W8 G1)
  have A8v : Arv Z h8 a1 kc1 .char (5 : Int32) [(.int c0), (.int c1), (.int 0), (.int 0), (.int 0)] (.int 0) := A8
  refine og2 X8 hx (fun j _ k => o_aload j (y at_35) rfl rfl <| o_iconstV j 2 (y at_37) rfl <| o_iloadN j (y at_38) rfl <| o_sipushV j 255 (y at_39) rfl <| o_iand j (y at_42) <| o_i2cO j (y at_43) <| k) ?_
  rw [H4]
  refine sC (v := c2) 2 X8 hx hZ e8 A8v (own_nar_ob H10) (y at_44) (fun T11 h11 X11 e11 W11 A11 => ?_)
  have SF12_a1 := Safe.wr W11 SF9_a1 CH9 SF9_a1
  have CH12 := CHv.wr W11 SF9_a1 CH9
  have N11 := Fr.snoc X11 N8 G1
  have Z11 : n0 ≤ h11.size := (by rw [W11.size]; exact Z8)
  have O13 := (O10.wr W11 G1)
  have A11v : Arv Z h11 a1 kc1 .char (5 : Int32) [(.int c0), (.int c1), (.int c2), (.int 0), (.int 0)] (.int 0) := A11
  refine og2 X11 hx (fun j _ k => o_aload j (y at_45) rfl rfl <| o_iconstV j 3 (y at_47) rfl <| o_iloadN j (y at_48) rfl <| o_sipushV j 255 (y at_49) rfl <| o_iand j (y at_52) <| o_i2cO j (y at_53) <| k) ?_
  rw [H5]
  refine sC (v := c3) 3 X11 hx hZ e11 A11v (own_nar_ob H11) (y at_54) (fun T14 h14 X14 e14 W14 A14 => ?_)
  have SF15_a1 := Safe.wr W14 SF12_a1 CH12 SF12_a1
  have CH15 := CHv.wr W14 SF12_a1 CH12
  have N14 := Fr.snoc X14 N11 G1
  have Z14 : n0 ≤ h14.size := (by rw [W14.size]; exact Z11)
  have O16 := (O13.wr W14 G1)
  have A14v : Arv Z h14 a1 kc1 .char (5 : Int32) [(.int c0), (.int c1), (.int c2), (.int c3), (.int 0)] (.int 0) := A14
  refine og2 X14 hx (fun j _ k => o_aload j (y at_55) rfl rfl <| o_iconstV j 4 (y at_57) rfl <| o_iload j (y at_58) rfl <| o_sipushV j 255 (y at_60) rfl <| o_iand j (y at_63) <| o_i2cO j (y at_64) <| k) ?_
  rw [H6]
  refine sC (v := c4) 4 X14 hx hZ e14 A14v (own_nar_ob H12) (y at_65) (fun T17 h17 X17 e17 W17 A17 => ?_)
  have CH18 := CHv.wr W17 SF15_a1 CH15
  have N17 := Fr.snoc X17 N14 G1
  have Z17 : n0 ≤ h17.size := (by rw [W17.size]; exact Z14)
  have O19 := (O16.wr W17 G1)
  refine og2 X17 hx (fun j _ k => o_iload j (y at_66) rfl <| k) ?_
  refine nP .char 0 "[C" X17 hx hZ (w 0 rfl) e17 (y at_68) (fun T20 h20 a20 kc20 g20 X20 e20 E20 A20 D20 => ?_)
  have Z20 : n0 ≤ h20.size := Nat.le_trans Z17 E20.1
  have CH21 := CHv.ext E20 CH18
  have O22 := (O19.ext E20)
  have A24 : Arv Z h20 a20 kc20 .char (0 : Int32) [] (.int 0) := (A20.pad (pad_rep [] _ 0))
  refine og2 X20 hx (fun j _ k => o_astore j (y at_70) rfl (l' := #[.val (.int p1), .val (.int p2), .val (.int p3), .val (.int p4), .val (.int p5), .val (.int p6), .val (.int 0), .val (.ref a1), .val (.ref a20), .unset, .unset, .unset]) rfl <| o_iload j (y at_72) rfl <| o_ifYes j (pc' := 85) (y at_74) (by decide) <| o_iload j (y at_85) rfl <| o_iconstV j 1 (y at_87) rfl <| o_icmpYes j (pc' := 99) (y at_88) (XT.ii_le_t (by decide)) <| o_iload j (y at_99) rfl <| o_iconstV j 2 (y at_101) rfl <| o_icmpYes j (pc' := 113) (y at_102) (XT.ii_le_t (by decide)) <| o_iload j (y at_113) rfl <| o_iconstV j 3 (y at_115) rfl <| o_icmpYes j (pc' := 127) (y at_116) (XT.ii_le_t (by decide)) <| o_iload j (y at_127) rfl <| o_iconstV j 4 (y at_129) rfl <| o_icmpYes j (pc' := 141) (y at_130) (XT.ii_le_t (by decide)) <| k) ?_
  refine nO X20 hx hZ hown (w 1 rfl) (w 2 rfl) (w 3 rfl) e20 (y at_141) (fun T25 h25 a25 g25 X25 e25 E25 A25 D25 => ?_)
  have Z25 : n0 ≤ h25.size := Nat.le_trans Z20 E25.1
  have G25 : n0 ≤ a25 := Nat.le_trans Z20 (Nat.le_of_eq g25.symm)
  have CH26 := CHv.ext E25 CH21
  have O27 := (O22.ext E25)
  have A29 := (A24.ext E25)
  have F30 : Fld Z h25 a25 "java/lang/String" "coder" "B" (.int 0) := (D25 (Or.inr (w 27 rfl)) (ty := .byte) (by decide))
  have F31 : Fld Z h25 a25 "java/lang/String" "value" "[B" .null := (D25 (Or.inr (w 29 rfl)) (ty := (.array .byte)) (by decide))
  refine og2 X25 hx (fun j _ k => o_dup j (y at_144) rfl <| o_aload j (y at_145) rfl rfl <| k) ?_
  refine cIH a25 [(.ref a20)] [(.ref a25)] 1 X25 hx hZ hown hS (Nat.le_trans (Nat.le_trans (Nat.le_trans (Nat.le_trans (Nat.le_trans (Nat.le_trans (Nat.le_trans (Nat.le_trans hkS E1.1) (Nat.le_of_eq W5.size.symm)) (Nat.le_of_eq W8.size.symm)) (Nat.le_of_eq W11.size.symm)) (Nat.le_of_eq W14.size.symm)) (Nat.le_of_eq W17.size.symm)) E20.1) E25.1) (w 4 rfl) (w 5 rfl) (w 3 rfl) (w 6 rfl) (own_EW hw) CH26 (rmI10 l Z a0 hw [] cs fm lo bl la lb li a25 a20 kc20 h25 n0 Z25 H0 O27 F31 F30 A25 A29 G25) e25 hml pd_oaCcV (y at_147) (fun v32 T32 L32 hQ32 X32 hS hZ hown CC32 => ?_)
  obtain ⟨b_32, bk_32, rfl, N32a, K32, Q32_0, Q32_1, Q32_2, Q32_3⟩ := hQ32
  have N32 := Fr.app N17 N32a
  have e32 : T32.heap = T32.heap := rfl
  have Z32 : n0 ≤ T32.heap.size := (Nat.le_trans Z25 K32.1)
  have O34 := (O27.keep K32 (allS G25 all0))
  have hkS : T32.heap.size ≤ T32.heap.size := Nat.le_refl _
  refine cSJ [(.ref a25)] [] 0 X32 hx hZ hown hS hkS (w 30 rfl) (w 31 rfl) (w 32 rfl) (w 33 rfl) (own_EW hw) CC32.1 (rmOF l Z a0 hw [] cs fm lo bl la lb li a25 b_32 bk_32 ([]) T32.heap n0 Z32 H0 O34 Q32_0 Q32_1 Q32_2 Q32_3 own_oln (Nat.le_of_ble_eq_true rfl)) e32 hml pd_oLjava_lang_StringscLjava_lang_Strings (y at_150) (fun v38 T38 L38 hQ38 X38 hS hZ hown => ?_)
  obtain ⟨r_38, rb_38, rbk_38, rfl, N38a, K38, Q38_0, Q38_1, Q38_2, Q38_3⟩ := hQ38
  have N38 := Fr.app N32 N38a
  have e38 : T38.heap = T38.heap := rfl
  have Z38 : n0 ≤ T38.heap.size := (Nat.le_trans Z32 K38.1)
  have O39 := (O34.keep K38 all0)
  have hkS : T38.heap.size ≤ T38.heap.size := Nat.le_refl _
  have AR47 : Arv Z T38.heap rb_38 rbk_38 .byte (own_ln ([(105 : Int32), (102 : Int32), (95 : Int32)])) (own_vb ([(105 : Int32), (102 : Int32), (95 : Int32)])) (.int 0) := Q38_3
  refine og2 X38 hx (fun j _ k => o_astore j (y at_153) rfl (l' := #[.val (.int p1), .val (.int p2), .val (.int p3), .val (.int p4), .val (.int p5), .val (.int p6), .val (.int 0), .val (.ref a1), .val (.ref a20), .val (.ref r_38), .unset, .unset]) rfl <| o_bipushV j 13 (y at_155) rfl <| k) ?_
  refine nP .char 13 "[C" X38 hx hZ (w 0 rfl) e38 (y at_157) (fun T48 h48 a48 kc48 g48 X48 e48 E48 A48 D48 => ?_)
  have Z48 : n0 ≤ h48.size := Nat.le_trans Z38 E48.1
  have G48 : n0 ≤ a48 := Nat.le_trans Z38 (Nat.le_of_eq g48.symm)
  have O49 := (O39.ext E48)
  have F57 := (Fld.ext E48 Q38_0)
  have F58 := (Fld.ext E48 Q38_1)
  have E59 := (Exa.ext E48 Q38_2)
  have A60 := (AR47.ext E48)
  have A61 : Arv Z h48 a48 kc48 .char (13 : Int32) [(.int 0), (.int 0), (.int 0), (.int 0), (.int 0), (.int 0), (.int 0), (.int 0), (.int 0), (.int 0), (.int 0), (.int 0), (.int 0)] (.int 0) := (A48.pad (pad_rep [] _ 13))
  refine og2 X48 hx (fun j _ k => o_astore j (y at_159) rfl (l' := #[.val (.int p1), .val (.int p2), .val (.int p3), .val (.int p4), .val (.int p5), .val (.int p6), .val (.int 0), .val (.ref a1), .val (.ref a20), .val (.ref r_38), .val (.ref a48), .unset]) rfl <| o_aload j (y at_161) rfl rfl <| o_iconstV j 0 (y at_163) rfl <| o_bipushV j 105 (y at_164) rfl <| k) ?_
  refine sC (v := (105 : Int32)) 0 X48 hx hZ e48 A61 (by decide) (y at_166) (fun T62 h62 X62 e62 W62 A62 => ?_)
  have N62 := Fr.snoc X62 N38 G48
  have Z62 : n0 ≤ h62.size := (by rw [W62.size]; exact Z48)
  have O63 := (O49.wr W62 G48)
  have F71 := (Fld.other W62 F57 (Or.inl (Nat.ne_of_lt (Nat.lt_of_lt_of_eq Q38_0.lt g48.symm))))
  have F72 := (Fld.other W62 F58 (Or.inl (Nat.ne_of_lt (Nat.lt_of_lt_of_eq Q38_0.lt g48.symm))))
  have E73 := (Exa.wr W62 E59)
  have A74 := (A60.other W62 (Nat.ne_of_lt (Nat.lt_of_lt_of_eq AR47.lt g48.symm)))
  have A62v : Arv Z h62 a48 kc48 .char (13 : Int32) [(.int 105), (.int 0), (.int 0), (.int 0), (.int 0), (.int 0), (.int 0), (.int 0), (.int 0), (.int 0), (.int 0), (.int 0), (.int 0)] (.int 0) := A62
  refine og2 X62 hx (fun j _ k => o_aload j (y at_167) rfl rfl <| o_iconstV j 1 (y at_169) rfl <| o_bipushV j 102 (y at_170) rfl <| k) ?_
  refine sC (v := (102 : Int32)) 1 X62 hx hZ e62 A62v (by decide) (y at_172) (fun T75 h75 X75 e75 W75 A75 => ?_)
  have N75 := Fr.snoc X75 N62 G48
  have Z75 : n0 ≤ h75.size := (by rw [W75.size]; exact Z62)
  have O76 := (O63.wr W75 G48)
  have F84 := (Fld.other W75 F71 (Or.inl (Nat.ne_of_lt (Nat.lt_of_lt_of_eq Q38_0.lt g48.symm))))
  have F85 := (Fld.other W75 F72 (Or.inl (Nat.ne_of_lt (Nat.lt_of_lt_of_eq Q38_0.lt g48.symm))))
  have E86 := (Exa.wr W75 E73)
  have A87 := (A74.other W75 (Nat.ne_of_lt (Nat.lt_of_lt_of_eq AR47.lt g48.symm)))
  have A75v : Arv Z h75 a48 kc48 .char (13 : Int32) [(.int 105), (.int 102), (.int 0), (.int 0), (.int 0), (.int 0), (.int 0), (.int 0), (.int 0), (.int 0), (.int 0), (.int 0), (.int 0)] (.int 0) := A75
  refine og2 X75 hx (fun j _ k => o_aload j (y at_173) rfl rfl <| o_iconstV j 2 (y at_175) rfl <| o_bipushV j 95 (y at_176) rfl <| k) ?_
  refine sC (v := (95 : Int32)) 2 X75 hx hZ e75 A75v (by decide) (y at_178) (fun T88 h88 X88 e88 W88 A88 => ?_)
  have N88 := Fr.snoc X88 N75 G48
  have Z88 : n0 ≤ h88.size := (by rw [W88.size]; exact Z75)
  have O89 := (O76.wr W88 G48)
  have F97 := (Fld.other W88 F84 (Or.inl (Nat.ne_of_lt (Nat.lt_of_lt_of_eq Q38_0.lt g48.symm))))
  have F98 := (Fld.other W88 F85 (Or.inl (Nat.ne_of_lt (Nat.lt_of_lt_of_eq Q38_0.lt g48.symm))))
  have E99 := (Exa.wr W88 E86)
  have A100 := (A87.other W88 (Nat.ne_of_lt (Nat.lt_of_lt_of_eq AR47.lt g48.symm)))
  have A88v : Arv Z h88 a48 kc48 .char (13 : Int32) [(.int 105), (.int 102), (.int 95), (.int 0), (.int 0), (.int 0), (.int 0), (.int 0), (.int 0), (.int 0), (.int 0), (.int 0), (.int 0)] (.int 0) := A88
  refine og2 X88 hx (fun j _ k => o_iconstV j 3 (y at_179) rfl <| o_istore j (y at_180) (l' := #[.val (.int p1), .val (.int p2), .val (.int p3), .val (.int p4), .val (.int p5), .val (.int p6), .val (.int 0), .val (.ref a1), .val (.ref a20), .val (.ref r_38), .val (.ref a48), .val (.int 3)]) rfl <| k) ?_
  have AO101 : Arv Z h88 a48 kc48 .char (13 : Int32) (own_pc ([(105 : Int32), (102 : Int32), (95 : Int32)])) (.int 0) := A88v
  refine og2 X88 hx (fun j _ k => o_aload j (y at_182) rfl rfl <| o_iload j (y at_184) rfl <| o_iconstV j 0 (y at_186) rfl <| o_aload j (y at_187) rfl rfl <| o_iload j (y at_189) rfl <| k) ?_
  refine cS [(.ref a1), (.int 0), (.int 0), (.ref a48), (.int 3)] [] 0 X88 hx hZ hown (w 192 rfl) (w 193 rfl) (w 194 rfl) (w 195 rfl) (rmPS l Z a0 hw [] a1 (0 : Int32) (0 : Int32) a48 (3 : Int32) h88 n0 Z88 (by decide)) e88 hml pd_oaCIIaCIcI (y at_191) (fun v102 T102 L102 hQ102 X102 => ?_)
  obtain ⟨rfl, N102a, eh102⟩ := hQ102
  have N102 := Fr.app N88 N102a
  have e102 : T102.heap = h88 := eh102
  refine og2 X102 hx (fun j _ k => o_istore j (y at_194) (l' := #[.val (.int p1), .val (.int p2), .val (.int p3), .val (.int p4), .val (.int p5), .val (.int p6), .val (.int 0), .val (.ref a1), .val (.ref a20), .val (.ref r_38), .val (.ref a48), .val (.int 3)]) rfl <| o_aload j (y at_196) rfl rfl <| o_iload j (y at_198) rfl <| o_iconstV j 1 (y at_200) rfl <| o_aload j (y at_201) rfl rfl <| o_iload j (y at_203) rfl <| k) ?_
  refine cS [(.ref a1), (.int 0), (.int 1), (.ref a48), (.int 3)] [] 0 X102 hx hZ hown (w 192 rfl) (w 193 rfl) (w 194 rfl) (w 195 rfl) (rmPS l Z a0 hw [] a1 (0 : Int32) (1 : Int32) a48 (3 : Int32) h88 n0 Z88 (by decide)) e102 hml pd_oaCIIaCIcI (y at_205) (fun v103 T103 L103 hQ103 X103 => ?_)
  obtain ⟨rfl, N103a, eh103⟩ := hQ103
  have N103 := Fr.app N102 N103a
  have e103 : T103.heap = h88 := eh103
  refine og2 X103 hx (fun j _ k => o_istore j (y at_208) (l' := #[.val (.int p1), .val (.int p2), .val (.int p3), .val (.int p4), .val (.int p5), .val (.int p6), .val (.int 0), .val (.ref a1), .val (.ref a20), .val (.ref r_38), .val (.ref a48), .val (.int 3)]) rfl <| o_aload j (y at_210) rfl rfl <| o_iload j (y at_212) rfl <| o_iconstV j 2 (y at_214) rfl <| o_aload j (y at_215) rfl rfl <| o_iload j (y at_217) rfl <| k) ?_
  refine cS [(.ref a1), (.int 0), (.int 2), (.ref a48), (.int 3)] [] 0 X103 hx hZ hown (w 192 rfl) (w 193 rfl) (w 194 rfl) (w 195 rfl) (rmPS l Z a0 hw [] a1 (0 : Int32) (2 : Int32) a48 (3 : Int32) h88 n0 Z88 (by decide)) e103 hml pd_oaCIIaCIcI (y at_219) (fun v104 T104 L104 hQ104 X104 => ?_)
  obtain ⟨rfl, N104a, eh104⟩ := hQ104
  have N104 := Fr.app N103 N104a
  have e104 : T104.heap = h88 := eh104
  refine og2 X104 hx (fun j _ k => o_istore j (y at_222) (l' := #[.val (.int p1), .val (.int p2), .val (.int p3), .val (.int p4), .val (.int p5), .val (.int p6), .val (.int 0), .val (.ref a1), .val (.ref a20), .val (.ref r_38), .val (.ref a48), .val (.int 3)]) rfl <| o_aload j (y at_224) rfl rfl <| o_iload j (y at_226) rfl <| o_iconstV j 3 (y at_228) rfl <| o_aload j (y at_229) rfl rfl <| o_iload j (y at_231) rfl <| k) ?_
  refine cS [(.ref a1), (.int 0), (.int 3), (.ref a48), (.int 3)] [] 0 X104 hx hZ hown (w 192 rfl) (w 193 rfl) (w 194 rfl) (w 195 rfl) (rmPS l Z a0 hw [] a1 (0 : Int32) (3 : Int32) a48 (3 : Int32) h88 n0 Z88 (by decide)) e104 hml pd_oaCIIaCIcI (y at_233) (fun v105 T105 L105 hQ105 X105 => ?_)
  obtain ⟨rfl, N105a, eh105⟩ := hQ105
  have N105 := Fr.app N104 N105a
  have e105 : T105.heap = h88 := eh105
  refine og2 X105 hx (fun j _ k => o_istore j (y at_236) (l' := #[.val (.int p1), .val (.int p2), .val (.int p3), .val (.int p4), .val (.int p5), .val (.int p6), .val (.int 0), .val (.ref a1), .val (.ref a20), .val (.ref r_38), .val (.ref a48), .val (.int 3)]) rfl <| o_aload j (y at_238) rfl rfl <| o_iload j (y at_240) rfl <| o_iconstV j 4 (y at_242) rfl <| o_aload j (y at_243) rfl rfl <| o_iload j (y at_245) rfl <| k) ?_
  refine cS [(.ref a1), (.int 0), (.int 4), (.ref a48), (.int 3)] [] 0 X105 hx hZ hown (w 192 rfl) (w 193 rfl) (w 194 rfl) (w 195 rfl) (rmPS l Z a0 hw [] a1 (0 : Int32) (4 : Int32) a48 (3 : Int32) h88 n0 Z88 (by decide)) e105 hml pd_oaCIIaCIcI (y at_247) (fun v106 T106 L106 hQ106 X106 => ?_)
  obtain ⟨rfl, N106a, eh106⟩ := hQ106
  have N106 := Fr.app N105 N106a
  have e106 : T106.heap = h88 := eh106
  refine og2 X106 hx (fun j _ k => o_istore j (y at_250) (l' := #[.val (.int p1), .val (.int p2), .val (.int p3), .val (.int p4), .val (.int p5), .val (.int p6), .val (.int 0), .val (.ref a1), .val (.ref a20), .val (.ref r_38), .val (.ref a48), .val (.int 3)]) rfl <| o_aload j (y at_252) rfl rfl <| k) ?_
  refine cV r_38 [] [] 0 X106 hx hZ hown (w 199 rfl) (w 69 rfl) (w 71 rfl) (w 70 rfl) (w 3 rfl) (w 72 rfl) (rmLE l Z a0 hw [] cs fm lo bl la lb li r_38 rb_38 rbk_38 (own_ln ([(105 : Int32), (102 : Int32), (95 : Int32)])) (own_vb ([(105 : Int32), (102 : Int32), (95 : Int32)])) h88 n0 Z88 H0 O89 F97 F98 E99 A100) e106 E99 hml pd_ocI (y at_254) (fun v107 T107 L107 hQ107 X107 => ?_)
  obtain ⟨rfl, N107a, eh107⟩ := hQ107
  have N107 := Fr.app N106 N107a
  have e107 : T107.heap = h88 := eh107
  refine og2 X107 hx (fun j _ k => o_iload j (y at_257) rfl <| o_icmpYes j (pc' := 264) (y at_259) (XT.ii_eq_t rfl) <| o_aload j (y at_264) rfl rfl <| o_aload j (y at_266) rfl rfl <| o_iload j (y at_268) rfl <| o_iconstV j 0 (y at_270) rfl <| k) ?_
  refine cS [(.ref r_38), (.ref a48), (.int 3), (.int 0)] [] 0 X107 hx hZ hown (w 200 rfl) (w 201 rfl) (w 194 rfl) (w 202 rfl) (rmEQ l Z a0 hw [] cs fm lo bl la lb li r_38 rb_38 rbk_38 a48 kc48 ([(105 : Int32), (102 : Int32), (95 : Int32)]) (0 : Int32) h88 n0 Z88 H0 O89 F97 F98 E99 A100 AO101 (own_olc ⟨by decide, by decide⟩ (own_olc ⟨by decide, by decide⟩ (own_olc ⟨by decide, by decide⟩ own_oln))) (by decide) (by decide)) e107 hml pd_oLjava_lang_StringsaCIIcZ (y at_271) (fun v108 T108 L108 hQ108 X108 => ?_)
  obtain ⟨rfl, N108a, eh108⟩ := hQ108
  have N108 := Fr.app N107 N108a
  have e108 : T108.heap = h88 := eh108
  refine og2 X108 hx (fun j _ k => o_ifNo j (y at_274) (by decide) <| o_aload j (y at_277) rfl rfl <| o_aload j (y at_279) rfl rfl <| o_iload j (y at_281) rfl <| o_iconstV j 1 (y at_283) rfl <| k) ?_
  refine cS [(.ref r_38), (.ref a48), (.int 3), (.int 1)] [] 0 X108 hx hZ hown (w 200 rfl) (w 201 rfl) (w 194 rfl) (w 202 rfl) (rmEQ l Z a0 hw [] cs fm lo bl la lb li r_38 rb_38 rbk_38 a48 kc48 ([(105 : Int32), (102 : Int32), (95 : Int32)]) (1 : Int32) h88 n0 Z88 H0 O89 F97 F98 E99 A100 AO101 (own_olc ⟨by decide, by decide⟩ (own_olc ⟨by decide, by decide⟩ (own_olc ⟨by decide, by decide⟩ own_oln))) (by decide) (by decide)) e108 hml pd_oLjava_lang_StringsaCIIcZ (y at_284) (fun v109 T109 L109 hQ109 X109 => ?_)
  obtain ⟨rfl, N109a, eh109⟩ := hQ109
  have N109 := Fr.app N108 N109a
  have e109 : T109.heap = h88 := eh109
  refine og2 X109 hx (fun j _ k => o_ifNo j (y at_287) (by decide) <| o_aload j (y at_290) rfl rfl <| o_aload j (y at_292) rfl rfl <| o_iload j (y at_294) rfl <| o_iconstV j 2 (y at_296) rfl <| k) ?_
  refine cS [(.ref r_38), (.ref a48), (.int 3), (.int 2)] [] 0 X109 hx hZ hown (w 200 rfl) (w 201 rfl) (w 194 rfl) (w 202 rfl) (rmEQ l Z a0 hw [] cs fm lo bl la lb li r_38 rb_38 rbk_38 a48 kc48 ([(105 : Int32), (102 : Int32), (95 : Int32)]) (2 : Int32) h88 n0 Z88 H0 O89 F97 F98 E99 A100 AO101 (own_olc ⟨by decide, by decide⟩ (own_olc ⟨by decide, by decide⟩ (own_olc ⟨by decide, by decide⟩ own_oln))) (by decide) (by decide)) e109 hml pd_oLjava_lang_StringsaCIIcZ (y at_297) (fun v110 T110 L110 hQ110 X110 => ?_)
  obtain ⟨rfl, N110a, eh110⟩ := hQ110
  have N110 := Fr.app N109 N110a
  have e110 : T110.heap = h88 := eh110
  refine og2 X110 hx (fun j _ k => o_ifNo j (y at_300) (by decide) <| o_aload j (y at_303) rfl rfl <| o_aload j (y at_305) rfl rfl <| o_iload j (y at_307) rfl <| o_iconstV j 3 (y at_309) rfl <| k) ?_
  refine cS [(.ref r_38), (.ref a48), (.int 3), (.int 3)] [] 0 X110 hx hZ hown (w 200 rfl) (w 201 rfl) (w 194 rfl) (w 202 rfl) (rmEQ l Z a0 hw [] cs fm lo bl la lb li r_38 rb_38 rbk_38 a48 kc48 ([(105 : Int32), (102 : Int32), (95 : Int32)]) (3 : Int32) h88 n0 Z88 H0 O89 F97 F98 E99 A100 AO101 (own_olc ⟨by decide, by decide⟩ (own_olc ⟨by decide, by decide⟩ (own_olc ⟨by decide, by decide⟩ own_oln))) (by decide) (by decide)) e110 hml pd_oLjava_lang_StringsaCIIcZ (y at_310) (fun v111 T111 L111 hQ111 X111 => ?_)
  obtain ⟨rfl, N111a, eh111⟩ := hQ111
  have N111 := Fr.app N110 N111a
  have e111 : T111.heap = h88 := eh111
  refine og2 X111 hx (fun j _ k => o_ifNo j (y at_313) (by decide) <| o_aload j (y at_316) rfl rfl <| o_aload j (y at_318) rfl rfl <| o_iload j (y at_320) rfl <| o_iconstV j 4 (y at_322) rfl <| k) ?_
  refine cS [(.ref r_38), (.ref a48), (.int 3), (.int 4)] [] 0 X111 hx hZ hown (w 200 rfl) (w 201 rfl) (w 194 rfl) (w 202 rfl) (rmEQ l Z a0 hw [] cs fm lo bl la lb li r_38 rb_38 rbk_38 a48 kc48 ([(105 : Int32), (102 : Int32), (95 : Int32)]) (4 : Int32) h88 n0 Z88 H0 O89 F97 F98 E99 A100 AO101 (own_olc ⟨by decide, by decide⟩ (own_olc ⟨by decide, by decide⟩ (own_olc ⟨by decide, by decide⟩ own_oln))) (by decide) (by decide)) e111 hml pd_oLjava_lang_StringsaCIIcZ (y at_323) (fun v112 T112 L112 hQ112 X112 => ?_)
  obtain ⟨rfl, N112a, eh112⟩ := hQ112
  have N112 := Fr.app N111 N112a
  have e112 : T112.heap = h88 := eh112
  refine og2 X112 hx (fun j _ k => o_ifNo j (y at_326) (by decide) <| o_aload j (y at_329) rfl rfl <| o_aload j (y at_331) rfl rfl <| o_iload j (y at_333) rfl <| o_iconstV j 5 (y at_335) rfl <| k) ?_
  refine cS [(.ref r_38), (.ref a48), (.int 3), (.int 5)] [] 0 X112 hx hZ hown (w 200 rfl) (w 201 rfl) (w 194 rfl) (w 202 rfl) (rmEQ l Z a0 hw [] cs fm lo bl la lb li r_38 rb_38 rbk_38 a48 kc48 ([(105 : Int32), (102 : Int32), (95 : Int32)]) (5 : Int32) h88 n0 Z88 H0 O89 F97 F98 E99 A100 AO101 (own_olc ⟨by decide, by decide⟩ (own_olc ⟨by decide, by decide⟩ (own_olc ⟨by decide, by decide⟩ own_oln))) (by decide) (by decide)) e112 hml pd_oLjava_lang_StringsaCIIcZ (y at_336) (fun v113 T113 L113 hQ113 X113 => ?_)
  obtain ⟨rfl, N113a, eh113⟩ := hQ113
  have N113 := Fr.app N112 N113a
  have e113 : T113.heap = h88 := eh113
  refine og2 X113 hx (fun j _ k => o_ifNo j (y at_339) (by decide) <| o_aload j (y at_342) rfl rfl <| o_aload j (y at_344) rfl rfl <| o_iload j (y at_346) rfl <| o_bipushV j 6 (y at_348) rfl <| k) ?_
  refine cS [(.ref r_38), (.ref a48), (.int 3), (.int 6)] [] 0 X113 hx hZ hown (w 200 rfl) (w 201 rfl) (w 194 rfl) (w 202 rfl) (rmEQ l Z a0 hw [] cs fm lo bl la lb li r_38 rb_38 rbk_38 a48 kc48 ([(105 : Int32), (102 : Int32), (95 : Int32)]) (6 : Int32) h88 n0 Z88 H0 O89 F97 F98 E99 A100 AO101 (own_olc ⟨by decide, by decide⟩ (own_olc ⟨by decide, by decide⟩ (own_olc ⟨by decide, by decide⟩ own_oln))) (by decide) (by decide)) e113 hml pd_oLjava_lang_StringsaCIIcZ (y at_350) (fun v114 T114 L114 hQ114 X114 => ?_)
  obtain ⟨rfl, N114a, eh114⟩ := hQ114
  have N114 := Fr.app N113 N114a
  have e114 : T114.heap = h88 := eh114
  refine og2 X114 hx (fun j _ k => o_ifNo j (y at_353) (by decide) <| o_aload j (y at_356) rfl rfl <| o_aload j (y at_358) rfl rfl <| o_iload j (y at_360) rfl <| o_bipushV j 7 (y at_362) rfl <| k) ?_
  refine cS [(.ref r_38), (.ref a48), (.int 3), (.int 7)] [] 0 X114 hx hZ hown (w 200 rfl) (w 201 rfl) (w 194 rfl) (w 202 rfl) (rmEQ l Z a0 hw [] cs fm lo bl la lb li r_38 rb_38 rbk_38 a48 kc48 ([(105 : Int32), (102 : Int32), (95 : Int32)]) (7 : Int32) h88 n0 Z88 H0 O89 F97 F98 E99 A100 AO101 (own_olc ⟨by decide, by decide⟩ (own_olc ⟨by decide, by decide⟩ (own_olc ⟨by decide, by decide⟩ own_oln))) (by decide) (by decide)) e114 hml pd_oLjava_lang_StringsaCIIcZ (y at_364) (fun v115 T115 L115 hQ115 X115 => ?_)
  obtain ⟨rfl, N115a, eh115⟩ := hQ115
  have N115 := Fr.app N114 N115a
  have e115 : T115.heap = h88 := eh115
  refine og2 X115 hx (fun j _ k => o_ifNo j (y at_367) (by decide) <| o_aload j (y at_370) rfl rfl <| o_aload j (y at_372) rfl rfl <| o_iload j (y at_374) rfl <| o_bipushV j 8 (y at_376) rfl <| k) ?_
  refine cS [(.ref r_38), (.ref a48), (.int 3), (.int 8)] [] 0 X115 hx hZ hown (w 200 rfl) (w 201 rfl) (w 194 rfl) (w 202 rfl) (rmEQ l Z a0 hw [] cs fm lo bl la lb li r_38 rb_38 rbk_38 a48 kc48 ([(105 : Int32), (102 : Int32), (95 : Int32)]) (8 : Int32) h88 n0 Z88 H0 O89 F97 F98 E99 A100 AO101 (own_olc ⟨by decide, by decide⟩ (own_olc ⟨by decide, by decide⟩ (own_olc ⟨by decide, by decide⟩ own_oln))) (by decide) (by decide)) e115 hml pd_oLjava_lang_StringsaCIIcZ (y at_378) (fun v116 T116 L116 hQ116 X116 => ?_)
  obtain ⟨rfl, N116a, eh116⟩ := hQ116
  have N116 := Fr.app N115 N116a
  have e116 : T116.heap = h88 := eh116
  refine og2 X116 hx (fun j _ k => o_ifNo j (y at_381) (by decide) <| o_aload j (y at_384) rfl rfl <| o_aload j (y at_386) rfl rfl <| o_iload j (y at_388) rfl <| o_bipushV j 9 (y at_390) rfl <| k) ?_
  refine cS [(.ref r_38), (.ref a48), (.int 3), (.int 9)] [] 0 X116 hx hZ hown (w 200 rfl) (w 201 rfl) (w 194 rfl) (w 202 rfl) (rmEQ l Z a0 hw [] cs fm lo bl la lb li r_38 rb_38 rbk_38 a48 kc48 ([(105 : Int32), (102 : Int32), (95 : Int32)]) (9 : Int32) h88 n0 Z88 H0 O89 F97 F98 E99 A100 AO101 (own_olc ⟨by decide, by decide⟩ (own_olc ⟨by decide, by decide⟩ (own_olc ⟨by decide, by decide⟩ own_oln))) (by decide) (by decide)) e116 hml pd_oLjava_lang_StringsaCIIcZ (y at_392) (fun v117 T117 L117 hQ117 X117 => ?_)
  obtain ⟨rfl, N117a, eh117⟩ := hQ117
  have N117 := Fr.app N116 N117a
  have e117 : T117.heap = h88 := eh117
  refine og2 X117 hx (fun j _ k => o_ifNo j (y at_395) (by decide) <| o_aload j (y at_398) rfl rfl <| o_aload j (y at_400) rfl rfl <| o_iload j (y at_402) rfl <| o_bipushV j 10 (y at_404) rfl <| k) ?_
  refine cS [(.ref r_38), (.ref a48), (.int 3), (.int 10)] [] 0 X117 hx hZ hown (w 200 rfl) (w 201 rfl) (w 194 rfl) (w 202 rfl) (rmEQ l Z a0 hw [] cs fm lo bl la lb li r_38 rb_38 rbk_38 a48 kc48 ([(105 : Int32), (102 : Int32), (95 : Int32)]) (10 : Int32) h88 n0 Z88 H0 O89 F97 F98 E99 A100 AO101 (own_olc ⟨by decide, by decide⟩ (own_olc ⟨by decide, by decide⟩ (own_olc ⟨by decide, by decide⟩ own_oln))) (by decide) (by decide)) e117 hml pd_oLjava_lang_StringsaCIIcZ (y at_406) (fun v118 T118 L118 hQ118 X118 => ?_)
  obtain ⟨rfl, N118a, eh118⟩ := hQ118
  have N118 := Fr.app N117 N118a
  have e118 : T118.heap = h88 := eh118
  refine og2 X118 hx (fun j _ k => o_ifNo j (y at_409) (by decide) <| o_aload j (y at_412) rfl rfl <| o_aload j (y at_414) rfl rfl <| o_iload j (y at_416) rfl <| o_bipushV j 11 (y at_418) rfl <| k) ?_
  refine cS [(.ref r_38), (.ref a48), (.int 3), (.int 11)] [] 0 X118 hx hZ hown (w 200 rfl) (w 201 rfl) (w 194 rfl) (w 202 rfl) (rmEQ l Z a0 hw [] cs fm lo bl la lb li r_38 rb_38 rbk_38 a48 kc48 ([(105 : Int32), (102 : Int32), (95 : Int32)]) (11 : Int32) h88 n0 Z88 H0 O89 F97 F98 E99 A100 AO101 (own_olc ⟨by decide, by decide⟩ (own_olc ⟨by decide, by decide⟩ (own_olc ⟨by decide, by decide⟩ own_oln))) (by decide) (by decide)) e118 hml pd_oLjava_lang_StringsaCIIcZ (y at_420) (fun v119 T119 L119 hQ119 X119 => ?_)
  obtain ⟨rfl, N119a, eh119⟩ := hQ119
  have N119 := Fr.app N118 N119a
  have e119 : T119.heap = h88 := eh119
  refine og2 X119 hx (fun j _ k => o_ifNo j (y at_423) (by decide) <| o_aload j (y at_426) rfl rfl <| o_aload j (y at_428) rfl rfl <| o_iload j (y at_430) rfl <| o_bipushV j 12 (y at_432) rfl <| k) ?_
  refine cS [(.ref r_38), (.ref a48), (.int 3), (.int 12)] [] 0 X119 hx hZ hown (w 200 rfl) (w 201 rfl) (w 194 rfl) (w 202 rfl) (rmEQ l Z a0 hw [] cs fm lo bl la lb li r_38 rb_38 rbk_38 a48 kc48 ([(105 : Int32), (102 : Int32), (95 : Int32)]) (12 : Int32) h88 n0 Z88 H0 O89 F97 F98 E99 A100 AO101 (own_olc ⟨by decide, by decide⟩ (own_olc ⟨by decide, by decide⟩ (own_olc ⟨by decide, by decide⟩ own_oln))) (by decide) (by decide)) e119 hml pd_oLjava_lang_StringsaCIIcZ (y at_434) (fun v120 T120 L120 hQ120 X120 => ?_)
  obtain ⟨rfl, N120a, eh120⟩ := hQ120
  have N120 := Fr.app N119 N120a
  have e120 : T120.heap = h88 := eh120
  refine og2 X120 hx (fun j _ k => o_ifNo j (y at_437) (by decide) <| o_iconstV j 1 (y at_440) rfl <| o_goto j (pc' := 445) (y at_441) <| k) ?_
  exact rNW (v := (1 : Int32)) X120 hx Bd hS (Nat.le_trans (Nat.le_trans (Nat.le_trans (Nat.le_trans hkS E48.1) (Nat.le_of_eq W62.size.symm)) (Nat.le_of_eq W75.size.symm)) (Nat.le_of_eq W88.size.symm)) (by simp) rfl (y at_445) e120 ⟨rfl, N120⟩

def Q0v1 (Z : State) (cs : Int32) (fm : Value) (lo : Addr) (bl : Addr) (la : Addr) (lb : Addr) (li : Addr) (p1 : Int32) (p2 : Int32) (p3 : Int32) (p4 : Int32) (p5 : Int32) (p6 : Int32) (c0 : Int32) (c1 : Int32) (c2 : Int32) (c3 : Int32) (c4 : Int32) (h0 : Heap) (n0 : Nat) (v : Option Value) (h : Heap) (L : List Loc) : Prop := v = some (.int 1) ∧ Fr n0 L
theorem rm0v1 (l : Launch) (Z : State) (a0 : Array Value) (hw : HW a0 Z) (ws : List Jvm.Cond) (cs : Int32) (fm : Value) (lo : Addr) (bl : Addr) (la : Addr) (lb : Addr) (li : Addr) (p1 : Int32) (p2 : Int32) (p3 : Int32) (p4 : Int32) (p5 : Int32) (p6 : Int32) (c0 : Int32) (c1 : Int32) (c2 : Int32) (c3 : Int32) (c4 : Int32) (h0 : Heap) (n0 : Nat) (Z0 : n0 ≤ h0.size) (H0 : OSt Z cs fm lo bl la lb li) (pr1 : Old Z n0 h0) (H2 : own_i2c (p1 &&& (255 : Int32)) = c0) (H3 : own_i2c (p2 &&& (255 : Int32)) = c1) (H4 : own_i2c (p3 &&& (255 : Int32)) = c2) (H5 : own_i2c (p4 &&& (255 : Int32)) = c3) (H6 : own_i2c (p5 &&& (255 : Int32)) = c4) (H7 : (p6 &&& (7 : Int32)) - ((p6 &&& (7 : Int32)) / (6 : Int32)) * (6 : Int32) = 1) (H8 : OB c0) (H9 : OB c1) (H10 : OB c2) (H11 : OB c3) (H12 : OB c4) :
    MetFree l x (head1 (Jvm.Cond.code x code maxLocals ret :: ws) room_1) (fun a U => a = #[(.int p1), (.int p2), (.int p3), (.int p4), (.int p5), (.int p6)] ∧ Z.Warmed39 U.vm ∧ U.heap = h0 ∧ CHv Z own_EL U.vm h0) (fun _ _ _ _ _ => True) (fun _ U o U' => ∃ v L, o = .returned v ∧ Q0v1 Z cs fm lo bl la lb li p1 p2 p3 p4 p5 p6 c0 c1 c2 c3 c4 h0 n0 v U'.heap L ∧ ReturnedEndW U o U' L room_1.cells room_1.slots) := by
  refine og_startH (plainFor_of_name pn_com_example_obieg_obieg_ChoiceIdOfPinLaw) fun p e s m below meth c s₁ Bd hx hby hml hZ hown hnm X0 e0 hS hkS hC0 => ?_
  have y := @hb _ _ hby
  have w := @wd _ _ hw
  refine og (fun t k => castTop (ef20 m p1 p2 p3 p4 p5 p6) k) ?_
  refine og2 X0 hx (fun j _ k => o_iload j (y at_0) rfl <| o_bipushV j 7 (y at_2) rfl <| o_iand j (y at_4) <| o_bipushV j 6 (y at_5) rfl <| o_irem j (y at_7) (by decide) <| k) ?_
  rw [H7]
  refine og2 X0 hx (fun j _ k => o_istore j (y at_8) (l' := #[.val (.int p1), .val (.int p2), .val (.int p3), .val (.int p4), .val (.int p5), .val (.int p6), .val (.int 1), .unset, .unset, .unset, .unset, .unset]) rfl <| o_iconstV j 5 (y at_10) rfl <| k) ?_
  refine nP .char 5 "[C" X0 hx hZ (w 0 rfl) e0 (y at_11) (fun T1 h1 a1 kc1 g1 X1 e1 E1 A1 D1 => ?_)
  have Z1 : n0 ≤ h1.size := Nat.le_trans Z0 E1.1
  have G1 : n0 ≤ a1 := Nat.le_trans Z0 (Nat.le_of_eq g1.symm)
  have CH2 := CHv.ext E1 hC0
  have O3 := (pr1.ext E1)
  have SF1_a1 := Safe.ext E1 hC0 (Safe.new (Nat.le_of_eq g1.symm))
  have A4 : Arv Z h1 a1 kc1 .char (5 : Int32) [(.int 0), (.int 0), (.int 0), (.int 0), (.int 0)] (.int 0) := (A1.pad (pad_rep [] _ 5))
  refine og2 X1 hx (fun j _ k => o_astore j (y at_13) rfl (l' := #[.val (.int p1), .val (.int p2), .val (.int p3), .val (.int p4), .val (.int p5), .val (.int p6), .val (.int 1), .val (.ref a1), .unset, .unset, .unset, .unset]) rfl <| o_aload j (y at_15) rfl rfl <| o_iconstV j 0 (y at_17) rfl <| o_iloadN j (y at_18) rfl <| o_sipushV j 255 (y at_19) rfl <| o_iand j (y at_22) <| o_i2cO j (y at_23) <| k) ?_
  rw [H2]
  refine sC (v := c0) 0 X1 hx hZ e1 A4 (own_nar_ob H8) (y at_24) (fun T5 h5 X5 e5 W5 A5 => ?_)
  have SF6_a1 := Safe.wr W5 SF1_a1 CH2 SF1_a1
  have CH6 := CHv.wr W5 SF1_a1 CH2
  have N5 := Fr.snoc X5 (Fr.nil n0) G1
  have Z5 : n0 ≤ h5.size := (by rw [W5.size]; exact Z1)
  have O7 := (O3.wr W5 G1)
  have A5v : Arv Z h5 a1 kc1 .char (5 : Int32) [(.int c0), (.int 0), (.int 0), (.int 0), (.int 0)] (.int 0) := A5
  refine og2 X5 hx (fun j _ k => o_aload j (y at_25) rfl rfl <| o_iconstV j 1 (y at_27) rfl <| o_iloadN j (y at_28) rfl <| o_sipushV j 255 (y at_29) rfl <| o_iand j (y at_32) <| o_i2cO j (y at_33) <| k) ?_
  rw [H3]
  refine sC (v := c1) 1 X5 hx hZ e5 A5v (own_nar_ob H9) (y at_34) (fun T8 h8 X8 e8 W8 A8 => ?_)
  have SF9_a1 := Safe.wr W8 SF6_a1 CH6 SF6_a1
  have CH9 := CHv.wr W8 SF6_a1 CH6
  have N8 := Fr.snoc X8 N5 G1
  have Z8 : n0 ≤ h8.size := (by rw [W8.size]; exact Z5)
  have O10 := (O7.wr W8 G1)
  have A8v : Arv Z h8 a1 kc1 .char (5 : Int32) [(.int c0), (.int c1), (.int 0), (.int 0), (.int 0)] (.int 0) := A8
  refine og2 X8 hx (fun j _ k => o_aload j (y at_35) rfl rfl <| o_iconstV j 2 (y at_37) rfl <| o_iloadN j (y at_38) rfl <| o_sipushV j 255 (y at_39) rfl <| o_iand j (y at_42) <| o_i2cO j (y at_43) <| k) ?_
  rw [H4]
  refine sC (v := c2) 2 X8 hx hZ e8 A8v (own_nar_ob H10) (y at_44) (fun T11 h11 X11 e11 W11 A11 => ?_)
  have SF12_a1 := Safe.wr W11 SF9_a1 CH9 SF9_a1
  have CH12 := CHv.wr W11 SF9_a1 CH9
  have N11 := Fr.snoc X11 N8 G1
  have Z11 : n0 ≤ h11.size := (by rw [W11.size]; exact Z8)
  have O13 := (O10.wr W11 G1)
  have A11v : Arv Z h11 a1 kc1 .char (5 : Int32) [(.int c0), (.int c1), (.int c2), (.int 0), (.int 0)] (.int 0) := A11
  refine og2 X11 hx (fun j _ k => o_aload j (y at_45) rfl rfl <| o_iconstV j 3 (y at_47) rfl <| o_iloadN j (y at_48) rfl <| o_sipushV j 255 (y at_49) rfl <| o_iand j (y at_52) <| o_i2cO j (y at_53) <| k) ?_
  rw [H5]
  refine sC (v := c3) 3 X11 hx hZ e11 A11v (own_nar_ob H11) (y at_54) (fun T14 h14 X14 e14 W14 A14 => ?_)
  have SF15_a1 := Safe.wr W14 SF12_a1 CH12 SF12_a1
  have CH15 := CHv.wr W14 SF12_a1 CH12
  have N14 := Fr.snoc X14 N11 G1
  have Z14 : n0 ≤ h14.size := (by rw [W14.size]; exact Z11)
  have O16 := (O13.wr W14 G1)
  have A14v : Arv Z h14 a1 kc1 .char (5 : Int32) [(.int c0), (.int c1), (.int c2), (.int c3), (.int 0)] (.int 0) := A14
  refine og2 X14 hx (fun j _ k => o_aload j (y at_55) rfl rfl <| o_iconstV j 4 (y at_57) rfl <| o_iload j (y at_58) rfl <| o_sipushV j 255 (y at_60) rfl <| o_iand j (y at_63) <| o_i2cO j (y at_64) <| k) ?_
  rw [H6]
  refine sC (v := c4) 4 X14 hx hZ e14 A14v (own_nar_ob H12) (y at_65) (fun T17 h17 X17 e17 W17 A17 => ?_)
  have CH18 := CHv.wr W17 SF15_a1 CH15
  have N17 := Fr.snoc X17 N14 G1
  have Z17 : n0 ≤ h17.size := (by rw [W17.size]; exact Z14)
  have O19 := (O16.wr W17 G1)
  have A17v : Arv Z h17 a1 kc1 .char (5 : Int32) [(.int c0), (.int c1), (.int c2), (.int c3), (.int c4)] (.int 0) := A17
  refine og2 X17 hx (fun j _ k => o_iload j (y at_66) rfl <| k) ?_
  refine nP .char 1 "[C" X17 hx hZ (w 0 rfl) e17 (y at_68) (fun T20 h20 a20 kc20 g20 X20 e20 E20 A20 D20 => ?_)
  have Z20 : n0 ≤ h20.size := Nat.le_trans Z17 E20.1
  have G20 : n0 ≤ a20 := Nat.le_trans Z17 (Nat.le_of_eq g20.symm)
  have CH21 := CHv.ext E20 CH18
  have O22 := (O19.ext E20)
  have A23 := (A17v.ext E20)
  have SF20_a20 := Safe.ext E20 CH18 (Safe.new (Nat.le_of_eq g20.symm))
  have A24 : Arv Z h20 a20 kc20 .char (1 : Int32) [(.int 0)] (.int 0) := (A20.pad (pad_rep [] _ 1))
  refine og2 X20 hx (fun j _ k => o_astore j (y at_70) rfl (l' := #[.val (.int p1), .val (.int p2), .val (.int p3), .val (.int p4), .val (.int p5), .val (.int p6), .val (.int 1), .val (.ref a1), .val (.ref a20), .unset, .unset, .unset]) rfl <| o_iload j (y at_72) rfl <| o_ifNo j (y at_74) (by decide) <| o_aload j (y at_77) rfl rfl <| o_iconstV j 0 (y at_79) rfl <| o_aload j (y at_80) rfl rfl <| o_iconstV j 0 (y at_82) rfl <| o_caload (v := (.int c0)) X20 hx hZ e20 A23 ⟨by decide, by decide⟩ rfl (y at_83) <| k) ?_
  refine sC (v := c0) 0 X20 hx hZ e20 A24 (own_nar_ob H8) (y at_84) (fun T25 h25 X25 e25 W25 A25 => ?_)
  have CH26 := CHv.wr W25 SF20_a20 CH21
  have N25 := Fr.snoc X25 N17 G20
  have Z25 : n0 ≤ h25.size := (by rw [W25.size]; exact Z20)
  have O27 := (O22.wr W25 G20)
  have A28 := (A23.other W25 (Nat.ne_of_lt (Nat.lt_of_lt_of_eq A17v.lt g20.symm)))
  have A25v : Arv Z h25 a20 kc20 .char (1 : Int32) [(.int c0)] (.int 0) := A25
  refine og2 X25 hx (fun j _ k => o_iload j (y at_85) rfl <| o_iconstV j 1 (y at_87) rfl <| o_icmpYes j (pc' := 99) (y at_88) (XT.ii_le_t (by decide)) <| o_iload j (y at_99) rfl <| o_iconstV j 2 (y at_101) rfl <| o_icmpYes j (pc' := 113) (y at_102) (XT.ii_le_t (by decide)) <| o_iload j (y at_113) rfl <| o_iconstV j 3 (y at_115) rfl <| o_icmpYes j (pc' := 127) (y at_116) (XT.ii_le_t (by decide)) <| o_iload j (y at_127) rfl <| o_iconstV j 4 (y at_129) rfl <| o_icmpYes j (pc' := 141) (y at_130) (XT.ii_le_t (by decide)) <| k) ?_
  refine nO X25 hx hZ hown (w 1 rfl) (w 2 rfl) (w 3 rfl) e25 (y at_141) (fun T29 h29 a29 g29 X29 e29 E29 A29 D29 => ?_)
  have Z29 : n0 ≤ h29.size := Nat.le_trans Z25 E29.1
  have G29 : n0 ≤ a29 := Nat.le_trans Z25 (Nat.le_of_eq g29.symm)
  have CH30 := CHv.ext E29 CH26
  have O31 := (O27.ext E29)
  have A32 := (A28.ext E29)
  have A33 := (A25v.ext E29)
  have SF29_a29 := Safe.ext E29 CH26 (Safe.new (Nat.le_of_eq g29.symm))
  have F34 : Fld Z h29 a29 "java/lang/String" "coder" "B" (.int 0) := (D29 (Or.inr (w 27 rfl)) (ty := .byte) (by decide))
  have F35 : Fld Z h29 a29 "java/lang/String" "value" "[B" .null := (D29 (Or.inr (w 29 rfl)) (ty := (.array .byte)) (by decide))
  refine og2 X29 hx (fun j _ k => o_dup j (y at_144) rfl <| o_aload j (y at_145) rfl rfl <| k) ?_
  refine cI a29 [(.ref a20)] [(.ref a29)] 1 X29 hx hZ hown (w 4 rfl) (w 5 rfl) (w 3 rfl) (w 6 rfl) (rmI11 l Z a0 hw [] cs fm lo bl la lb li a29 a20 kc20 ([c0]) h29 n0 Z29 H0 O31 F35 F34 A29 A33 G29 (own_olc H8 own_oln) (Nat.le_of_ble_eq_true rfl) (show ¬ ((1 : Int32) = 0) from by decide)) e29 hml pd_oaCcV (y at_147) (fun v36 T36 L36 hQ36 X36 => ?_)
  obtain ⟨b_36, bk_36, rfl, N36a, K36, Q36_0, Q36_1, Q36_2, Q36_3⟩ := hQ36
  have N36 := Fr.app N25 N36a
  have e36 : T36.heap = T36.heap := rfl
  have Z36 : n0 ≤ T36.heap.size := (Nat.le_trans Z29 K36.1)
  have CH37 := CHv.keep K36 (allS SF29_a29 all0) CH30
  have O38 := (O31.keep K36 (allS G29 all0))
  have A39 := (A32.keep K36 (ninS (Nat.ne_of_lt (Nat.lt_of_lt_of_eq A28.lt g29.symm)) nin0))
  refine cSJ [(.ref a29)] [] 0 X36 hx hZ hown hS (Nat.le_trans (Nat.le_trans (Nat.le_trans (Nat.le_trans (Nat.le_trans (Nat.le_trans (Nat.le_trans (Nat.le_trans (Nat.le_trans (Nat.le_trans hkS E1.1) (Nat.le_of_eq W5.size.symm)) (Nat.le_of_eq W8.size.symm)) (Nat.le_of_eq W11.size.symm)) (Nat.le_of_eq W14.size.symm)) (Nat.le_of_eq W17.size.symm)) E20.1) (Nat.le_of_eq W25.size.symm)) E29.1) K36.1) (w 30 rfl) (w 31 rfl) (w 32 rfl) (w 33 rfl) (own_EW hw) CH37 (rmOF l Z a0 hw [] cs fm lo bl la lb li a29 b_36 bk_36 ([c0]) T36.heap n0 Z36 H0 O38 Q36_0 Q36_1 Q36_2 Q36_3 (own_olc H8 own_oln) (Nat.le_of_ble_eq_true rfl)) e36 hml pd_oLjava_lang_StringscLjava_lang_Strings (y at_150) (fun v42 T42 L42 hQ42 X42 hS hZ hown => ?_)
  obtain ⟨r_42, rb_42, rbk_42, rfl, N42a, K42, Q42_0, Q42_1, Q42_2, Q42_3⟩ := hQ42
  have N42 := Fr.app N36 N42a
  have e42 : T42.heap = T42.heap := rfl
  have Z42 : n0 ≤ T42.heap.size := (Nat.le_trans Z36 K42.1)
  have O43 := (O38.keep K42 all0)
  have A44 := (A39.keep K42 nin0)
  have hkS : T42.heap.size ≤ T42.heap.size := Nat.le_refl _
  have AR51 : Arv Z T42.heap rb_42 rbk_42 .byte (own_ln (own_nx ([(105 : Int32), (102 : Int32), (95 : Int32)]) (0 : Int32) (own_low c0))) (own_vb (own_nx ([(105 : Int32), (102 : Int32), (95 : Int32)]) (0 : Int32) (own_low c0))) (.int 0) := Q42_3
  refine og2 X42 hx (fun j _ k => o_astore j (y at_153) rfl (l' := #[.val (.int p1), .val (.int p2), .val (.int p3), .val (.int p4), .val (.int p5), .val (.int p6), .val (.int 1), .val (.ref a1), .val (.ref a20), .val (.ref r_42), .unset, .unset]) rfl <| o_bipushV j 13 (y at_155) rfl <| k) ?_
  refine nP .char 13 "[C" X42 hx hZ (w 0 rfl) e42 (y at_157) (fun T52 h52 a52 kc52 g52 X52 e52 E52 A52 D52 => ?_)
  have Z52 : n0 ≤ h52.size := Nat.le_trans Z42 E52.1
  have G52 : n0 ≤ a52 := Nat.le_trans Z42 (Nat.le_of_eq g52.symm)
  have O53 := (O43.ext E52)
  have A54 := (A44.ext E52)
  have F61 := (Fld.ext E52 Q42_0)
  have F62 := (Fld.ext E52 Q42_1)
  have E63 := (Exa.ext E52 Q42_2)
  have A64 := (AR51.ext E52)
  have A65 : Arv Z h52 a52 kc52 .char (13 : Int32) [(.int 0), (.int 0), (.int 0), (.int 0), (.int 0), (.int 0), (.int 0), (.int 0), (.int 0), (.int 0), (.int 0), (.int 0), (.int 0)] (.int 0) := (A52.pad (pad_rep [] _ 13))
  refine og2 X52 hx (fun j _ k => o_astore j (y at_159) rfl (l' := #[.val (.int p1), .val (.int p2), .val (.int p3), .val (.int p4), .val (.int p5), .val (.int p6), .val (.int 1), .val (.ref a1), .val (.ref a20), .val (.ref r_42), .val (.ref a52), .unset]) rfl <| o_aload j (y at_161) rfl rfl <| o_iconstV j 0 (y at_163) rfl <| o_bipushV j 105 (y at_164) rfl <| k) ?_
  refine sC (v := (105 : Int32)) 0 X52 hx hZ e52 A65 (by decide) (y at_166) (fun T66 h66 X66 e66 W66 A66 => ?_)
  have N66 := Fr.snoc X66 N42 G52
  have Z66 : n0 ≤ h66.size := (by rw [W66.size]; exact Z52)
  have O67 := (O53.wr W66 G52)
  have A68 := (A54.other W66 (Nat.ne_of_lt (Nat.lt_of_lt_of_eq A44.lt g52.symm)))
  have F75 := (Fld.other W66 F61 (Or.inl (Nat.ne_of_lt (Nat.lt_of_lt_of_eq Q42_0.lt g52.symm))))
  have F76 := (Fld.other W66 F62 (Or.inl (Nat.ne_of_lt (Nat.lt_of_lt_of_eq Q42_0.lt g52.symm))))
  have E77 := (Exa.wr W66 E63)
  have A78 := (A64.other W66 (Nat.ne_of_lt (Nat.lt_of_lt_of_eq AR51.lt g52.symm)))
  have A66v : Arv Z h66 a52 kc52 .char (13 : Int32) [(.int 105), (.int 0), (.int 0), (.int 0), (.int 0), (.int 0), (.int 0), (.int 0), (.int 0), (.int 0), (.int 0), (.int 0), (.int 0)] (.int 0) := A66
  refine og2 X66 hx (fun j _ k => o_aload j (y at_167) rfl rfl <| o_iconstV j 1 (y at_169) rfl <| o_bipushV j 102 (y at_170) rfl <| k) ?_
  refine sC (v := (102 : Int32)) 1 X66 hx hZ e66 A66v (by decide) (y at_172) (fun T79 h79 X79 e79 W79 A79 => ?_)
  have N79 := Fr.snoc X79 N66 G52
  have Z79 : n0 ≤ h79.size := (by rw [W79.size]; exact Z66)
  have O80 := (O67.wr W79 G52)
  have A81 := (A68.other W79 (Nat.ne_of_lt (Nat.lt_of_lt_of_eq A44.lt g52.symm)))
  have F88 := (Fld.other W79 F75 (Or.inl (Nat.ne_of_lt (Nat.lt_of_lt_of_eq Q42_0.lt g52.symm))))
  have F89 := (Fld.other W79 F76 (Or.inl (Nat.ne_of_lt (Nat.lt_of_lt_of_eq Q42_0.lt g52.symm))))
  have E90 := (Exa.wr W79 E77)
  have A91 := (A78.other W79 (Nat.ne_of_lt (Nat.lt_of_lt_of_eq AR51.lt g52.symm)))
  have A79v : Arv Z h79 a52 kc52 .char (13 : Int32) [(.int 105), (.int 102), (.int 0), (.int 0), (.int 0), (.int 0), (.int 0), (.int 0), (.int 0), (.int 0), (.int 0), (.int 0), (.int 0)] (.int 0) := A79
  refine og2 X79 hx (fun j _ k => o_aload j (y at_173) rfl rfl <| o_iconstV j 2 (y at_175) rfl <| o_bipushV j 95 (y at_176) rfl <| k) ?_
  refine sC (v := (95 : Int32)) 2 X79 hx hZ e79 A79v (by decide) (y at_178) (fun T92 h92 X92 e92 W92 A92 => ?_)
  have N92 := Fr.snoc X92 N79 G52
  have Z92 : n0 ≤ h92.size := (by rw [W92.size]; exact Z79)
  have O93 := (O80.wr W92 G52)
  have A94 := (A81.other W92 (Nat.ne_of_lt (Nat.lt_of_lt_of_eq A44.lt g52.symm)))
  have F101 := (Fld.other W92 F88 (Or.inl (Nat.ne_of_lt (Nat.lt_of_lt_of_eq Q42_0.lt g52.symm))))
  have F102 := (Fld.other W92 F89 (Or.inl (Nat.ne_of_lt (Nat.lt_of_lt_of_eq Q42_0.lt g52.symm))))
  have E103 := (Exa.wr W92 E90)
  have A104 := (A91.other W92 (Nat.ne_of_lt (Nat.lt_of_lt_of_eq AR51.lt g52.symm)))
  have A92v : Arv Z h92 a52 kc52 .char (13 : Int32) [(.int 105), (.int 102), (.int 95), (.int 0), (.int 0), (.int 0), (.int 0), (.int 0), (.int 0), (.int 0), (.int 0), (.int 0), (.int 0)] (.int 0) := A92
  refine og2 X92 hx (fun j _ k => o_iconstV j 3 (y at_179) rfl <| o_istore j (y at_180) (l' := #[.val (.int p1), .val (.int p2), .val (.int p3), .val (.int p4), .val (.int p5), .val (.int p6), .val (.int 1), .val (.ref a1), .val (.ref a20), .val (.ref r_42), .val (.ref a52), .val (.int 3)]) rfl <| k) ?_
  have AO105 : Arv Z h92 a52 kc52 .char (13 : Int32) (own_pc ([(105 : Int32), (102 : Int32), (95 : Int32)])) (.int 0) := A92v
  refine og2 X92 hx (fun j _ k => o_aload j (y at_182) rfl rfl <| o_iload j (y at_184) rfl <| o_iconstV j 0 (y at_186) rfl <| o_aload j (y at_187) rfl rfl <| o_iload j (y at_189) rfl <| k) ?_
  refine cS [(.ref a1), (.int 1), (.int 0), (.ref a52), (.int 3)] [] 0 X92 hx hZ hown (w 192 rfl) (w 193 rfl) (w 194 rfl) (w 195 rfl) (rmPU0 l Z a0 hw [] a1 kc1 a52 kc52 (1 : Int32) c0 c1 c2 c3 c4 ([(105 : Int32), (102 : Int32), (95 : Int32)]) h92 n0 Z92 A94 AO105 G52 (by decide) (Nat.lt_of_le_of_lt (Nat.le_of_ble_eq_true rfl : [(105 : Int32), (102 : Int32), (95 : Int32)].length ≤ 3) (by decide)) H8 (Nat.ne_of_lt (Nat.lt_of_lt_of_eq A44.lt g52.symm))) e92 hml pd_oaCIIaCIcI (y at_191) (fun v106 T106 L106 hQ106 X106 => ?_)
  obtain ⟨rfl, N106a, K106, Q106_0⟩ := hQ106
  have N106 := Fr.app N92 N106a
  have e106 : T106.heap = T106.heap := rfl
  have Z106 : n0 ≤ T106.heap.size := (Nat.le_trans Z92 K106.1)
  have O107 := (O93.keep K106 (allS G52 all0))
  have F115 := (F101.keep K106 (ninS (Nat.ne_of_lt (Nat.lt_of_lt_of_eq Q42_0.lt g52.symm)) nin0))
  have F116 := (F102.keep K106 (ninS (Nat.ne_of_lt (Nat.lt_of_lt_of_eq Q42_0.lt g52.symm)) nin0))
  have E117 := (E103.keep K106)
  have A118 := (A104.keep K106 (ninS (Nat.ne_of_lt (Nat.lt_of_lt_of_eq AR51.lt g52.symm)) nin0))
  refine og2 X106 hx (fun j _ k => o_istore j (y at_194) (l' := #[.val (.int p1), .val (.int p2), .val (.int p3), .val (.int p4), .val (.int p5), .val (.int p6), .val (.int 1), .val (.ref a1), .val (.ref a20), .val (.ref r_42), .val (.ref a52), .val (.int (own_ln (own_nx ([(105 : Int32), (102 : Int32), (95 : Int32)]) (0 : Int32) (own_low c0))))]) rfl <| o_aload j (y at_196) rfl rfl <| o_iload j (y at_198) rfl <| o_iconstV j 1 (y at_200) rfl <| o_aload j (y at_201) rfl rfl <| o_iload j (y at_203) rfl <| k) ?_
  refine cS [(.ref a1), (.int 1), (.int 1), (.ref a52), (.int (own_ln (own_nx ([(105 : Int32), (102 : Int32), (95 : Int32)]) (0 : Int32) (own_low c0))))] [] 0 X106 hx hZ hown (w 192 rfl) (w 193 rfl) (w 194 rfl) (w 195 rfl) (rmPS l Z a0 hw [] a1 (1 : Int32) (1 : Int32) a52 (own_ln (own_nx ([(105 : Int32), (102 : Int32), (95 : Int32)]) (0 : Int32) (own_low c0))) T106.heap n0 Z106 (by decide)) e106 hml pd_oaCIIaCIcI (y at_205) (fun v119 T119 L119 hQ119 X119 => ?_)
  obtain ⟨rfl, N119a, eh119⟩ := hQ119
  have N119 := Fr.app N106 N119a
  have e119 : T119.heap = T106.heap := eh119
  refine og2 X119 hx (fun j _ k => o_istore j (y at_208) (l' := #[.val (.int p1), .val (.int p2), .val (.int p3), .val (.int p4), .val (.int p5), .val (.int p6), .val (.int 1), .val (.ref a1), .val (.ref a20), .val (.ref r_42), .val (.ref a52), .val (.int (own_ln (own_nx ([(105 : Int32), (102 : Int32), (95 : Int32)]) (0 : Int32) (own_low c0))))]) rfl <| o_aload j (y at_210) rfl rfl <| o_iload j (y at_212) rfl <| o_iconstV j 2 (y at_214) rfl <| o_aload j (y at_215) rfl rfl <| o_iload j (y at_217) rfl <| k) ?_
  refine cS [(.ref a1), (.int 1), (.int 2), (.ref a52), (.int (own_ln (own_nx ([(105 : Int32), (102 : Int32), (95 : Int32)]) (0 : Int32) (own_low c0))))] [] 0 X119 hx hZ hown (w 192 rfl) (w 193 rfl) (w 194 rfl) (w 195 rfl) (rmPS l Z a0 hw [] a1 (1 : Int32) (2 : Int32) a52 (own_ln (own_nx ([(105 : Int32), (102 : Int32), (95 : Int32)]) (0 : Int32) (own_low c0))) T106.heap n0 Z106 (by decide)) e119 hml pd_oaCIIaCIcI (y at_219) (fun v120 T120 L120 hQ120 X120 => ?_)
  obtain ⟨rfl, N120a, eh120⟩ := hQ120
  have N120 := Fr.app N119 N120a
  have e120 : T120.heap = T106.heap := eh120
  refine og2 X120 hx (fun j _ k => o_istore j (y at_222) (l' := #[.val (.int p1), .val (.int p2), .val (.int p3), .val (.int p4), .val (.int p5), .val (.int p6), .val (.int 1), .val (.ref a1), .val (.ref a20), .val (.ref r_42), .val (.ref a52), .val (.int (own_ln (own_nx ([(105 : Int32), (102 : Int32), (95 : Int32)]) (0 : Int32) (own_low c0))))]) rfl <| o_aload j (y at_224) rfl rfl <| o_iload j (y at_226) rfl <| o_iconstV j 3 (y at_228) rfl <| o_aload j (y at_229) rfl rfl <| o_iload j (y at_231) rfl <| k) ?_
  refine cS [(.ref a1), (.int 1), (.int 3), (.ref a52), (.int (own_ln (own_nx ([(105 : Int32), (102 : Int32), (95 : Int32)]) (0 : Int32) (own_low c0))))] [] 0 X120 hx hZ hown (w 192 rfl) (w 193 rfl) (w 194 rfl) (w 195 rfl) (rmPS l Z a0 hw [] a1 (1 : Int32) (3 : Int32) a52 (own_ln (own_nx ([(105 : Int32), (102 : Int32), (95 : Int32)]) (0 : Int32) (own_low c0))) T106.heap n0 Z106 (by decide)) e120 hml pd_oaCIIaCIcI (y at_233) (fun v121 T121 L121 hQ121 X121 => ?_)
  obtain ⟨rfl, N121a, eh121⟩ := hQ121
  have N121 := Fr.app N120 N121a
  have e121 : T121.heap = T106.heap := eh121
  refine og2 X121 hx (fun j _ k => o_istore j (y at_236) (l' := #[.val (.int p1), .val (.int p2), .val (.int p3), .val (.int p4), .val (.int p5), .val (.int p6), .val (.int 1), .val (.ref a1), .val (.ref a20), .val (.ref r_42), .val (.ref a52), .val (.int (own_ln (own_nx ([(105 : Int32), (102 : Int32), (95 : Int32)]) (0 : Int32) (own_low c0))))]) rfl <| o_aload j (y at_238) rfl rfl <| o_iload j (y at_240) rfl <| o_iconstV j 4 (y at_242) rfl <| o_aload j (y at_243) rfl rfl <| o_iload j (y at_245) rfl <| k) ?_
  refine cS [(.ref a1), (.int 1), (.int 4), (.ref a52), (.int (own_ln (own_nx ([(105 : Int32), (102 : Int32), (95 : Int32)]) (0 : Int32) (own_low c0))))] [] 0 X121 hx hZ hown (w 192 rfl) (w 193 rfl) (w 194 rfl) (w 195 rfl) (rmPS l Z a0 hw [] a1 (1 : Int32) (4 : Int32) a52 (own_ln (own_nx ([(105 : Int32), (102 : Int32), (95 : Int32)]) (0 : Int32) (own_low c0))) T106.heap n0 Z106 (by decide)) e121 hml pd_oaCIIaCIcI (y at_247) (fun v122 T122 L122 hQ122 X122 => ?_)
  obtain ⟨rfl, N122a, eh122⟩ := hQ122
  have N122 := Fr.app N121 N122a
  have e122 : T122.heap = T106.heap := eh122
  refine og2 X122 hx (fun j _ k => o_istore j (y at_250) (l' := #[.val (.int p1), .val (.int p2), .val (.int p3), .val (.int p4), .val (.int p5), .val (.int p6), .val (.int 1), .val (.ref a1), .val (.ref a20), .val (.ref r_42), .val (.ref a52), .val (.int (own_ln (own_nx ([(105 : Int32), (102 : Int32), (95 : Int32)]) (0 : Int32) (own_low c0))))]) rfl <| o_aload j (y at_252) rfl rfl <| k) ?_
  refine cV r_42 [] [] 0 X122 hx hZ hown (w 199 rfl) (w 69 rfl) (w 71 rfl) (w 70 rfl) (w 3 rfl) (w 72 rfl) (rmLE l Z a0 hw [] cs fm lo bl la lb li r_42 rb_42 rbk_42 (own_ln (own_nx ([(105 : Int32), (102 : Int32), (95 : Int32)]) (0 : Int32) (own_low c0))) (own_vb (own_nx ([(105 : Int32), (102 : Int32), (95 : Int32)]) (0 : Int32) (own_low c0))) T106.heap n0 Z106 H0 O107 F115 F116 E117 A118) e122 E117 hml pd_ocI (y at_254) (fun v123 T123 L123 hQ123 X123 => ?_)
  obtain ⟨rfl, N123a, eh123⟩ := hQ123
  have N123 := Fr.app N122 N123a
  have e123 : T123.heap = T106.heap := eh123
  refine og2 X123 hx (fun j _ k => o_iload j (y at_257) rfl <| o_icmpYes j (pc' := 264) (y at_259) (XT.ii_eq_t rfl) <| o_aload j (y at_264) rfl rfl <| o_aload j (y at_266) rfl rfl <| o_iload j (y at_268) rfl <| o_iconstV j 0 (y at_270) rfl <| k) ?_
  refine cS [(.ref r_42), (.ref a52), (.int (own_ln (own_nx ([(105 : Int32), (102 : Int32), (95 : Int32)]) (0 : Int32) (own_low c0)))), (.int 0)] [] 0 X123 hx hZ hown (w 200 rfl) (w 201 rfl) (w 194 rfl) (w 202 rfl) (rmEQ l Z a0 hw [] cs fm lo bl la lb li r_42 rb_42 rbk_42 a52 kc52 (own_nx ([(105 : Int32), (102 : Int32), (95 : Int32)]) (0 : Int32) (own_low c0)) (0 : Int32) T106.heap n0 Z106 H0 O107 F115 F116 E117 A118 Q106_0 (own_nx_ob (own_olc ⟨by decide, by decide⟩ (own_olc ⟨by decide, by decide⟩ (own_olc ⟨by decide, by decide⟩ own_oln))) (own_low_ob H8)) (by decide) (by decide)) e123 hml pd_oLjava_lang_StringsaCIIcZ (y at_271) (fun v124 T124 L124 hQ124 X124 => ?_)
  obtain ⟨rfl, N124a, eh124⟩ := hQ124
  have N124 := Fr.app N123 N124a
  have e124 : T124.heap = T106.heap := eh124
  refine og2 X124 hx (fun j _ k => o_ifNo j (y at_274) (by decide) <| o_aload j (y at_277) rfl rfl <| o_aload j (y at_279) rfl rfl <| o_iload j (y at_281) rfl <| o_iconstV j 1 (y at_283) rfl <| k) ?_
  refine cS [(.ref r_42), (.ref a52), (.int (own_ln (own_nx ([(105 : Int32), (102 : Int32), (95 : Int32)]) (0 : Int32) (own_low c0)))), (.int 1)] [] 0 X124 hx hZ hown (w 200 rfl) (w 201 rfl) (w 194 rfl) (w 202 rfl) (rmEQ l Z a0 hw [] cs fm lo bl la lb li r_42 rb_42 rbk_42 a52 kc52 (own_nx ([(105 : Int32), (102 : Int32), (95 : Int32)]) (0 : Int32) (own_low c0)) (1 : Int32) T106.heap n0 Z106 H0 O107 F115 F116 E117 A118 Q106_0 (own_nx_ob (own_olc ⟨by decide, by decide⟩ (own_olc ⟨by decide, by decide⟩ (own_olc ⟨by decide, by decide⟩ own_oln))) (own_low_ob H8)) (by decide) (by decide)) e124 hml pd_oLjava_lang_StringsaCIIcZ (y at_284) (fun v125 T125 L125 hQ125 X125 => ?_)
  obtain ⟨rfl, N125a, eh125⟩ := hQ125
  have N125 := Fr.app N124 N125a
  have e125 : T125.heap = T106.heap := eh125
  refine og2 X125 hx (fun j _ k => o_ifNo j (y at_287) (by decide) <| o_aload j (y at_290) rfl rfl <| o_aload j (y at_292) rfl rfl <| o_iload j (y at_294) rfl <| o_iconstV j 2 (y at_296) rfl <| k) ?_
  refine cS [(.ref r_42), (.ref a52), (.int (own_ln (own_nx ([(105 : Int32), (102 : Int32), (95 : Int32)]) (0 : Int32) (own_low c0)))), (.int 2)] [] 0 X125 hx hZ hown (w 200 rfl) (w 201 rfl) (w 194 rfl) (w 202 rfl) (rmEQ l Z a0 hw [] cs fm lo bl la lb li r_42 rb_42 rbk_42 a52 kc52 (own_nx ([(105 : Int32), (102 : Int32), (95 : Int32)]) (0 : Int32) (own_low c0)) (2 : Int32) T106.heap n0 Z106 H0 O107 F115 F116 E117 A118 Q106_0 (own_nx_ob (own_olc ⟨by decide, by decide⟩ (own_olc ⟨by decide, by decide⟩ (own_olc ⟨by decide, by decide⟩ own_oln))) (own_low_ob H8)) (by decide) (by decide)) e125 hml pd_oLjava_lang_StringsaCIIcZ (y at_297) (fun v126 T126 L126 hQ126 X126 => ?_)
  obtain ⟨rfl, N126a, eh126⟩ := hQ126
  have N126 := Fr.app N125 N126a
  have e126 : T126.heap = T106.heap := eh126
  refine og2 X126 hx (fun j _ k => o_ifNo j (y at_300) (by decide) <| o_aload j (y at_303) rfl rfl <| o_aload j (y at_305) rfl rfl <| o_iload j (y at_307) rfl <| o_iconstV j 3 (y at_309) rfl <| k) ?_
  refine cS [(.ref r_42), (.ref a52), (.int (own_ln (own_nx ([(105 : Int32), (102 : Int32), (95 : Int32)]) (0 : Int32) (own_low c0)))), (.int 3)] [] 0 X126 hx hZ hown (w 200 rfl) (w 201 rfl) (w 194 rfl) (w 202 rfl) (rmEQ l Z a0 hw [] cs fm lo bl la lb li r_42 rb_42 rbk_42 a52 kc52 (own_nx ([(105 : Int32), (102 : Int32), (95 : Int32)]) (0 : Int32) (own_low c0)) (3 : Int32) T106.heap n0 Z106 H0 O107 F115 F116 E117 A118 Q106_0 (own_nx_ob (own_olc ⟨by decide, by decide⟩ (own_olc ⟨by decide, by decide⟩ (own_olc ⟨by decide, by decide⟩ own_oln))) (own_low_ob H8)) (by decide) (by decide)) e126 hml pd_oLjava_lang_StringsaCIIcZ (y at_310) (fun v127 T127 L127 hQ127 X127 => ?_)
  obtain ⟨rfl, N127a, eh127⟩ := hQ127
  have N127 := Fr.app N126 N127a
  have e127 : T127.heap = T106.heap := eh127
  refine og2 X127 hx (fun j _ k => o_ifNo j (y at_313) (by decide) <| o_aload j (y at_316) rfl rfl <| o_aload j (y at_318) rfl rfl <| o_iload j (y at_320) rfl <| o_iconstV j 4 (y at_322) rfl <| k) ?_
  refine cS [(.ref r_42), (.ref a52), (.int (own_ln (own_nx ([(105 : Int32), (102 : Int32), (95 : Int32)]) (0 : Int32) (own_low c0)))), (.int 4)] [] 0 X127 hx hZ hown (w 200 rfl) (w 201 rfl) (w 194 rfl) (w 202 rfl) (rmEQ l Z a0 hw [] cs fm lo bl la lb li r_42 rb_42 rbk_42 a52 kc52 (own_nx ([(105 : Int32), (102 : Int32), (95 : Int32)]) (0 : Int32) (own_low c0)) (4 : Int32) T106.heap n0 Z106 H0 O107 F115 F116 E117 A118 Q106_0 (own_nx_ob (own_olc ⟨by decide, by decide⟩ (own_olc ⟨by decide, by decide⟩ (own_olc ⟨by decide, by decide⟩ own_oln))) (own_low_ob H8)) (by decide) (by decide)) e127 hml pd_oLjava_lang_StringsaCIIcZ (y at_323) (fun v128 T128 L128 hQ128 X128 => ?_)
  obtain ⟨rfl, N128a, eh128⟩ := hQ128
  have N128 := Fr.app N127 N128a
  have e128 : T128.heap = T106.heap := eh128
  refine og2 X128 hx (fun j _ k => o_ifNo j (y at_326) (by decide) <| o_aload j (y at_329) rfl rfl <| o_aload j (y at_331) rfl rfl <| o_iload j (y at_333) rfl <| o_iconstV j 5 (y at_335) rfl <| k) ?_
  refine cS [(.ref r_42), (.ref a52), (.int (own_ln (own_nx ([(105 : Int32), (102 : Int32), (95 : Int32)]) (0 : Int32) (own_low c0)))), (.int 5)] [] 0 X128 hx hZ hown (w 200 rfl) (w 201 rfl) (w 194 rfl) (w 202 rfl) (rmEQ l Z a0 hw [] cs fm lo bl la lb li r_42 rb_42 rbk_42 a52 kc52 (own_nx ([(105 : Int32), (102 : Int32), (95 : Int32)]) (0 : Int32) (own_low c0)) (5 : Int32) T106.heap n0 Z106 H0 O107 F115 F116 E117 A118 Q106_0 (own_nx_ob (own_olc ⟨by decide, by decide⟩ (own_olc ⟨by decide, by decide⟩ (own_olc ⟨by decide, by decide⟩ own_oln))) (own_low_ob H8)) (by decide) (by decide)) e128 hml pd_oLjava_lang_StringsaCIIcZ (y at_336) (fun v129 T129 L129 hQ129 X129 => ?_)
  obtain ⟨rfl, N129a, eh129⟩ := hQ129
  have N129 := Fr.app N128 N129a
  have e129 : T129.heap = T106.heap := eh129
  refine og2 X129 hx (fun j _ k => o_ifNo j (y at_339) (by decide) <| o_aload j (y at_342) rfl rfl <| o_aload j (y at_344) rfl rfl <| o_iload j (y at_346) rfl <| o_bipushV j 6 (y at_348) rfl <| k) ?_
  refine cS [(.ref r_42), (.ref a52), (.int (own_ln (own_nx ([(105 : Int32), (102 : Int32), (95 : Int32)]) (0 : Int32) (own_low c0)))), (.int 6)] [] 0 X129 hx hZ hown (w 200 rfl) (w 201 rfl) (w 194 rfl) (w 202 rfl) (rmEQ l Z a0 hw [] cs fm lo bl la lb li r_42 rb_42 rbk_42 a52 kc52 (own_nx ([(105 : Int32), (102 : Int32), (95 : Int32)]) (0 : Int32) (own_low c0)) (6 : Int32) T106.heap n0 Z106 H0 O107 F115 F116 E117 A118 Q106_0 (own_nx_ob (own_olc ⟨by decide, by decide⟩ (own_olc ⟨by decide, by decide⟩ (own_olc ⟨by decide, by decide⟩ own_oln))) (own_low_ob H8)) (by decide) (by decide)) e129 hml pd_oLjava_lang_StringsaCIIcZ (y at_350) (fun v130 T130 L130 hQ130 X130 => ?_)
  obtain ⟨rfl, N130a, eh130⟩ := hQ130
  have N130 := Fr.app N129 N130a
  have e130 : T130.heap = T106.heap := eh130
  refine og2 X130 hx (fun j _ k => o_ifNo j (y at_353) (by decide) <| o_aload j (y at_356) rfl rfl <| o_aload j (y at_358) rfl rfl <| o_iload j (y at_360) rfl <| o_bipushV j 7 (y at_362) rfl <| k) ?_
  refine cS [(.ref r_42), (.ref a52), (.int (own_ln (own_nx ([(105 : Int32), (102 : Int32), (95 : Int32)]) (0 : Int32) (own_low c0)))), (.int 7)] [] 0 X130 hx hZ hown (w 200 rfl) (w 201 rfl) (w 194 rfl) (w 202 rfl) (rmEQ l Z a0 hw [] cs fm lo bl la lb li r_42 rb_42 rbk_42 a52 kc52 (own_nx ([(105 : Int32), (102 : Int32), (95 : Int32)]) (0 : Int32) (own_low c0)) (7 : Int32) T106.heap n0 Z106 H0 O107 F115 F116 E117 A118 Q106_0 (own_nx_ob (own_olc ⟨by decide, by decide⟩ (own_olc ⟨by decide, by decide⟩ (own_olc ⟨by decide, by decide⟩ own_oln))) (own_low_ob H8)) (by decide) (by decide)) e130 hml pd_oLjava_lang_StringsaCIIcZ (y at_364) (fun v131 T131 L131 hQ131 X131 => ?_)
  obtain ⟨rfl, N131a, eh131⟩ := hQ131
  have N131 := Fr.app N130 N131a
  have e131 : T131.heap = T106.heap := eh131
  refine og2 X131 hx (fun j _ k => o_ifNo j (y at_367) (by decide) <| o_aload j (y at_370) rfl rfl <| o_aload j (y at_372) rfl rfl <| o_iload j (y at_374) rfl <| o_bipushV j 8 (y at_376) rfl <| k) ?_
  refine cS [(.ref r_42), (.ref a52), (.int (own_ln (own_nx ([(105 : Int32), (102 : Int32), (95 : Int32)]) (0 : Int32) (own_low c0)))), (.int 8)] [] 0 X131 hx hZ hown (w 200 rfl) (w 201 rfl) (w 194 rfl) (w 202 rfl) (rmEQ l Z a0 hw [] cs fm lo bl la lb li r_42 rb_42 rbk_42 a52 kc52 (own_nx ([(105 : Int32), (102 : Int32), (95 : Int32)]) (0 : Int32) (own_low c0)) (8 : Int32) T106.heap n0 Z106 H0 O107 F115 F116 E117 A118 Q106_0 (own_nx_ob (own_olc ⟨by decide, by decide⟩ (own_olc ⟨by decide, by decide⟩ (own_olc ⟨by decide, by decide⟩ own_oln))) (own_low_ob H8)) (by decide) (by decide)) e131 hml pd_oLjava_lang_StringsaCIIcZ (y at_378) (fun v132 T132 L132 hQ132 X132 => ?_)
  obtain ⟨rfl, N132a, eh132⟩ := hQ132
  have N132 := Fr.app N131 N132a
  have e132 : T132.heap = T106.heap := eh132
  refine og2 X132 hx (fun j _ k => o_ifNo j (y at_381) (by decide) <| o_aload j (y at_384) rfl rfl <| o_aload j (y at_386) rfl rfl <| o_iload j (y at_388) rfl <| o_bipushV j 9 (y at_390) rfl <| k) ?_
  refine cS [(.ref r_42), (.ref a52), (.int (own_ln (own_nx ([(105 : Int32), (102 : Int32), (95 : Int32)]) (0 : Int32) (own_low c0)))), (.int 9)] [] 0 X132 hx hZ hown (w 200 rfl) (w 201 rfl) (w 194 rfl) (w 202 rfl) (rmEQ l Z a0 hw [] cs fm lo bl la lb li r_42 rb_42 rbk_42 a52 kc52 (own_nx ([(105 : Int32), (102 : Int32), (95 : Int32)]) (0 : Int32) (own_low c0)) (9 : Int32) T106.heap n0 Z106 H0 O107 F115 F116 E117 A118 Q106_0 (own_nx_ob (own_olc ⟨by decide, by decide⟩ (own_olc ⟨by decide, by decide⟩ (own_olc ⟨by decide, by decide⟩ own_oln))) (own_low_ob H8)) (by decide) (by decide)) e132 hml pd_oLjava_lang_StringsaCIIcZ (y at_392) (fun v133 T133 L133 hQ133 X133 => ?_)
  obtain ⟨rfl, N133a, eh133⟩ := hQ133
  have N133 := Fr.app N132 N133a
  have e133 : T133.heap = T106.heap := eh133
  refine og2 X133 hx (fun j _ k => o_ifNo j (y at_395) (by decide) <| o_aload j (y at_398) rfl rfl <| o_aload j (y at_400) rfl rfl <| o_iload j (y at_402) rfl <| o_bipushV j 10 (y at_404) rfl <| k) ?_
  refine cS [(.ref r_42), (.ref a52), (.int (own_ln (own_nx ([(105 : Int32), (102 : Int32), (95 : Int32)]) (0 : Int32) (own_low c0)))), (.int 10)] [] 0 X133 hx hZ hown (w 200 rfl) (w 201 rfl) (w 194 rfl) (w 202 rfl) (rmEQ l Z a0 hw [] cs fm lo bl la lb li r_42 rb_42 rbk_42 a52 kc52 (own_nx ([(105 : Int32), (102 : Int32), (95 : Int32)]) (0 : Int32) (own_low c0)) (10 : Int32) T106.heap n0 Z106 H0 O107 F115 F116 E117 A118 Q106_0 (own_nx_ob (own_olc ⟨by decide, by decide⟩ (own_olc ⟨by decide, by decide⟩ (own_olc ⟨by decide, by decide⟩ own_oln))) (own_low_ob H8)) (by decide) (by decide)) e133 hml pd_oLjava_lang_StringsaCIIcZ (y at_406) (fun v134 T134 L134 hQ134 X134 => ?_)
  obtain ⟨rfl, N134a, eh134⟩ := hQ134
  have N134 := Fr.app N133 N134a
  have e134 : T134.heap = T106.heap := eh134
  refine og2 X134 hx (fun j _ k => o_ifNo j (y at_409) (by decide) <| o_aload j (y at_412) rfl rfl <| o_aload j (y at_414) rfl rfl <| o_iload j (y at_416) rfl <| o_bipushV j 11 (y at_418) rfl <| k) ?_
  refine cS [(.ref r_42), (.ref a52), (.int (own_ln (own_nx ([(105 : Int32), (102 : Int32), (95 : Int32)]) (0 : Int32) (own_low c0)))), (.int 11)] [] 0 X134 hx hZ hown (w 200 rfl) (w 201 rfl) (w 194 rfl) (w 202 rfl) (rmEQ l Z a0 hw [] cs fm lo bl la lb li r_42 rb_42 rbk_42 a52 kc52 (own_nx ([(105 : Int32), (102 : Int32), (95 : Int32)]) (0 : Int32) (own_low c0)) (11 : Int32) T106.heap n0 Z106 H0 O107 F115 F116 E117 A118 Q106_0 (own_nx_ob (own_olc ⟨by decide, by decide⟩ (own_olc ⟨by decide, by decide⟩ (own_olc ⟨by decide, by decide⟩ own_oln))) (own_low_ob H8)) (by decide) (by decide)) e134 hml pd_oLjava_lang_StringsaCIIcZ (y at_420) (fun v135 T135 L135 hQ135 X135 => ?_)
  obtain ⟨rfl, N135a, eh135⟩ := hQ135
  have N135 := Fr.app N134 N135a
  have e135 : T135.heap = T106.heap := eh135
  refine og2 X135 hx (fun j _ k => o_ifNo j (y at_423) (by decide) <| o_aload j (y at_426) rfl rfl <| o_aload j (y at_428) rfl rfl <| o_iload j (y at_430) rfl <| o_bipushV j 12 (y at_432) rfl <| k) ?_
  refine cS [(.ref r_42), (.ref a52), (.int (own_ln (own_nx ([(105 : Int32), (102 : Int32), (95 : Int32)]) (0 : Int32) (own_low c0)))), (.int 12)] [] 0 X135 hx hZ hown (w 200 rfl) (w 201 rfl) (w 194 rfl) (w 202 rfl) (rmEQ l Z a0 hw [] cs fm lo bl la lb li r_42 rb_42 rbk_42 a52 kc52 (own_nx ([(105 : Int32), (102 : Int32), (95 : Int32)]) (0 : Int32) (own_low c0)) (12 : Int32) T106.heap n0 Z106 H0 O107 F115 F116 E117 A118 Q106_0 (own_nx_ob (own_olc ⟨by decide, by decide⟩ (own_olc ⟨by decide, by decide⟩ (own_olc ⟨by decide, by decide⟩ own_oln))) (own_low_ob H8)) (by decide) (by decide)) e135 hml pd_oLjava_lang_StringsaCIIcZ (y at_434) (fun v136 T136 L136 hQ136 X136 => ?_)
  obtain ⟨rfl, N136a, eh136⟩ := hQ136
  have N136 := Fr.app N135 N136a
  have e136 : T136.heap = T106.heap := eh136
  refine og2 X136 hx (fun j _ k => o_ifNo j (y at_437) (by decide) <| o_iconstV j 1 (y at_440) rfl <| o_goto j (pc' := 445) (y at_441) <| k) ?_
  exact rNW (v := (1 : Int32)) X136 hx Bd hS (Nat.le_trans (Nat.le_trans (Nat.le_trans (Nat.le_trans (Nat.le_trans hkS E52.1) (Nat.le_of_eq W66.size.symm)) (Nat.le_of_eq W79.size.symm)) (Nat.le_of_eq W92.size.symm)) K106.1) (by simp) rfl (y at_445) e136 ⟨rfl, N136⟩

def Q0v2 (Z : State) (cs : Int32) (fm : Value) (lo : Addr) (bl : Addr) (la : Addr) (lb : Addr) (li : Addr) (p1 : Int32) (p2 : Int32) (p3 : Int32) (p4 : Int32) (p5 : Int32) (p6 : Int32) (c0 : Int32) (c1 : Int32) (c2 : Int32) (c3 : Int32) (c4 : Int32) (h0 : Heap) (n0 : Nat) (v : Option Value) (h : Heap) (L : List Loc) : Prop := v = some (.int 1) ∧ Fr n0 L
theorem rm0v2 (l : Launch) (Z : State) (a0 : Array Value) (hw : HW a0 Z) (ws : List Jvm.Cond) (cs : Int32) (fm : Value) (lo : Addr) (bl : Addr) (la : Addr) (lb : Addr) (li : Addr) (p1 : Int32) (p2 : Int32) (p3 : Int32) (p4 : Int32) (p5 : Int32) (p6 : Int32) (c0 : Int32) (c1 : Int32) (c2 : Int32) (c3 : Int32) (c4 : Int32) (h0 : Heap) (n0 : Nat) (Z0 : n0 ≤ h0.size) (H0 : OSt Z cs fm lo bl la lb li) (pr1 : Old Z n0 h0) (H2 : own_i2c (p1 &&& (255 : Int32)) = c0) (H3 : own_i2c (p2 &&& (255 : Int32)) = c1) (H4 : own_i2c (p3 &&& (255 : Int32)) = c2) (H5 : own_i2c (p4 &&& (255 : Int32)) = c3) (H6 : own_i2c (p5 &&& (255 : Int32)) = c4) (H7 : (p6 &&& (7 : Int32)) - ((p6 &&& (7 : Int32)) / (6 : Int32)) * (6 : Int32) = 2) (H8 : OB c0) (H9 : OB c1) (H10 : OB c2) (H11 : OB c3) (H12 : OB c4) :
    MetFree l x (head1 (Jvm.Cond.code x code maxLocals ret :: ws) room_1) (fun a U => a = #[(.int p1), (.int p2), (.int p3), (.int p4), (.int p5), (.int p6)] ∧ Z.Warmed39 U.vm ∧ U.heap = h0 ∧ CHv Z own_EL U.vm h0) (fun _ _ _ _ _ => True) (fun _ U o U' => ∃ v L, o = .returned v ∧ Q0v2 Z cs fm lo bl la lb li p1 p2 p3 p4 p5 p6 c0 c1 c2 c3 c4 h0 n0 v U'.heap L ∧ ReturnedEndW U o U' L room_1.cells room_1.slots) := by
  refine og_startH (plainFor_of_name pn_com_example_obieg_obieg_ChoiceIdOfPinLaw) fun p e s m below meth c s₁ Bd hx hby hml hZ hown hnm X0 e0 hS hkS hC0 => ?_
  have y := @hb _ _ hby
  have w := @wd _ _ hw
  refine og (fun t k => castTop (ef20 m p1 p2 p3 p4 p5 p6) k) ?_
  refine og2 X0 hx (fun j _ k => o_iload j (y at_0) rfl <| o_bipushV j 7 (y at_2) rfl <| o_iand j (y at_4) <| o_bipushV j 6 (y at_5) rfl <| o_irem j (y at_7) (by decide) <| k) ?_
  rw [H7]
  refine og2 X0 hx (fun j _ k => o_istore j (y at_8) (l' := #[.val (.int p1), .val (.int p2), .val (.int p3), .val (.int p4), .val (.int p5), .val (.int p6), .val (.int 2), .unset, .unset, .unset, .unset, .unset]) rfl <| o_iconstV j 5 (y at_10) rfl <| k) ?_
  refine nP .char 5 "[C" X0 hx hZ (w 0 rfl) e0 (y at_11) (fun T1 h1 a1 kc1 g1 X1 e1 E1 A1 D1 => ?_)
  have Z1 : n0 ≤ h1.size := Nat.le_trans Z0 E1.1
  have G1 : n0 ≤ a1 := Nat.le_trans Z0 (Nat.le_of_eq g1.symm)
  have CH2 := CHv.ext E1 hC0
  have O3 := (pr1.ext E1)
  have SF1_a1 := Safe.ext E1 hC0 (Safe.new (Nat.le_of_eq g1.symm))
  have A4 : Arv Z h1 a1 kc1 .char (5 : Int32) [(.int 0), (.int 0), (.int 0), (.int 0), (.int 0)] (.int 0) := (A1.pad (pad_rep [] _ 5))
  refine og2 X1 hx (fun j _ k => o_astore j (y at_13) rfl (l' := #[.val (.int p1), .val (.int p2), .val (.int p3), .val (.int p4), .val (.int p5), .val (.int p6), .val (.int 2), .val (.ref a1), .unset, .unset, .unset, .unset]) rfl <| o_aload j (y at_15) rfl rfl <| o_iconstV j 0 (y at_17) rfl <| o_iloadN j (y at_18) rfl <| o_sipushV j 255 (y at_19) rfl <| o_iand j (y at_22) <| o_i2cO j (y at_23) <| k) ?_
  rw [H2]
  refine sC (v := c0) 0 X1 hx hZ e1 A4 (own_nar_ob H8) (y at_24) (fun T5 h5 X5 e5 W5 A5 => ?_)
  have SF6_a1 := Safe.wr W5 SF1_a1 CH2 SF1_a1
  have CH6 := CHv.wr W5 SF1_a1 CH2
  have N5 := Fr.snoc X5 (Fr.nil n0) G1
  have Z5 : n0 ≤ h5.size := (by rw [W5.size]; exact Z1)
  have O7 := (O3.wr W5 G1)
  have A5v : Arv Z h5 a1 kc1 .char (5 : Int32) [(.int c0), (.int 0), (.int 0), (.int 0), (.int 0)] (.int 0) := A5
  refine og2 X5 hx (fun j _ k => o_aload j (y at_25) rfl rfl <| o_iconstV j 1 (y at_27) rfl <| o_iloadN j (y at_28) rfl <| o_sipushV j 255 (y at_29) rfl <| o_iand j (y at_32) <| o_i2cO j (y at_33) <| k) ?_
  rw [H3]
  refine sC (v := c1) 1 X5 hx hZ e5 A5v (own_nar_ob H9) (y at_34) (fun T8 h8 X8 e8 W8 A8 => ?_)
  have SF9_a1 := Safe.wr W8 SF6_a1 CH6 SF6_a1
  have CH9 := CHv.wr W8 SF6_a1 CH6
  have N8 := Fr.snoc X8 N5 G1
  have Z8 : n0 ≤ h8.size := (by rw [W8.size]; exact Z5)
  have O10 := (O7.wr W8 G1)
  have A8v : Arv Z h8 a1 kc1 .char (5 : Int32) [(.int c0), (.int c1), (.int 0), (.int 0), (.int 0)] (.int 0) := A8
  refine og2 X8 hx (fun j _ k => o_aload j (y at_35) rfl rfl <| o_iconstV j 2 (y at_37) rfl <| o_iloadN j (y at_38) rfl <| o_sipushV j 255 (y at_39) rfl <| o_iand j (y at_42) <| o_i2cO j (y at_43) <| k) ?_
  rw [H4]
  refine sC (v := c2) 2 X8 hx hZ e8 A8v (own_nar_ob H10) (y at_44) (fun T11 h11 X11 e11 W11 A11 => ?_)
  have SF12_a1 := Safe.wr W11 SF9_a1 CH9 SF9_a1
  have CH12 := CHv.wr W11 SF9_a1 CH9
  have N11 := Fr.snoc X11 N8 G1
  have Z11 : n0 ≤ h11.size := (by rw [W11.size]; exact Z8)
  have O13 := (O10.wr W11 G1)
  have A11v : Arv Z h11 a1 kc1 .char (5 : Int32) [(.int c0), (.int c1), (.int c2), (.int 0), (.int 0)] (.int 0) := A11
  refine og2 X11 hx (fun j _ k => o_aload j (y at_45) rfl rfl <| o_iconstV j 3 (y at_47) rfl <| o_iloadN j (y at_48) rfl <| o_sipushV j 255 (y at_49) rfl <| o_iand j (y at_52) <| o_i2cO j (y at_53) <| k) ?_
  rw [H5]
  refine sC (v := c3) 3 X11 hx hZ e11 A11v (own_nar_ob H11) (y at_54) (fun T14 h14 X14 e14 W14 A14 => ?_)
  have SF15_a1 := Safe.wr W14 SF12_a1 CH12 SF12_a1
  have CH15 := CHv.wr W14 SF12_a1 CH12
  have N14 := Fr.snoc X14 N11 G1
  have Z14 : n0 ≤ h14.size := (by rw [W14.size]; exact Z11)
  have O16 := (O13.wr W14 G1)
  have A14v : Arv Z h14 a1 kc1 .char (5 : Int32) [(.int c0), (.int c1), (.int c2), (.int c3), (.int 0)] (.int 0) := A14
  refine og2 X14 hx (fun j _ k => o_aload j (y at_55) rfl rfl <| o_iconstV j 4 (y at_57) rfl <| o_iload j (y at_58) rfl <| o_sipushV j 255 (y at_60) rfl <| o_iand j (y at_63) <| o_i2cO j (y at_64) <| k) ?_
  rw [H6]
  refine sC (v := c4) 4 X14 hx hZ e14 A14v (own_nar_ob H12) (y at_65) (fun T17 h17 X17 e17 W17 A17 => ?_)
  have CH18 := CHv.wr W17 SF15_a1 CH15
  have N17 := Fr.snoc X17 N14 G1
  have Z17 : n0 ≤ h17.size := (by rw [W17.size]; exact Z14)
  have O19 := (O16.wr W17 G1)
  have A17v : Arv Z h17 a1 kc1 .char (5 : Int32) [(.int c0), (.int c1), (.int c2), (.int c3), (.int c4)] (.int 0) := A17
  refine og2 X17 hx (fun j _ k => o_iload j (y at_66) rfl <| k) ?_
  refine nP .char 2 "[C" X17 hx hZ (w 0 rfl) e17 (y at_68) (fun T20 h20 a20 kc20 g20 X20 e20 E20 A20 D20 => ?_)
  have Z20 : n0 ≤ h20.size := Nat.le_trans Z17 E20.1
  have G20 : n0 ≤ a20 := Nat.le_trans Z17 (Nat.le_of_eq g20.symm)
  have CH21 := CHv.ext E20 CH18
  have O22 := (O19.ext E20)
  have A23 := (A17v.ext E20)
  have SF20_a20 := Safe.ext E20 CH18 (Safe.new (Nat.le_of_eq g20.symm))
  have A24 : Arv Z h20 a20 kc20 .char (2 : Int32) [(.int 0), (.int 0)] (.int 0) := (A20.pad (pad_rep [] _ 2))
  refine og2 X20 hx (fun j _ k => o_astore j (y at_70) rfl (l' := #[.val (.int p1), .val (.int p2), .val (.int p3), .val (.int p4), .val (.int p5), .val (.int p6), .val (.int 2), .val (.ref a1), .val (.ref a20), .unset, .unset, .unset]) rfl <| o_iload j (y at_72) rfl <| o_ifNo j (y at_74) (by decide) <| o_aload j (y at_77) rfl rfl <| o_iconstV j 0 (y at_79) rfl <| o_aload j (y at_80) rfl rfl <| o_iconstV j 0 (y at_82) rfl <| o_caload (v := (.int c0)) X20 hx hZ e20 A23 ⟨by decide, by decide⟩ rfl (y at_83) <| k) ?_
  refine sC (v := c0) 0 X20 hx hZ e20 A24 (own_nar_ob H8) (y at_84) (fun T25 h25 X25 e25 W25 A25 => ?_)
  have SF26_a20 := Safe.wr W25 SF20_a20 CH21 SF20_a20
  have CH26 := CHv.wr W25 SF20_a20 CH21
  have N25 := Fr.snoc X25 N17 G20
  have Z25 : n0 ≤ h25.size := (by rw [W25.size]; exact Z20)
  have O27 := (O22.wr W25 G20)
  have A28 := (A23.other W25 (Nat.ne_of_lt (Nat.lt_of_lt_of_eq A17v.lt g20.symm)))
  have A25v : Arv Z h25 a20 kc20 .char (2 : Int32) [(.int c0), (.int 0)] (.int 0) := A25
  refine og2 X25 hx (fun j _ k => o_iload j (y at_85) rfl <| o_iconstV j 1 (y at_87) rfl <| o_icmpNo j (y at_88) (XT.ii_le_f (by decide)) <| o_aload j (y at_91) rfl rfl <| o_iconstV j 1 (y at_93) rfl <| o_aload j (y at_94) rfl rfl <| o_iconstV j 1 (y at_96) rfl <| o_caload (v := (.int c1)) X25 hx hZ e25 A28 ⟨by decide, by decide⟩ rfl (y at_97) <| k) ?_
  refine sC (v := c1) 1 X25 hx hZ e25 A25v (own_nar_ob H9) (y at_98) (fun T29 h29 X29 e29 W29 A29 => ?_)
  have CH30 := CHv.wr W29 SF26_a20 CH26
  have N29 := Fr.snoc X29 N25 G20
  have Z29 : n0 ≤ h29.size := (by rw [W29.size]; exact Z25)
  have O31 := (O27.wr W29 G20)
  have A32 := (A28.other W29 (Nat.ne_of_lt (Nat.lt_of_lt_of_eq A17v.lt g20.symm)))
  have A29v : Arv Z h29 a20 kc20 .char (2 : Int32) [(.int c0), (.int c1)] (.int 0) := A29
  refine og2 X29 hx (fun j _ k => o_iload j (y at_99) rfl <| o_iconstV j 2 (y at_101) rfl <| o_icmpYes j (pc' := 113) (y at_102) (XT.ii_le_t (by decide)) <| o_iload j (y at_113) rfl <| o_iconstV j 3 (y at_115) rfl <| o_icmpYes j (pc' := 127) (y at_116) (XT.ii_le_t (by decide)) <| o_iload j (y at_127) rfl <| o_iconstV j 4 (y at_129) rfl <| o_icmpYes j (pc' := 141) (y at_130) (XT.ii_le_t (by decide)) <| k) ?_
  refine nO X29 hx hZ hown (w 1 rfl) (w 2 rfl) (w 3 rfl) e29 (y at_141) (fun T33 h33 a33 g33 X33 e33 E33 A33 D33 => ?_)
  have Z33 : n0 ≤ h33.size := Nat.le_trans Z29 E33.1
  have G33 : n0 ≤ a33 := Nat.le_trans Z29 (Nat.le_of_eq g33.symm)
  have CH34 := CHv.ext E33 CH30
  have O35 := (O31.ext E33)
  have A36 := (A32.ext E33)
  have A37 := (A29v.ext E33)
  have SF33_a33 := Safe.ext E33 CH30 (Safe.new (Nat.le_of_eq g33.symm))
  have F38 : Fld Z h33 a33 "java/lang/String" "coder" "B" (.int 0) := (D33 (Or.inr (w 27 rfl)) (ty := .byte) (by decide))
  have F39 : Fld Z h33 a33 "java/lang/String" "value" "[B" .null := (D33 (Or.inr (w 29 rfl)) (ty := (.array .byte)) (by decide))
  refine og2 X33 hx (fun j _ k => o_dup j (y at_144) rfl <| o_aload j (y at_145) rfl rfl <| k) ?_
  refine cI a33 [(.ref a20)] [(.ref a33)] 1 X33 hx hZ hown (w 4 rfl) (w 5 rfl) (w 3 rfl) (w 6 rfl) (rmI11 l Z a0 hw [] cs fm lo bl la lb li a33 a20 kc20 ([c0, c1]) h33 n0 Z33 H0 O35 F39 F38 A33 A37 G33 (own_olc H8 (own_olc H9 own_oln)) (Nat.le_of_ble_eq_true rfl) (show ¬ ((2 : Int32) = 0) from by decide)) e33 hml pd_oaCcV (y at_147) (fun v40 T40 L40 hQ40 X40 => ?_)
  obtain ⟨b_40, bk_40, rfl, N40a, K40, Q40_0, Q40_1, Q40_2, Q40_3⟩ := hQ40
  have N40 := Fr.app N29 N40a
  have e40 : T40.heap = T40.heap := rfl
  have Z40 : n0 ≤ T40.heap.size := (Nat.le_trans Z33 K40.1)
  have CH41 := CHv.keep K40 (allS SF33_a33 all0) CH34
  have O42 := (O35.keep K40 (allS G33 all0))
  have A43 := (A36.keep K40 (ninS (Nat.ne_of_lt (Nat.lt_of_lt_of_eq A32.lt g33.symm)) nin0))
  refine cSJ [(.ref a33)] [] 0 X40 hx hZ hown hS (Nat.le_trans (Nat.le_trans (Nat.le_trans (Nat.le_trans (Nat.le_trans (Nat.le_trans (Nat.le_trans (Nat.le_trans (Nat.le_trans (Nat.le_trans (Nat.le_trans hkS E1.1) (Nat.le_of_eq W5.size.symm)) (Nat.le_of_eq W8.size.symm)) (Nat.le_of_eq W11.size.symm)) (Nat.le_of_eq W14.size.symm)) (Nat.le_of_eq W17.size.symm)) E20.1) (Nat.le_of_eq W25.size.symm)) (Nat.le_of_eq W29.size.symm)) E33.1) K40.1) (w 30 rfl) (w 31 rfl) (w 32 rfl) (w 33 rfl) (own_EW hw) CH41 (rmOF l Z a0 hw [] cs fm lo bl la lb li a33 b_40 bk_40 ([c0, c1]) T40.heap n0 Z40 H0 O42 Q40_0 Q40_1 Q40_2 Q40_3 (own_olc H8 (own_olc H9 own_oln)) (Nat.le_of_ble_eq_true rfl)) e40 hml pd_oLjava_lang_StringscLjava_lang_Strings (y at_150) (fun v46 T46 L46 hQ46 X46 hS hZ hown => ?_)
  obtain ⟨r_46, rb_46, rbk_46, rfl, N46a, K46, Q46_0, Q46_1, Q46_2, Q46_3⟩ := hQ46
  have N46 := Fr.app N40 N46a
  have e46 : T46.heap = T46.heap := rfl
  have Z46 : n0 ≤ T46.heap.size := (Nat.le_trans Z40 K46.1)
  have O47 := (O42.keep K46 all0)
  have A48 := (A43.keep K46 nin0)
  have hkS : T46.heap.size ≤ T46.heap.size := Nat.le_refl _
  have AR55 : Arv Z T46.heap rb_46 rbk_46 .byte (own_ln (own_nx (own_nx ([(105 : Int32), (102 : Int32), (95 : Int32)]) (0 : Int32) (own_low c0)) (own_sp (own_low c0)) (own_low c1))) (own_vb (own_nx (own_nx ([(105 : Int32), (102 : Int32), (95 : Int32)]) (0 : Int32) (own_low c0)) (own_sp (own_low c0)) (own_low c1))) (.int 0) := Q46_3
  refine og2 X46 hx (fun j _ k => o_astore j (y at_153) rfl (l' := #[.val (.int p1), .val (.int p2), .val (.int p3), .val (.int p4), .val (.int p5), .val (.int p6), .val (.int 2), .val (.ref a1), .val (.ref a20), .val (.ref r_46), .unset, .unset]) rfl <| o_bipushV j 13 (y at_155) rfl <| k) ?_
  refine nP .char 13 "[C" X46 hx hZ (w 0 rfl) e46 (y at_157) (fun T56 h56 a56 kc56 g56 X56 e56 E56 A56 D56 => ?_)
  have Z56 : n0 ≤ h56.size := Nat.le_trans Z46 E56.1
  have G56 : n0 ≤ a56 := Nat.le_trans Z46 (Nat.le_of_eq g56.symm)
  have O57 := (O47.ext E56)
  have A58 := (A48.ext E56)
  have F65 := (Fld.ext E56 Q46_0)
  have F66 := (Fld.ext E56 Q46_1)
  have E67 := (Exa.ext E56 Q46_2)
  have A68 := (AR55.ext E56)
  have A69 : Arv Z h56 a56 kc56 .char (13 : Int32) [(.int 0), (.int 0), (.int 0), (.int 0), (.int 0), (.int 0), (.int 0), (.int 0), (.int 0), (.int 0), (.int 0), (.int 0), (.int 0)] (.int 0) := (A56.pad (pad_rep [] _ 13))
  refine og2 X56 hx (fun j _ k => o_astore j (y at_159) rfl (l' := #[.val (.int p1), .val (.int p2), .val (.int p3), .val (.int p4), .val (.int p5), .val (.int p6), .val (.int 2), .val (.ref a1), .val (.ref a20), .val (.ref r_46), .val (.ref a56), .unset]) rfl <| o_aload j (y at_161) rfl rfl <| o_iconstV j 0 (y at_163) rfl <| o_bipushV j 105 (y at_164) rfl <| k) ?_
  refine sC (v := (105 : Int32)) 0 X56 hx hZ e56 A69 (by decide) (y at_166) (fun T70 h70 X70 e70 W70 A70 => ?_)
  have N70 := Fr.snoc X70 N46 G56
  have Z70 : n0 ≤ h70.size := (by rw [W70.size]; exact Z56)
  have O71 := (O57.wr W70 G56)
  have A72 := (A58.other W70 (Nat.ne_of_lt (Nat.lt_of_lt_of_eq A48.lt g56.symm)))
  have F79 := (Fld.other W70 F65 (Or.inl (Nat.ne_of_lt (Nat.lt_of_lt_of_eq Q46_0.lt g56.symm))))
  have F80 := (Fld.other W70 F66 (Or.inl (Nat.ne_of_lt (Nat.lt_of_lt_of_eq Q46_0.lt g56.symm))))
  have E81 := (Exa.wr W70 E67)
  have A82 := (A68.other W70 (Nat.ne_of_lt (Nat.lt_of_lt_of_eq AR55.lt g56.symm)))
  have A70v : Arv Z h70 a56 kc56 .char (13 : Int32) [(.int 105), (.int 0), (.int 0), (.int 0), (.int 0), (.int 0), (.int 0), (.int 0), (.int 0), (.int 0), (.int 0), (.int 0), (.int 0)] (.int 0) := A70
  refine og2 X70 hx (fun j _ k => o_aload j (y at_167) rfl rfl <| o_iconstV j 1 (y at_169) rfl <| o_bipushV j 102 (y at_170) rfl <| k) ?_
  refine sC (v := (102 : Int32)) 1 X70 hx hZ e70 A70v (by decide) (y at_172) (fun T83 h83 X83 e83 W83 A83 => ?_)
  have N83 := Fr.snoc X83 N70 G56
  have Z83 : n0 ≤ h83.size := (by rw [W83.size]; exact Z70)
  have O84 := (O71.wr W83 G56)
  have A85 := (A72.other W83 (Nat.ne_of_lt (Nat.lt_of_lt_of_eq A48.lt g56.symm)))
  have F92 := (Fld.other W83 F79 (Or.inl (Nat.ne_of_lt (Nat.lt_of_lt_of_eq Q46_0.lt g56.symm))))
  have F93 := (Fld.other W83 F80 (Or.inl (Nat.ne_of_lt (Nat.lt_of_lt_of_eq Q46_0.lt g56.symm))))
  have E94 := (Exa.wr W83 E81)
  have A95 := (A82.other W83 (Nat.ne_of_lt (Nat.lt_of_lt_of_eq AR55.lt g56.symm)))
  have A83v : Arv Z h83 a56 kc56 .char (13 : Int32) [(.int 105), (.int 102), (.int 0), (.int 0), (.int 0), (.int 0), (.int 0), (.int 0), (.int 0), (.int 0), (.int 0), (.int 0), (.int 0)] (.int 0) := A83
  refine og2 X83 hx (fun j _ k => o_aload j (y at_173) rfl rfl <| o_iconstV j 2 (y at_175) rfl <| o_bipushV j 95 (y at_176) rfl <| k) ?_
  refine sC (v := (95 : Int32)) 2 X83 hx hZ e83 A83v (by decide) (y at_178) (fun T96 h96 X96 e96 W96 A96 => ?_)
  have N96 := Fr.snoc X96 N83 G56
  have Z96 : n0 ≤ h96.size := (by rw [W96.size]; exact Z83)
  have O97 := (O84.wr W96 G56)
  have A98 := (A85.other W96 (Nat.ne_of_lt (Nat.lt_of_lt_of_eq A48.lt g56.symm)))
  have F105 := (Fld.other W96 F92 (Or.inl (Nat.ne_of_lt (Nat.lt_of_lt_of_eq Q46_0.lt g56.symm))))
  have F106 := (Fld.other W96 F93 (Or.inl (Nat.ne_of_lt (Nat.lt_of_lt_of_eq Q46_0.lt g56.symm))))
  have E107 := (Exa.wr W96 E94)
  have A108 := (A95.other W96 (Nat.ne_of_lt (Nat.lt_of_lt_of_eq AR55.lt g56.symm)))
  have A96v : Arv Z h96 a56 kc56 .char (13 : Int32) [(.int 105), (.int 102), (.int 95), (.int 0), (.int 0), (.int 0), (.int 0), (.int 0), (.int 0), (.int 0), (.int 0), (.int 0), (.int 0)] (.int 0) := A96
  refine og2 X96 hx (fun j _ k => o_iconstV j 3 (y at_179) rfl <| o_istore j (y at_180) (l' := #[.val (.int p1), .val (.int p2), .val (.int p3), .val (.int p4), .val (.int p5), .val (.int p6), .val (.int 2), .val (.ref a1), .val (.ref a20), .val (.ref r_46), .val (.ref a56), .val (.int 3)]) rfl <| k) ?_
  have AO109 : Arv Z h96 a56 kc56 .char (13 : Int32) (own_pc ([(105 : Int32), (102 : Int32), (95 : Int32)])) (.int 0) := A96v
  refine og2 X96 hx (fun j _ k => o_aload j (y at_182) rfl rfl <| o_iload j (y at_184) rfl <| o_iconstV j 0 (y at_186) rfl <| o_aload j (y at_187) rfl rfl <| o_iload j (y at_189) rfl <| k) ?_
  refine cS [(.ref a1), (.int 2), (.int 0), (.ref a56), (.int 3)] [] 0 X96 hx hZ hown (w 192 rfl) (w 193 rfl) (w 194 rfl) (w 195 rfl) (rmPU0 l Z a0 hw [] a1 kc1 a56 kc56 (2 : Int32) c0 c1 c2 c3 c4 ([(105 : Int32), (102 : Int32), (95 : Int32)]) h96 n0 Z96 A98 AO109 G56 (by decide) (Nat.lt_of_le_of_lt (Nat.le_of_ble_eq_true rfl : [(105 : Int32), (102 : Int32), (95 : Int32)].length ≤ 3) (by decide)) H8 (Nat.ne_of_lt (Nat.lt_of_lt_of_eq A48.lt g56.symm))) e96 hml pd_oaCIIaCIcI (y at_191) (fun v110 T110 L110 hQ110 X110 => ?_)
  obtain ⟨rfl, N110a, K110, Q110_0⟩ := hQ110
  have N110 := Fr.app N96 N110a
  have e110 : T110.heap = T110.heap := rfl
  have Z110 : n0 ≤ T110.heap.size := (Nat.le_trans Z96 K110.1)
  have O111 := (O97.keep K110 (allS G56 all0))
  have A112 := (A98.keep K110 (ninS (Nat.ne_of_lt (Nat.lt_of_lt_of_eq A48.lt g56.symm)) nin0))
  have F119 := (F105.keep K110 (ninS (Nat.ne_of_lt (Nat.lt_of_lt_of_eq Q46_0.lt g56.symm)) nin0))
  have F120 := (F106.keep K110 (ninS (Nat.ne_of_lt (Nat.lt_of_lt_of_eq Q46_0.lt g56.symm)) nin0))
  have E121 := (E107.keep K110)
  have A122 := (A108.keep K110 (ninS (Nat.ne_of_lt (Nat.lt_of_lt_of_eq AR55.lt g56.symm)) nin0))
  refine og2 X110 hx (fun j _ k => o_istore j (y at_194) (l' := #[.val (.int p1), .val (.int p2), .val (.int p3), .val (.int p4), .val (.int p5), .val (.int p6), .val (.int 2), .val (.ref a1), .val (.ref a20), .val (.ref r_46), .val (.ref a56), .val (.int (own_ln (own_nx ([(105 : Int32), (102 : Int32), (95 : Int32)]) (0 : Int32) (own_low c0))))]) rfl <| o_aload j (y at_196) rfl rfl <| o_iload j (y at_198) rfl <| o_iconstV j 1 (y at_200) rfl <| o_aload j (y at_201) rfl rfl <| o_iload j (y at_203) rfl <| k) ?_
  refine cS [(.ref a1), (.int 2), (.int 1), (.ref a56), (.int (own_ln (own_nx ([(105 : Int32), (102 : Int32), (95 : Int32)]) (0 : Int32) (own_low c0))))] [] 0 X110 hx hZ hown (w 192 rfl) (w 193 rfl) (w 194 rfl) (w 195 rfl) (rmPU1 l Z a0 hw [] a1 kc1 a56 kc56 (2 : Int32) c0 c1 c2 c3 c4 (own_nx ([(105 : Int32), (102 : Int32), (95 : Int32)]) (0 : Int32) (own_low c0)) T110.heap n0 Z110 A112 Q110_0 G56 (by decide) (Nat.lt_of_le_of_lt (own_nxl (Nat.le_of_ble_eq_true rfl : [(105 : Int32), (102 : Int32), (95 : Int32)].length ≤ 3)) (by decide)) H9 (Nat.ne_of_lt (Nat.lt_of_lt_of_eq A48.lt g56.symm)) H8) e110 hml pd_oaCIIaCIcI (y at_205) (fun v123 T123 L123 hQ123 X123 => ?_)
  obtain ⟨rfl, N123a, K123, Q123_0⟩ := hQ123
  have N123 := Fr.app N110 N123a
  have e123 : T123.heap = T123.heap := rfl
  have Z123 : n0 ≤ T123.heap.size := (Nat.le_trans Z110 K123.1)
  have O124 := (O111.keep K123 (allS G56 all0))
  have F132 := (F119.keep K123 (ninS (Nat.ne_of_lt (Nat.lt_of_lt_of_eq Q46_0.lt g56.symm)) nin0))
  have F133 := (F120.keep K123 (ninS (Nat.ne_of_lt (Nat.lt_of_lt_of_eq Q46_0.lt g56.symm)) nin0))
  have E134 := (E121.keep K123)
  have A135 := (A122.keep K123 (ninS (Nat.ne_of_lt (Nat.lt_of_lt_of_eq AR55.lt g56.symm)) nin0))
  refine og2 X123 hx (fun j _ k => o_istore j (y at_208) (l' := #[.val (.int p1), .val (.int p2), .val (.int p3), .val (.int p4), .val (.int p5), .val (.int p6), .val (.int 2), .val (.ref a1), .val (.ref a20), .val (.ref r_46), .val (.ref a56), .val (.int (own_ln (own_nx (own_nx ([(105 : Int32), (102 : Int32), (95 : Int32)]) (0 : Int32) (own_low c0)) (own_sp (own_low c0)) (own_low c1))))]) rfl <| o_aload j (y at_210) rfl rfl <| o_iload j (y at_212) rfl <| o_iconstV j 2 (y at_214) rfl <| o_aload j (y at_215) rfl rfl <| o_iload j (y at_217) rfl <| k) ?_
  refine cS [(.ref a1), (.int 2), (.int 2), (.ref a56), (.int (own_ln (own_nx (own_nx ([(105 : Int32), (102 : Int32), (95 : Int32)]) (0 : Int32) (own_low c0)) (own_sp (own_low c0)) (own_low c1))))] [] 0 X123 hx hZ hown (w 192 rfl) (w 193 rfl) (w 194 rfl) (w 195 rfl) (rmPS l Z a0 hw [] a1 (2 : Int32) (2 : Int32) a56 (own_ln (own_nx (own_nx ([(105 : Int32), (102 : Int32), (95 : Int32)]) (0 : Int32) (own_low c0)) (own_sp (own_low c0)) (own_low c1))) T123.heap n0 Z123 (by decide)) e123 hml pd_oaCIIaCIcI (y at_219) (fun v136 T136 L136 hQ136 X136 => ?_)
  obtain ⟨rfl, N136a, eh136⟩ := hQ136
  have N136 := Fr.app N123 N136a
  have e136 : T136.heap = T123.heap := eh136
  refine og2 X136 hx (fun j _ k => o_istore j (y at_222) (l' := #[.val (.int p1), .val (.int p2), .val (.int p3), .val (.int p4), .val (.int p5), .val (.int p6), .val (.int 2), .val (.ref a1), .val (.ref a20), .val (.ref r_46), .val (.ref a56), .val (.int (own_ln (own_nx (own_nx ([(105 : Int32), (102 : Int32), (95 : Int32)]) (0 : Int32) (own_low c0)) (own_sp (own_low c0)) (own_low c1))))]) rfl <| o_aload j (y at_224) rfl rfl <| o_iload j (y at_226) rfl <| o_iconstV j 3 (y at_228) rfl <| o_aload j (y at_229) rfl rfl <| o_iload j (y at_231) rfl <| k) ?_
  refine cS [(.ref a1), (.int 2), (.int 3), (.ref a56), (.int (own_ln (own_nx (own_nx ([(105 : Int32), (102 : Int32), (95 : Int32)]) (0 : Int32) (own_low c0)) (own_sp (own_low c0)) (own_low c1))))] [] 0 X136 hx hZ hown (w 192 rfl) (w 193 rfl) (w 194 rfl) (w 195 rfl) (rmPS l Z a0 hw [] a1 (2 : Int32) (3 : Int32) a56 (own_ln (own_nx (own_nx ([(105 : Int32), (102 : Int32), (95 : Int32)]) (0 : Int32) (own_low c0)) (own_sp (own_low c0)) (own_low c1))) T123.heap n0 Z123 (by decide)) e136 hml pd_oaCIIaCIcI (y at_233) (fun v137 T137 L137 hQ137 X137 => ?_)
  obtain ⟨rfl, N137a, eh137⟩ := hQ137
  have N137 := Fr.app N136 N137a
  have e137 : T137.heap = T123.heap := eh137
  refine og2 X137 hx (fun j _ k => o_istore j (y at_236) (l' := #[.val (.int p1), .val (.int p2), .val (.int p3), .val (.int p4), .val (.int p5), .val (.int p6), .val (.int 2), .val (.ref a1), .val (.ref a20), .val (.ref r_46), .val (.ref a56), .val (.int (own_ln (own_nx (own_nx ([(105 : Int32), (102 : Int32), (95 : Int32)]) (0 : Int32) (own_low c0)) (own_sp (own_low c0)) (own_low c1))))]) rfl <| o_aload j (y at_238) rfl rfl <| o_iload j (y at_240) rfl <| o_iconstV j 4 (y at_242) rfl <| o_aload j (y at_243) rfl rfl <| o_iload j (y at_245) rfl <| k) ?_
  refine cS [(.ref a1), (.int 2), (.int 4), (.ref a56), (.int (own_ln (own_nx (own_nx ([(105 : Int32), (102 : Int32), (95 : Int32)]) (0 : Int32) (own_low c0)) (own_sp (own_low c0)) (own_low c1))))] [] 0 X137 hx hZ hown (w 192 rfl) (w 193 rfl) (w 194 rfl) (w 195 rfl) (rmPS l Z a0 hw [] a1 (2 : Int32) (4 : Int32) a56 (own_ln (own_nx (own_nx ([(105 : Int32), (102 : Int32), (95 : Int32)]) (0 : Int32) (own_low c0)) (own_sp (own_low c0)) (own_low c1))) T123.heap n0 Z123 (by decide)) e137 hml pd_oaCIIaCIcI (y at_247) (fun v138 T138 L138 hQ138 X138 => ?_)
  obtain ⟨rfl, N138a, eh138⟩ := hQ138
  have N138 := Fr.app N137 N138a
  have e138 : T138.heap = T123.heap := eh138
  refine og2 X138 hx (fun j _ k => o_istore j (y at_250) (l' := #[.val (.int p1), .val (.int p2), .val (.int p3), .val (.int p4), .val (.int p5), .val (.int p6), .val (.int 2), .val (.ref a1), .val (.ref a20), .val (.ref r_46), .val (.ref a56), .val (.int (own_ln (own_nx (own_nx ([(105 : Int32), (102 : Int32), (95 : Int32)]) (0 : Int32) (own_low c0)) (own_sp (own_low c0)) (own_low c1))))]) rfl <| o_aload j (y at_252) rfl rfl <| k) ?_
  refine cV r_46 [] [] 0 X138 hx hZ hown (w 199 rfl) (w 69 rfl) (w 71 rfl) (w 70 rfl) (w 3 rfl) (w 72 rfl) (rmLE l Z a0 hw [] cs fm lo bl la lb li r_46 rb_46 rbk_46 (own_ln (own_nx (own_nx ([(105 : Int32), (102 : Int32), (95 : Int32)]) (0 : Int32) (own_low c0)) (own_sp (own_low c0)) (own_low c1))) (own_vb (own_nx (own_nx ([(105 : Int32), (102 : Int32), (95 : Int32)]) (0 : Int32) (own_low c0)) (own_sp (own_low c0)) (own_low c1))) T123.heap n0 Z123 H0 O124 F132 F133 E134 A135) e138 E134 hml pd_ocI (y at_254) (fun v139 T139 L139 hQ139 X139 => ?_)
  obtain ⟨rfl, N139a, eh139⟩ := hQ139
  have N139 := Fr.app N138 N139a
  have e139 : T139.heap = T123.heap := eh139
  refine og2 X139 hx (fun j _ k => o_iload j (y at_257) rfl <| o_icmpYes j (pc' := 264) (y at_259) (XT.ii_eq_t rfl) <| o_aload j (y at_264) rfl rfl <| o_aload j (y at_266) rfl rfl <| o_iload j (y at_268) rfl <| o_iconstV j 0 (y at_270) rfl <| k) ?_
  refine cS [(.ref r_46), (.ref a56), (.int (own_ln (own_nx (own_nx ([(105 : Int32), (102 : Int32), (95 : Int32)]) (0 : Int32) (own_low c0)) (own_sp (own_low c0)) (own_low c1)))), (.int 0)] [] 0 X139 hx hZ hown (w 200 rfl) (w 201 rfl) (w 194 rfl) (w 202 rfl) (rmEQ l Z a0 hw [] cs fm lo bl la lb li r_46 rb_46 rbk_46 a56 kc56 (own_nx (own_nx ([(105 : Int32), (102 : Int32), (95 : Int32)]) (0 : Int32) (own_low c0)) (own_sp (own_low c0)) (own_low c1)) (0 : Int32) T123.heap n0 Z123 H0 O124 F132 F133 E134 A135 Q123_0 (own_nx_ob (own_nx_ob (own_olc ⟨by decide, by decide⟩ (own_olc ⟨by decide, by decide⟩ (own_olc ⟨by decide, by decide⟩ own_oln))) (own_low_ob H8)) (own_low_ob H9)) (by decide) (by decide)) e139 hml pd_oLjava_lang_StringsaCIIcZ (y at_271) (fun v140 T140 L140 hQ140 X140 => ?_)
  obtain ⟨rfl, N140a, eh140⟩ := hQ140
  have N140 := Fr.app N139 N140a
  have e140 : T140.heap = T123.heap := eh140
  refine og2 X140 hx (fun j _ k => o_ifNo j (y at_274) (by decide) <| o_aload j (y at_277) rfl rfl <| o_aload j (y at_279) rfl rfl <| o_iload j (y at_281) rfl <| o_iconstV j 1 (y at_283) rfl <| k) ?_
  refine cS [(.ref r_46), (.ref a56), (.int (own_ln (own_nx (own_nx ([(105 : Int32), (102 : Int32), (95 : Int32)]) (0 : Int32) (own_low c0)) (own_sp (own_low c0)) (own_low c1)))), (.int 1)] [] 0 X140 hx hZ hown (w 200 rfl) (w 201 rfl) (w 194 rfl) (w 202 rfl) (rmEQ l Z a0 hw [] cs fm lo bl la lb li r_46 rb_46 rbk_46 a56 kc56 (own_nx (own_nx ([(105 : Int32), (102 : Int32), (95 : Int32)]) (0 : Int32) (own_low c0)) (own_sp (own_low c0)) (own_low c1)) (1 : Int32) T123.heap n0 Z123 H0 O124 F132 F133 E134 A135 Q123_0 (own_nx_ob (own_nx_ob (own_olc ⟨by decide, by decide⟩ (own_olc ⟨by decide, by decide⟩ (own_olc ⟨by decide, by decide⟩ own_oln))) (own_low_ob H8)) (own_low_ob H9)) (by decide) (by decide)) e140 hml pd_oLjava_lang_StringsaCIIcZ (y at_284) (fun v141 T141 L141 hQ141 X141 => ?_)
  obtain ⟨rfl, N141a, eh141⟩ := hQ141
  have N141 := Fr.app N140 N141a
  have e141 : T141.heap = T123.heap := eh141
  refine og2 X141 hx (fun j _ k => o_ifNo j (y at_287) (by decide) <| o_aload j (y at_290) rfl rfl <| o_aload j (y at_292) rfl rfl <| o_iload j (y at_294) rfl <| o_iconstV j 2 (y at_296) rfl <| k) ?_
  refine cS [(.ref r_46), (.ref a56), (.int (own_ln (own_nx (own_nx ([(105 : Int32), (102 : Int32), (95 : Int32)]) (0 : Int32) (own_low c0)) (own_sp (own_low c0)) (own_low c1)))), (.int 2)] [] 0 X141 hx hZ hown (w 200 rfl) (w 201 rfl) (w 194 rfl) (w 202 rfl) (rmEQ l Z a0 hw [] cs fm lo bl la lb li r_46 rb_46 rbk_46 a56 kc56 (own_nx (own_nx ([(105 : Int32), (102 : Int32), (95 : Int32)]) (0 : Int32) (own_low c0)) (own_sp (own_low c0)) (own_low c1)) (2 : Int32) T123.heap n0 Z123 H0 O124 F132 F133 E134 A135 Q123_0 (own_nx_ob (own_nx_ob (own_olc ⟨by decide, by decide⟩ (own_olc ⟨by decide, by decide⟩ (own_olc ⟨by decide, by decide⟩ own_oln))) (own_low_ob H8)) (own_low_ob H9)) (by decide) (by decide)) e141 hml pd_oLjava_lang_StringsaCIIcZ (y at_297) (fun v142 T142 L142 hQ142 X142 => ?_)
  obtain ⟨rfl, N142a, eh142⟩ := hQ142
  have N142 := Fr.app N141 N142a
  have e142 : T142.heap = T123.heap := eh142
  refine og2 X142 hx (fun j _ k => o_ifNo j (y at_300) (by decide) <| o_aload j (y at_303) rfl rfl <| o_aload j (y at_305) rfl rfl <| o_iload j (y at_307) rfl <| o_iconstV j 3 (y at_309) rfl <| k) ?_
  refine cS [(.ref r_46), (.ref a56), (.int (own_ln (own_nx (own_nx ([(105 : Int32), (102 : Int32), (95 : Int32)]) (0 : Int32) (own_low c0)) (own_sp (own_low c0)) (own_low c1)))), (.int 3)] [] 0 X142 hx hZ hown (w 200 rfl) (w 201 rfl) (w 194 rfl) (w 202 rfl) (rmEQ l Z a0 hw [] cs fm lo bl la lb li r_46 rb_46 rbk_46 a56 kc56 (own_nx (own_nx ([(105 : Int32), (102 : Int32), (95 : Int32)]) (0 : Int32) (own_low c0)) (own_sp (own_low c0)) (own_low c1)) (3 : Int32) T123.heap n0 Z123 H0 O124 F132 F133 E134 A135 Q123_0 (own_nx_ob (own_nx_ob (own_olc ⟨by decide, by decide⟩ (own_olc ⟨by decide, by decide⟩ (own_olc ⟨by decide, by decide⟩ own_oln))) (own_low_ob H8)) (own_low_ob H9)) (by decide) (by decide)) e142 hml pd_oLjava_lang_StringsaCIIcZ (y at_310) (fun v143 T143 L143 hQ143 X143 => ?_)
  obtain ⟨rfl, N143a, eh143⟩ := hQ143
  have N143 := Fr.app N142 N143a
  have e143 : T143.heap = T123.heap := eh143
  refine og2 X143 hx (fun j _ k => o_ifNo j (y at_313) (by decide) <| o_aload j (y at_316) rfl rfl <| o_aload j (y at_318) rfl rfl <| o_iload j (y at_320) rfl <| o_iconstV j 4 (y at_322) rfl <| k) ?_
  refine cS [(.ref r_46), (.ref a56), (.int (own_ln (own_nx (own_nx ([(105 : Int32), (102 : Int32), (95 : Int32)]) (0 : Int32) (own_low c0)) (own_sp (own_low c0)) (own_low c1)))), (.int 4)] [] 0 X143 hx hZ hown (w 200 rfl) (w 201 rfl) (w 194 rfl) (w 202 rfl) (rmEQ l Z a0 hw [] cs fm lo bl la lb li r_46 rb_46 rbk_46 a56 kc56 (own_nx (own_nx ([(105 : Int32), (102 : Int32), (95 : Int32)]) (0 : Int32) (own_low c0)) (own_sp (own_low c0)) (own_low c1)) (4 : Int32) T123.heap n0 Z123 H0 O124 F132 F133 E134 A135 Q123_0 (own_nx_ob (own_nx_ob (own_olc ⟨by decide, by decide⟩ (own_olc ⟨by decide, by decide⟩ (own_olc ⟨by decide, by decide⟩ own_oln))) (own_low_ob H8)) (own_low_ob H9)) (by decide) (by decide)) e143 hml pd_oLjava_lang_StringsaCIIcZ (y at_323) (fun v144 T144 L144 hQ144 X144 => ?_)
  obtain ⟨rfl, N144a, eh144⟩ := hQ144
  have N144 := Fr.app N143 N144a
  have e144 : T144.heap = T123.heap := eh144
  refine og2 X144 hx (fun j _ k => o_ifNo j (y at_326) (by decide) <| o_aload j (y at_329) rfl rfl <| o_aload j (y at_331) rfl rfl <| o_iload j (y at_333) rfl <| o_iconstV j 5 (y at_335) rfl <| k) ?_
  refine cS [(.ref r_46), (.ref a56), (.int (own_ln (own_nx (own_nx ([(105 : Int32), (102 : Int32), (95 : Int32)]) (0 : Int32) (own_low c0)) (own_sp (own_low c0)) (own_low c1)))), (.int 5)] [] 0 X144 hx hZ hown (w 200 rfl) (w 201 rfl) (w 194 rfl) (w 202 rfl) (rmEQ l Z a0 hw [] cs fm lo bl la lb li r_46 rb_46 rbk_46 a56 kc56 (own_nx (own_nx ([(105 : Int32), (102 : Int32), (95 : Int32)]) (0 : Int32) (own_low c0)) (own_sp (own_low c0)) (own_low c1)) (5 : Int32) T123.heap n0 Z123 H0 O124 F132 F133 E134 A135 Q123_0 (own_nx_ob (own_nx_ob (own_olc ⟨by decide, by decide⟩ (own_olc ⟨by decide, by decide⟩ (own_olc ⟨by decide, by decide⟩ own_oln))) (own_low_ob H8)) (own_low_ob H9)) (by decide) (by decide)) e144 hml pd_oLjava_lang_StringsaCIIcZ (y at_336) (fun v145 T145 L145 hQ145 X145 => ?_)
  obtain ⟨rfl, N145a, eh145⟩ := hQ145
  have N145 := Fr.app N144 N145a
  have e145 : T145.heap = T123.heap := eh145
  refine og2 X145 hx (fun j _ k => o_ifNo j (y at_339) (by decide) <| o_aload j (y at_342) rfl rfl <| o_aload j (y at_344) rfl rfl <| o_iload j (y at_346) rfl <| o_bipushV j 6 (y at_348) rfl <| k) ?_
  refine cS [(.ref r_46), (.ref a56), (.int (own_ln (own_nx (own_nx ([(105 : Int32), (102 : Int32), (95 : Int32)]) (0 : Int32) (own_low c0)) (own_sp (own_low c0)) (own_low c1)))), (.int 6)] [] 0 X145 hx hZ hown (w 200 rfl) (w 201 rfl) (w 194 rfl) (w 202 rfl) (rmEQ l Z a0 hw [] cs fm lo bl la lb li r_46 rb_46 rbk_46 a56 kc56 (own_nx (own_nx ([(105 : Int32), (102 : Int32), (95 : Int32)]) (0 : Int32) (own_low c0)) (own_sp (own_low c0)) (own_low c1)) (6 : Int32) T123.heap n0 Z123 H0 O124 F132 F133 E134 A135 Q123_0 (own_nx_ob (own_nx_ob (own_olc ⟨by decide, by decide⟩ (own_olc ⟨by decide, by decide⟩ (own_olc ⟨by decide, by decide⟩ own_oln))) (own_low_ob H8)) (own_low_ob H9)) (by decide) (by decide)) e145 hml pd_oLjava_lang_StringsaCIIcZ (y at_350) (fun v146 T146 L146 hQ146 X146 => ?_)
  obtain ⟨rfl, N146a, eh146⟩ := hQ146
  have N146 := Fr.app N145 N146a
  have e146 : T146.heap = T123.heap := eh146
  refine og2 X146 hx (fun j _ k => o_ifNo j (y at_353) (by decide) <| o_aload j (y at_356) rfl rfl <| o_aload j (y at_358) rfl rfl <| o_iload j (y at_360) rfl <| o_bipushV j 7 (y at_362) rfl <| k) ?_
  refine cS [(.ref r_46), (.ref a56), (.int (own_ln (own_nx (own_nx ([(105 : Int32), (102 : Int32), (95 : Int32)]) (0 : Int32) (own_low c0)) (own_sp (own_low c0)) (own_low c1)))), (.int 7)] [] 0 X146 hx hZ hown (w 200 rfl) (w 201 rfl) (w 194 rfl) (w 202 rfl) (rmEQ l Z a0 hw [] cs fm lo bl la lb li r_46 rb_46 rbk_46 a56 kc56 (own_nx (own_nx ([(105 : Int32), (102 : Int32), (95 : Int32)]) (0 : Int32) (own_low c0)) (own_sp (own_low c0)) (own_low c1)) (7 : Int32) T123.heap n0 Z123 H0 O124 F132 F133 E134 A135 Q123_0 (own_nx_ob (own_nx_ob (own_olc ⟨by decide, by decide⟩ (own_olc ⟨by decide, by decide⟩ (own_olc ⟨by decide, by decide⟩ own_oln))) (own_low_ob H8)) (own_low_ob H9)) (by decide) (by decide)) e146 hml pd_oLjava_lang_StringsaCIIcZ (y at_364) (fun v147 T147 L147 hQ147 X147 => ?_)
  obtain ⟨rfl, N147a, eh147⟩ := hQ147
  have N147 := Fr.app N146 N147a
  have e147 : T147.heap = T123.heap := eh147
  refine og2 X147 hx (fun j _ k => o_ifNo j (y at_367) (by decide) <| o_aload j (y at_370) rfl rfl <| o_aload j (y at_372) rfl rfl <| o_iload j (y at_374) rfl <| o_bipushV j 8 (y at_376) rfl <| k) ?_
  refine cS [(.ref r_46), (.ref a56), (.int (own_ln (own_nx (own_nx ([(105 : Int32), (102 : Int32), (95 : Int32)]) (0 : Int32) (own_low c0)) (own_sp (own_low c0)) (own_low c1)))), (.int 8)] [] 0 X147 hx hZ hown (w 200 rfl) (w 201 rfl) (w 194 rfl) (w 202 rfl) (rmEQ l Z a0 hw [] cs fm lo bl la lb li r_46 rb_46 rbk_46 a56 kc56 (own_nx (own_nx ([(105 : Int32), (102 : Int32), (95 : Int32)]) (0 : Int32) (own_low c0)) (own_sp (own_low c0)) (own_low c1)) (8 : Int32) T123.heap n0 Z123 H0 O124 F132 F133 E134 A135 Q123_0 (own_nx_ob (own_nx_ob (own_olc ⟨by decide, by decide⟩ (own_olc ⟨by decide, by decide⟩ (own_olc ⟨by decide, by decide⟩ own_oln))) (own_low_ob H8)) (own_low_ob H9)) (by decide) (by decide)) e147 hml pd_oLjava_lang_StringsaCIIcZ (y at_378) (fun v148 T148 L148 hQ148 X148 => ?_)
  obtain ⟨rfl, N148a, eh148⟩ := hQ148
  have N148 := Fr.app N147 N148a
  have e148 : T148.heap = T123.heap := eh148
  refine og2 X148 hx (fun j _ k => o_ifNo j (y at_381) (by decide) <| o_aload j (y at_384) rfl rfl <| o_aload j (y at_386) rfl rfl <| o_iload j (y at_388) rfl <| o_bipushV j 9 (y at_390) rfl <| k) ?_
  refine cS [(.ref r_46), (.ref a56), (.int (own_ln (own_nx (own_nx ([(105 : Int32), (102 : Int32), (95 : Int32)]) (0 : Int32) (own_low c0)) (own_sp (own_low c0)) (own_low c1)))), (.int 9)] [] 0 X148 hx hZ hown (w 200 rfl) (w 201 rfl) (w 194 rfl) (w 202 rfl) (rmEQ l Z a0 hw [] cs fm lo bl la lb li r_46 rb_46 rbk_46 a56 kc56 (own_nx (own_nx ([(105 : Int32), (102 : Int32), (95 : Int32)]) (0 : Int32) (own_low c0)) (own_sp (own_low c0)) (own_low c1)) (9 : Int32) T123.heap n0 Z123 H0 O124 F132 F133 E134 A135 Q123_0 (own_nx_ob (own_nx_ob (own_olc ⟨by decide, by decide⟩ (own_olc ⟨by decide, by decide⟩ (own_olc ⟨by decide, by decide⟩ own_oln))) (own_low_ob H8)) (own_low_ob H9)) (by decide) (by decide)) e148 hml pd_oLjava_lang_StringsaCIIcZ (y at_392) (fun v149 T149 L149 hQ149 X149 => ?_)
  obtain ⟨rfl, N149a, eh149⟩ := hQ149
  have N149 := Fr.app N148 N149a
  have e149 : T149.heap = T123.heap := eh149
  refine og2 X149 hx (fun j _ k => o_ifNo j (y at_395) (by decide) <| o_aload j (y at_398) rfl rfl <| o_aload j (y at_400) rfl rfl <| o_iload j (y at_402) rfl <| o_bipushV j 10 (y at_404) rfl <| k) ?_
  refine cS [(.ref r_46), (.ref a56), (.int (own_ln (own_nx (own_nx ([(105 : Int32), (102 : Int32), (95 : Int32)]) (0 : Int32) (own_low c0)) (own_sp (own_low c0)) (own_low c1)))), (.int 10)] [] 0 X149 hx hZ hown (w 200 rfl) (w 201 rfl) (w 194 rfl) (w 202 rfl) (rmEQ l Z a0 hw [] cs fm lo bl la lb li r_46 rb_46 rbk_46 a56 kc56 (own_nx (own_nx ([(105 : Int32), (102 : Int32), (95 : Int32)]) (0 : Int32) (own_low c0)) (own_sp (own_low c0)) (own_low c1)) (10 : Int32) T123.heap n0 Z123 H0 O124 F132 F133 E134 A135 Q123_0 (own_nx_ob (own_nx_ob (own_olc ⟨by decide, by decide⟩ (own_olc ⟨by decide, by decide⟩ (own_olc ⟨by decide, by decide⟩ own_oln))) (own_low_ob H8)) (own_low_ob H9)) (by decide) (by decide)) e149 hml pd_oLjava_lang_StringsaCIIcZ (y at_406) (fun v150 T150 L150 hQ150 X150 => ?_)
  obtain ⟨rfl, N150a, eh150⟩ := hQ150
  have N150 := Fr.app N149 N150a
  have e150 : T150.heap = T123.heap := eh150
  refine og2 X150 hx (fun j _ k => o_ifNo j (y at_409) (by decide) <| o_aload j (y at_412) rfl rfl <| o_aload j (y at_414) rfl rfl <| o_iload j (y at_416) rfl <| o_bipushV j 11 (y at_418) rfl <| k) ?_
  refine cS [(.ref r_46), (.ref a56), (.int (own_ln (own_nx (own_nx ([(105 : Int32), (102 : Int32), (95 : Int32)]) (0 : Int32) (own_low c0)) (own_sp (own_low c0)) (own_low c1)))), (.int 11)] [] 0 X150 hx hZ hown (w 200 rfl) (w 201 rfl) (w 194 rfl) (w 202 rfl) (rmEQ l Z a0 hw [] cs fm lo bl la lb li r_46 rb_46 rbk_46 a56 kc56 (own_nx (own_nx ([(105 : Int32), (102 : Int32), (95 : Int32)]) (0 : Int32) (own_low c0)) (own_sp (own_low c0)) (own_low c1)) (11 : Int32) T123.heap n0 Z123 H0 O124 F132 F133 E134 A135 Q123_0 (own_nx_ob (own_nx_ob (own_olc ⟨by decide, by decide⟩ (own_olc ⟨by decide, by decide⟩ (own_olc ⟨by decide, by decide⟩ own_oln))) (own_low_ob H8)) (own_low_ob H9)) (by decide) (by decide)) e150 hml pd_oLjava_lang_StringsaCIIcZ (y at_420) (fun v151 T151 L151 hQ151 X151 => ?_)
  obtain ⟨rfl, N151a, eh151⟩ := hQ151
  have N151 := Fr.app N150 N151a
  have e151 : T151.heap = T123.heap := eh151
  refine og2 X151 hx (fun j _ k => o_ifNo j (y at_423) (by decide) <| o_aload j (y at_426) rfl rfl <| o_aload j (y at_428) rfl rfl <| o_iload j (y at_430) rfl <| o_bipushV j 12 (y at_432) rfl <| k) ?_
  refine cS [(.ref r_46), (.ref a56), (.int (own_ln (own_nx (own_nx ([(105 : Int32), (102 : Int32), (95 : Int32)]) (0 : Int32) (own_low c0)) (own_sp (own_low c0)) (own_low c1)))), (.int 12)] [] 0 X151 hx hZ hown (w 200 rfl) (w 201 rfl) (w 194 rfl) (w 202 rfl) (rmEQ l Z a0 hw [] cs fm lo bl la lb li r_46 rb_46 rbk_46 a56 kc56 (own_nx (own_nx ([(105 : Int32), (102 : Int32), (95 : Int32)]) (0 : Int32) (own_low c0)) (own_sp (own_low c0)) (own_low c1)) (12 : Int32) T123.heap n0 Z123 H0 O124 F132 F133 E134 A135 Q123_0 (own_nx_ob (own_nx_ob (own_olc ⟨by decide, by decide⟩ (own_olc ⟨by decide, by decide⟩ (own_olc ⟨by decide, by decide⟩ own_oln))) (own_low_ob H8)) (own_low_ob H9)) (by decide) (by decide)) e151 hml pd_oLjava_lang_StringsaCIIcZ (y at_434) (fun v152 T152 L152 hQ152 X152 => ?_)
  obtain ⟨rfl, N152a, eh152⟩ := hQ152
  have N152 := Fr.app N151 N152a
  have e152 : T152.heap = T123.heap := eh152
  refine og2 X152 hx (fun j _ k => o_ifNo j (y at_437) (by decide) <| o_iconstV j 1 (y at_440) rfl <| o_goto j (pc' := 445) (y at_441) <| k) ?_
  exact rNW (v := (1 : Int32)) X152 hx Bd hS (Nat.le_trans (Nat.le_trans (Nat.le_trans (Nat.le_trans (Nat.le_trans (Nat.le_trans hkS E56.1) (Nat.le_of_eq W70.size.symm)) (Nat.le_of_eq W83.size.symm)) (Nat.le_of_eq W96.size.symm)) K110.1) K123.1) (by simp) rfl (y at_445) e152 ⟨rfl, N152⟩

def Q0v3 (Z : State) (cs : Int32) (fm : Value) (lo : Addr) (bl : Addr) (la : Addr) (lb : Addr) (li : Addr) (p1 : Int32) (p2 : Int32) (p3 : Int32) (p4 : Int32) (p5 : Int32) (p6 : Int32) (c0 : Int32) (c1 : Int32) (c2 : Int32) (c3 : Int32) (c4 : Int32) (h0 : Heap) (n0 : Nat) (v : Option Value) (h : Heap) (L : List Loc) : Prop := v = some (.int 1) ∧ Fr n0 L
theorem rm0v3 (l : Launch) (Z : State) (a0 : Array Value) (hw : HW a0 Z) (ws : List Jvm.Cond) (cs : Int32) (fm : Value) (lo : Addr) (bl : Addr) (la : Addr) (lb : Addr) (li : Addr) (p1 : Int32) (p2 : Int32) (p3 : Int32) (p4 : Int32) (p5 : Int32) (p6 : Int32) (c0 : Int32) (c1 : Int32) (c2 : Int32) (c3 : Int32) (c4 : Int32) (h0 : Heap) (n0 : Nat) (Z0 : n0 ≤ h0.size) (H0 : OSt Z cs fm lo bl la lb li) (pr1 : Old Z n0 h0) (H2 : own_i2c (p1 &&& (255 : Int32)) = c0) (H3 : own_i2c (p2 &&& (255 : Int32)) = c1) (H4 : own_i2c (p3 &&& (255 : Int32)) = c2) (H5 : own_i2c (p4 &&& (255 : Int32)) = c3) (H6 : own_i2c (p5 &&& (255 : Int32)) = c4) (H7 : (p6 &&& (7 : Int32)) - ((p6 &&& (7 : Int32)) / (6 : Int32)) * (6 : Int32) = 3) (H8 : OB c0) (H9 : OB c1) (H10 : OB c2) (H11 : OB c3) (H12 : OB c4) :
    MetFree l x (head1 (Jvm.Cond.code x code maxLocals ret :: ws) room_1) (fun a U => a = #[(.int p1), (.int p2), (.int p3), (.int p4), (.int p5), (.int p6)] ∧ Z.Warmed39 U.vm ∧ U.heap = h0 ∧ CHv Z own_EL U.vm h0) (fun _ _ _ _ _ => True) (fun _ U o U' => ∃ v L, o = .returned v ∧ Q0v3 Z cs fm lo bl la lb li p1 p2 p3 p4 p5 p6 c0 c1 c2 c3 c4 h0 n0 v U'.heap L ∧ ReturnedEndW U o U' L room_1.cells room_1.slots) := by
  refine og_startH (plainFor_of_name pn_com_example_obieg_obieg_ChoiceIdOfPinLaw) fun p e s m below meth c s₁ Bd hx hby hml hZ hown hnm X0 e0 hS hkS hC0 => ?_
  have y := @hb _ _ hby
  have w := @wd _ _ hw
  refine og (fun t k => castTop (ef20 m p1 p2 p3 p4 p5 p6) k) ?_
  refine og2 X0 hx (fun j _ k => o_iload j (y at_0) rfl <| o_bipushV j 7 (y at_2) rfl <| o_iand j (y at_4) <| o_bipushV j 6 (y at_5) rfl <| o_irem j (y at_7) (by decide) <| k) ?_
  rw [H7]
  refine og2 X0 hx (fun j _ k => o_istore j (y at_8) (l' := #[.val (.int p1), .val (.int p2), .val (.int p3), .val (.int p4), .val (.int p5), .val (.int p6), .val (.int 3), .unset, .unset, .unset, .unset, .unset]) rfl <| o_iconstV j 5 (y at_10) rfl <| k) ?_
  refine nP .char 5 "[C" X0 hx hZ (w 0 rfl) e0 (y at_11) (fun T1 h1 a1 kc1 g1 X1 e1 E1 A1 D1 => ?_)
  have Z1 : n0 ≤ h1.size := Nat.le_trans Z0 E1.1
  have G1 : n0 ≤ a1 := Nat.le_trans Z0 (Nat.le_of_eq g1.symm)
  have CH2 := CHv.ext E1 hC0
  have O3 := (pr1.ext E1)
  have SF1_a1 := Safe.ext E1 hC0 (Safe.new (Nat.le_of_eq g1.symm))
  have A4 : Arv Z h1 a1 kc1 .char (5 : Int32) [(.int 0), (.int 0), (.int 0), (.int 0), (.int 0)] (.int 0) := (A1.pad (pad_rep [] _ 5))
  refine og2 X1 hx (fun j _ k => o_astore j (y at_13) rfl (l' := #[.val (.int p1), .val (.int p2), .val (.int p3), .val (.int p4), .val (.int p5), .val (.int p6), .val (.int 3), .val (.ref a1), .unset, .unset, .unset, .unset]) rfl <| o_aload j (y at_15) rfl rfl <| o_iconstV j 0 (y at_17) rfl <| o_iloadN j (y at_18) rfl <| o_sipushV j 255 (y at_19) rfl <| o_iand j (y at_22) <| o_i2cO j (y at_23) <| k) ?_
  rw [H2]
  refine sC (v := c0) 0 X1 hx hZ e1 A4 (own_nar_ob H8) (y at_24) (fun T5 h5 X5 e5 W5 A5 => ?_)
  have SF6_a1 := Safe.wr W5 SF1_a1 CH2 SF1_a1
  have CH6 := CHv.wr W5 SF1_a1 CH2
  have N5 := Fr.snoc X5 (Fr.nil n0) G1
  have Z5 : n0 ≤ h5.size := (by rw [W5.size]; exact Z1)
  have O7 := (O3.wr W5 G1)
  have A5v : Arv Z h5 a1 kc1 .char (5 : Int32) [(.int c0), (.int 0), (.int 0), (.int 0), (.int 0)] (.int 0) := A5
  refine og2 X5 hx (fun j _ k => o_aload j (y at_25) rfl rfl <| o_iconstV j 1 (y at_27) rfl <| o_iloadN j (y at_28) rfl <| o_sipushV j 255 (y at_29) rfl <| o_iand j (y at_32) <| o_i2cO j (y at_33) <| k) ?_
  rw [H3]
  refine sC (v := c1) 1 X5 hx hZ e5 A5v (own_nar_ob H9) (y at_34) (fun T8 h8 X8 e8 W8 A8 => ?_)
  have SF9_a1 := Safe.wr W8 SF6_a1 CH6 SF6_a1
  have CH9 := CHv.wr W8 SF6_a1 CH6
  have N8 := Fr.snoc X8 N5 G1
  have Z8 : n0 ≤ h8.size := (by rw [W8.size]; exact Z5)
  have O10 := (O7.wr W8 G1)
  have A8v : Arv Z h8 a1 kc1 .char (5 : Int32) [(.int c0), (.int c1), (.int 0), (.int 0), (.int 0)] (.int 0) := A8
  refine og2 X8 hx (fun j _ k => o_aload j (y at_35) rfl rfl <| o_iconstV j 2 (y at_37) rfl <| o_iloadN j (y at_38) rfl <| o_sipushV j 255 (y at_39) rfl <| o_iand j (y at_42) <| o_i2cO j (y at_43) <| k) ?_
  rw [H4]
  refine sC (v := c2) 2 X8 hx hZ e8 A8v (own_nar_ob H10) (y at_44) (fun T11 h11 X11 e11 W11 A11 => ?_)
  have SF12_a1 := Safe.wr W11 SF9_a1 CH9 SF9_a1
  have CH12 := CHv.wr W11 SF9_a1 CH9
  have N11 := Fr.snoc X11 N8 G1
  have Z11 : n0 ≤ h11.size := (by rw [W11.size]; exact Z8)
  have O13 := (O10.wr W11 G1)
  have A11v : Arv Z h11 a1 kc1 .char (5 : Int32) [(.int c0), (.int c1), (.int c2), (.int 0), (.int 0)] (.int 0) := A11
  refine og2 X11 hx (fun j _ k => o_aload j (y at_45) rfl rfl <| o_iconstV j 3 (y at_47) rfl <| o_iloadN j (y at_48) rfl <| o_sipushV j 255 (y at_49) rfl <| o_iand j (y at_52) <| o_i2cO j (y at_53) <| k) ?_
  rw [H5]
  refine sC (v := c3) 3 X11 hx hZ e11 A11v (own_nar_ob H11) (y at_54) (fun T14 h14 X14 e14 W14 A14 => ?_)
  have SF15_a1 := Safe.wr W14 SF12_a1 CH12 SF12_a1
  have CH15 := CHv.wr W14 SF12_a1 CH12
  have N14 := Fr.snoc X14 N11 G1
  have Z14 : n0 ≤ h14.size := (by rw [W14.size]; exact Z11)
  have O16 := (O13.wr W14 G1)
  have A14v : Arv Z h14 a1 kc1 .char (5 : Int32) [(.int c0), (.int c1), (.int c2), (.int c3), (.int 0)] (.int 0) := A14
  refine og2 X14 hx (fun j _ k => o_aload j (y at_55) rfl rfl <| o_iconstV j 4 (y at_57) rfl <| o_iload j (y at_58) rfl <| o_sipushV j 255 (y at_60) rfl <| o_iand j (y at_63) <| o_i2cO j (y at_64) <| k) ?_
  rw [H6]
  refine sC (v := c4) 4 X14 hx hZ e14 A14v (own_nar_ob H12) (y at_65) (fun T17 h17 X17 e17 W17 A17 => ?_)
  have CH18 := CHv.wr W17 SF15_a1 CH15
  have N17 := Fr.snoc X17 N14 G1
  have Z17 : n0 ≤ h17.size := (by rw [W17.size]; exact Z14)
  have O19 := (O16.wr W17 G1)
  have A17v : Arv Z h17 a1 kc1 .char (5 : Int32) [(.int c0), (.int c1), (.int c2), (.int c3), (.int c4)] (.int 0) := A17
  refine og2 X17 hx (fun j _ k => o_iload j (y at_66) rfl <| k) ?_
  refine nP .char 3 "[C" X17 hx hZ (w 0 rfl) e17 (y at_68) (fun T20 h20 a20 kc20 g20 X20 e20 E20 A20 D20 => ?_)
  have Z20 : n0 ≤ h20.size := Nat.le_trans Z17 E20.1
  have G20 : n0 ≤ a20 := Nat.le_trans Z17 (Nat.le_of_eq g20.symm)
  have CH21 := CHv.ext E20 CH18
  have O22 := (O19.ext E20)
  have A23 := (A17v.ext E20)
  have SF20_a20 := Safe.ext E20 CH18 (Safe.new (Nat.le_of_eq g20.symm))
  have A24 : Arv Z h20 a20 kc20 .char (3 : Int32) [(.int 0), (.int 0), (.int 0)] (.int 0) := (A20.pad (pad_rep [] _ 3))
  refine og2 X20 hx (fun j _ k => o_astore j (y at_70) rfl (l' := #[.val (.int p1), .val (.int p2), .val (.int p3), .val (.int p4), .val (.int p5), .val (.int p6), .val (.int 3), .val (.ref a1), .val (.ref a20), .unset, .unset, .unset]) rfl <| o_iload j (y at_72) rfl <| o_ifNo j (y at_74) (by decide) <| o_aload j (y at_77) rfl rfl <| o_iconstV j 0 (y at_79) rfl <| o_aload j (y at_80) rfl rfl <| o_iconstV j 0 (y at_82) rfl <| o_caload (v := (.int c0)) X20 hx hZ e20 A23 ⟨by decide, by decide⟩ rfl (y at_83) <| k) ?_
  refine sC (v := c0) 0 X20 hx hZ e20 A24 (own_nar_ob H8) (y at_84) (fun T25 h25 X25 e25 W25 A25 => ?_)
  have SF26_a20 := Safe.wr W25 SF20_a20 CH21 SF20_a20
  have CH26 := CHv.wr W25 SF20_a20 CH21
  have N25 := Fr.snoc X25 N17 G20
  have Z25 : n0 ≤ h25.size := (by rw [W25.size]; exact Z20)
  have O27 := (O22.wr W25 G20)
  have A28 := (A23.other W25 (Nat.ne_of_lt (Nat.lt_of_lt_of_eq A17v.lt g20.symm)))
  have A25v : Arv Z h25 a20 kc20 .char (3 : Int32) [(.int c0), (.int 0), (.int 0)] (.int 0) := A25
  refine og2 X25 hx (fun j _ k => o_iload j (y at_85) rfl <| o_iconstV j 1 (y at_87) rfl <| o_icmpNo j (y at_88) (XT.ii_le_f (by decide)) <| o_aload j (y at_91) rfl rfl <| o_iconstV j 1 (y at_93) rfl <| o_aload j (y at_94) rfl rfl <| o_iconstV j 1 (y at_96) rfl <| o_caload (v := (.int c1)) X25 hx hZ e25 A28 ⟨by decide, by decide⟩ rfl (y at_97) <| k) ?_
  refine sC (v := c1) 1 X25 hx hZ e25 A25v (own_nar_ob H9) (y at_98) (fun T29 h29 X29 e29 W29 A29 => ?_)
  have SF30_a20 := Safe.wr W29 SF26_a20 CH26 SF26_a20
  have CH30 := CHv.wr W29 SF26_a20 CH26
  have N29 := Fr.snoc X29 N25 G20
  have Z29 : n0 ≤ h29.size := (by rw [W29.size]; exact Z25)
  have O31 := (O27.wr W29 G20)
  have A32 := (A28.other W29 (Nat.ne_of_lt (Nat.lt_of_lt_of_eq A17v.lt g20.symm)))
  have A29v : Arv Z h29 a20 kc20 .char (3 : Int32) [(.int c0), (.int c1), (.int 0)] (.int 0) := A29
  refine og2 X29 hx (fun j _ k => o_iload j (y at_99) rfl <| o_iconstV j 2 (y at_101) rfl <| o_icmpNo j (y at_102) (XT.ii_le_f (by decide)) <| o_aload j (y at_105) rfl rfl <| o_iconstV j 2 (y at_107) rfl <| o_aload j (y at_108) rfl rfl <| o_iconstV j 2 (y at_110) rfl <| o_caload (v := (.int c2)) X29 hx hZ e29 A32 ⟨by decide, by decide⟩ rfl (y at_111) <| k) ?_
  refine sC (v := c2) 2 X29 hx hZ e29 A29v (own_nar_ob H10) (y at_112) (fun T33 h33 X33 e33 W33 A33 => ?_)
  have CH34 := CHv.wr W33 SF30_a20 CH30
  have N33 := Fr.snoc X33 N29 G20
  have Z33 : n0 ≤ h33.size := (by rw [W33.size]; exact Z29)
  have O35 := (O31.wr W33 G20)
  have A36 := (A32.other W33 (Nat.ne_of_lt (Nat.lt_of_lt_of_eq A17v.lt g20.symm)))
  have A33v : Arv Z h33 a20 kc20 .char (3 : Int32) [(.int c0), (.int c1), (.int c2)] (.int 0) := A33
  refine og2 X33 hx (fun j _ k => o_iload j (y at_113) rfl <| o_iconstV j 3 (y at_115) rfl <| o_icmpYes j (pc' := 127) (y at_116) (XT.ii_le_t (by decide)) <| o_iload j (y at_127) rfl <| o_iconstV j 4 (y at_129) rfl <| o_icmpYes j (pc' := 141) (y at_130) (XT.ii_le_t (by decide)) <| k) ?_
  refine nO X33 hx hZ hown (w 1 rfl) (w 2 rfl) (w 3 rfl) e33 (y at_141) (fun T37 h37 a37 g37 X37 e37 E37 A37 D37 => ?_)
  have Z37 : n0 ≤ h37.size := Nat.le_trans Z33 E37.1
  have G37 : n0 ≤ a37 := Nat.le_trans Z33 (Nat.le_of_eq g37.symm)
  have CH38 := CHv.ext E37 CH34
  have O39 := (O35.ext E37)
  have A40 := (A36.ext E37)
  have A41 := (A33v.ext E37)
  have SF37_a37 := Safe.ext E37 CH34 (Safe.new (Nat.le_of_eq g37.symm))
  have F42 : Fld Z h37 a37 "java/lang/String" "coder" "B" (.int 0) := (D37 (Or.inr (w 27 rfl)) (ty := .byte) (by decide))
  have F43 : Fld Z h37 a37 "java/lang/String" "value" "[B" .null := (D37 (Or.inr (w 29 rfl)) (ty := (.array .byte)) (by decide))
  refine og2 X37 hx (fun j _ k => o_dup j (y at_144) rfl <| o_aload j (y at_145) rfl rfl <| k) ?_
  refine cI a37 [(.ref a20)] [(.ref a37)] 1 X37 hx hZ hown (w 4 rfl) (w 5 rfl) (w 3 rfl) (w 6 rfl) (rmI11 l Z a0 hw [] cs fm lo bl la lb li a37 a20 kc20 ([c0, c1, c2]) h37 n0 Z37 H0 O39 F43 F42 A37 A41 G37 (own_olc H8 (own_olc H9 (own_olc H10 own_oln))) (Nat.le_of_ble_eq_true rfl) (show ¬ ((3 : Int32) = 0) from by decide)) e37 hml pd_oaCcV (y at_147) (fun v44 T44 L44 hQ44 X44 => ?_)
  obtain ⟨b_44, bk_44, rfl, N44a, K44, Q44_0, Q44_1, Q44_2, Q44_3⟩ := hQ44
  have N44 := Fr.app N33 N44a
  have e44 : T44.heap = T44.heap := rfl
  have Z44 : n0 ≤ T44.heap.size := (Nat.le_trans Z37 K44.1)
  have CH45 := CHv.keep K44 (allS SF37_a37 all0) CH38
  have O46 := (O39.keep K44 (allS G37 all0))
  have A47 := (A40.keep K44 (ninS (Nat.ne_of_lt (Nat.lt_of_lt_of_eq A36.lt g37.symm)) nin0))
  refine cSJ [(.ref a37)] [] 0 X44 hx hZ hown hS (Nat.le_trans (Nat.le_trans (Nat.le_trans (Nat.le_trans (Nat.le_trans (Nat.le_trans (Nat.le_trans (Nat.le_trans (Nat.le_trans (Nat.le_trans (Nat.le_trans (Nat.le_trans hkS E1.1) (Nat.le_of_eq W5.size.symm)) (Nat.le_of_eq W8.size.symm)) (Nat.le_of_eq W11.size.symm)) (Nat.le_of_eq W14.size.symm)) (Nat.le_of_eq W17.size.symm)) E20.1) (Nat.le_of_eq W25.size.symm)) (Nat.le_of_eq W29.size.symm)) (Nat.le_of_eq W33.size.symm)) E37.1) K44.1) (w 30 rfl) (w 31 rfl) (w 32 rfl) (w 33 rfl) (own_EW hw) CH45 (rmOF l Z a0 hw [] cs fm lo bl la lb li a37 b_44 bk_44 ([c0, c1, c2]) T44.heap n0 Z44 H0 O46 Q44_0 Q44_1 Q44_2 Q44_3 (own_olc H8 (own_olc H9 (own_olc H10 own_oln))) (Nat.le_of_ble_eq_true rfl)) e44 hml pd_oLjava_lang_StringscLjava_lang_Strings (y at_150) (fun v50 T50 L50 hQ50 X50 hS hZ hown => ?_)
  obtain ⟨r_50, rb_50, rbk_50, rfl, N50a, K50, Q50_0, Q50_1, Q50_2, Q50_3⟩ := hQ50
  have N50 := Fr.app N44 N50a
  have e50 : T50.heap = T50.heap := rfl
  have Z50 : n0 ≤ T50.heap.size := (Nat.le_trans Z44 K50.1)
  have O51 := (O46.keep K50 all0)
  have A52 := (A47.keep K50 nin0)
  have hkS : T50.heap.size ≤ T50.heap.size := Nat.le_refl _
  have AR59 : Arv Z T50.heap rb_50 rbk_50 .byte (own_ln (own_nx (own_nx (own_nx ([(105 : Int32), (102 : Int32), (95 : Int32)]) (0 : Int32) (own_low c0)) (own_sp (own_low c0)) (own_low c1)) (own_sp (own_low c1)) (own_low c2))) (own_vb (own_nx (own_nx (own_nx ([(105 : Int32), (102 : Int32), (95 : Int32)]) (0 : Int32) (own_low c0)) (own_sp (own_low c0)) (own_low c1)) (own_sp (own_low c1)) (own_low c2))) (.int 0) := Q50_3
  refine og2 X50 hx (fun j _ k => o_astore j (y at_153) rfl (l' := #[.val (.int p1), .val (.int p2), .val (.int p3), .val (.int p4), .val (.int p5), .val (.int p6), .val (.int 3), .val (.ref a1), .val (.ref a20), .val (.ref r_50), .unset, .unset]) rfl <| o_bipushV j 13 (y at_155) rfl <| k) ?_
  refine nP .char 13 "[C" X50 hx hZ (w 0 rfl) e50 (y at_157) (fun T60 h60 a60 kc60 g60 X60 e60 E60 A60 D60 => ?_)
  have Z60 : n0 ≤ h60.size := Nat.le_trans Z50 E60.1
  have G60 : n0 ≤ a60 := Nat.le_trans Z50 (Nat.le_of_eq g60.symm)
  have O61 := (O51.ext E60)
  have A62 := (A52.ext E60)
  have F69 := (Fld.ext E60 Q50_0)
  have F70 := (Fld.ext E60 Q50_1)
  have E71 := (Exa.ext E60 Q50_2)
  have A72 := (AR59.ext E60)
  have A73 : Arv Z h60 a60 kc60 .char (13 : Int32) [(.int 0), (.int 0), (.int 0), (.int 0), (.int 0), (.int 0), (.int 0), (.int 0), (.int 0), (.int 0), (.int 0), (.int 0), (.int 0)] (.int 0) := (A60.pad (pad_rep [] _ 13))
  refine og2 X60 hx (fun j _ k => o_astore j (y at_159) rfl (l' := #[.val (.int p1), .val (.int p2), .val (.int p3), .val (.int p4), .val (.int p5), .val (.int p6), .val (.int 3), .val (.ref a1), .val (.ref a20), .val (.ref r_50), .val (.ref a60), .unset]) rfl <| o_aload j (y at_161) rfl rfl <| o_iconstV j 0 (y at_163) rfl <| o_bipushV j 105 (y at_164) rfl <| k) ?_
  refine sC (v := (105 : Int32)) 0 X60 hx hZ e60 A73 (by decide) (y at_166) (fun T74 h74 X74 e74 W74 A74 => ?_)
  have N74 := Fr.snoc X74 N50 G60
  have Z74 : n0 ≤ h74.size := (by rw [W74.size]; exact Z60)
  have O75 := (O61.wr W74 G60)
  have A76 := (A62.other W74 (Nat.ne_of_lt (Nat.lt_of_lt_of_eq A52.lt g60.symm)))
  have F83 := (Fld.other W74 F69 (Or.inl (Nat.ne_of_lt (Nat.lt_of_lt_of_eq Q50_0.lt g60.symm))))
  have F84 := (Fld.other W74 F70 (Or.inl (Nat.ne_of_lt (Nat.lt_of_lt_of_eq Q50_0.lt g60.symm))))
  have E85 := (Exa.wr W74 E71)
  have A86 := (A72.other W74 (Nat.ne_of_lt (Nat.lt_of_lt_of_eq AR59.lt g60.symm)))
  have A74v : Arv Z h74 a60 kc60 .char (13 : Int32) [(.int 105), (.int 0), (.int 0), (.int 0), (.int 0), (.int 0), (.int 0), (.int 0), (.int 0), (.int 0), (.int 0), (.int 0), (.int 0)] (.int 0) := A74
  refine og2 X74 hx (fun j _ k => o_aload j (y at_167) rfl rfl <| o_iconstV j 1 (y at_169) rfl <| o_bipushV j 102 (y at_170) rfl <| k) ?_
  refine sC (v := (102 : Int32)) 1 X74 hx hZ e74 A74v (by decide) (y at_172) (fun T87 h87 X87 e87 W87 A87 => ?_)
  have N87 := Fr.snoc X87 N74 G60
  have Z87 : n0 ≤ h87.size := (by rw [W87.size]; exact Z74)
  have O88 := (O75.wr W87 G60)
  have A89 := (A76.other W87 (Nat.ne_of_lt (Nat.lt_of_lt_of_eq A52.lt g60.symm)))
  have F96 := (Fld.other W87 F83 (Or.inl (Nat.ne_of_lt (Nat.lt_of_lt_of_eq Q50_0.lt g60.symm))))
  have F97 := (Fld.other W87 F84 (Or.inl (Nat.ne_of_lt (Nat.lt_of_lt_of_eq Q50_0.lt g60.symm))))
  have E98 := (Exa.wr W87 E85)
  have A99 := (A86.other W87 (Nat.ne_of_lt (Nat.lt_of_lt_of_eq AR59.lt g60.symm)))
  have A87v : Arv Z h87 a60 kc60 .char (13 : Int32) [(.int 105), (.int 102), (.int 0), (.int 0), (.int 0), (.int 0), (.int 0), (.int 0), (.int 0), (.int 0), (.int 0), (.int 0), (.int 0)] (.int 0) := A87
  refine og2 X87 hx (fun j _ k => o_aload j (y at_173) rfl rfl <| o_iconstV j 2 (y at_175) rfl <| o_bipushV j 95 (y at_176) rfl <| k) ?_
  refine sC (v := (95 : Int32)) 2 X87 hx hZ e87 A87v (by decide) (y at_178) (fun T100 h100 X100 e100 W100 A100 => ?_)
  have N100 := Fr.snoc X100 N87 G60
  have Z100 : n0 ≤ h100.size := (by rw [W100.size]; exact Z87)
  have O101 := (O88.wr W100 G60)
  have A102 := (A89.other W100 (Nat.ne_of_lt (Nat.lt_of_lt_of_eq A52.lt g60.symm)))
  have F109 := (Fld.other W100 F96 (Or.inl (Nat.ne_of_lt (Nat.lt_of_lt_of_eq Q50_0.lt g60.symm))))
  have F110 := (Fld.other W100 F97 (Or.inl (Nat.ne_of_lt (Nat.lt_of_lt_of_eq Q50_0.lt g60.symm))))
  have E111 := (Exa.wr W100 E98)
  have A112 := (A99.other W100 (Nat.ne_of_lt (Nat.lt_of_lt_of_eq AR59.lt g60.symm)))
  have A100v : Arv Z h100 a60 kc60 .char (13 : Int32) [(.int 105), (.int 102), (.int 95), (.int 0), (.int 0), (.int 0), (.int 0), (.int 0), (.int 0), (.int 0), (.int 0), (.int 0), (.int 0)] (.int 0) := A100
  refine og2 X100 hx (fun j _ k => o_iconstV j 3 (y at_179) rfl <| o_istore j (y at_180) (l' := #[.val (.int p1), .val (.int p2), .val (.int p3), .val (.int p4), .val (.int p5), .val (.int p6), .val (.int 3), .val (.ref a1), .val (.ref a20), .val (.ref r_50), .val (.ref a60), .val (.int 3)]) rfl <| k) ?_
  have AO113 : Arv Z h100 a60 kc60 .char (13 : Int32) (own_pc ([(105 : Int32), (102 : Int32), (95 : Int32)])) (.int 0) := A100v
  refine og2 X100 hx (fun j _ k => o_aload j (y at_182) rfl rfl <| o_iload j (y at_184) rfl <| o_iconstV j 0 (y at_186) rfl <| o_aload j (y at_187) rfl rfl <| o_iload j (y at_189) rfl <| k) ?_
  refine cS [(.ref a1), (.int 3), (.int 0), (.ref a60), (.int 3)] [] 0 X100 hx hZ hown (w 192 rfl) (w 193 rfl) (w 194 rfl) (w 195 rfl) (rmPU0 l Z a0 hw [] a1 kc1 a60 kc60 (3 : Int32) c0 c1 c2 c3 c4 ([(105 : Int32), (102 : Int32), (95 : Int32)]) h100 n0 Z100 A102 AO113 G60 (by decide) (Nat.lt_of_le_of_lt (Nat.le_of_ble_eq_true rfl : [(105 : Int32), (102 : Int32), (95 : Int32)].length ≤ 3) (by decide)) H8 (Nat.ne_of_lt (Nat.lt_of_lt_of_eq A52.lt g60.symm))) e100 hml pd_oaCIIaCIcI (y at_191) (fun v114 T114 L114 hQ114 X114 => ?_)
  obtain ⟨rfl, N114a, K114, Q114_0⟩ := hQ114
  have N114 := Fr.app N100 N114a
  have e114 : T114.heap = T114.heap := rfl
  have Z114 : n0 ≤ T114.heap.size := (Nat.le_trans Z100 K114.1)
  have O115 := (O101.keep K114 (allS G60 all0))
  have A116 := (A102.keep K114 (ninS (Nat.ne_of_lt (Nat.lt_of_lt_of_eq A52.lt g60.symm)) nin0))
  have F123 := (F109.keep K114 (ninS (Nat.ne_of_lt (Nat.lt_of_lt_of_eq Q50_0.lt g60.symm)) nin0))
  have F124 := (F110.keep K114 (ninS (Nat.ne_of_lt (Nat.lt_of_lt_of_eq Q50_0.lt g60.symm)) nin0))
  have E125 := (E111.keep K114)
  have A126 := (A112.keep K114 (ninS (Nat.ne_of_lt (Nat.lt_of_lt_of_eq AR59.lt g60.symm)) nin0))
  refine og2 X114 hx (fun j _ k => o_istore j (y at_194) (l' := #[.val (.int p1), .val (.int p2), .val (.int p3), .val (.int p4), .val (.int p5), .val (.int p6), .val (.int 3), .val (.ref a1), .val (.ref a20), .val (.ref r_50), .val (.ref a60), .val (.int (own_ln (own_nx ([(105 : Int32), (102 : Int32), (95 : Int32)]) (0 : Int32) (own_low c0))))]) rfl <| o_aload j (y at_196) rfl rfl <| o_iload j (y at_198) rfl <| o_iconstV j 1 (y at_200) rfl <| o_aload j (y at_201) rfl rfl <| o_iload j (y at_203) rfl <| k) ?_
  refine cS [(.ref a1), (.int 3), (.int 1), (.ref a60), (.int (own_ln (own_nx ([(105 : Int32), (102 : Int32), (95 : Int32)]) (0 : Int32) (own_low c0))))] [] 0 X114 hx hZ hown (w 192 rfl) (w 193 rfl) (w 194 rfl) (w 195 rfl) (rmPU1 l Z a0 hw [] a1 kc1 a60 kc60 (3 : Int32) c0 c1 c2 c3 c4 (own_nx ([(105 : Int32), (102 : Int32), (95 : Int32)]) (0 : Int32) (own_low c0)) T114.heap n0 Z114 A116 Q114_0 G60 (by decide) (Nat.lt_of_le_of_lt (own_nxl (Nat.le_of_ble_eq_true rfl : [(105 : Int32), (102 : Int32), (95 : Int32)].length ≤ 3)) (by decide)) H9 (Nat.ne_of_lt (Nat.lt_of_lt_of_eq A52.lt g60.symm)) H8) e114 hml pd_oaCIIaCIcI (y at_205) (fun v127 T127 L127 hQ127 X127 => ?_)
  obtain ⟨rfl, N127a, K127, Q127_0⟩ := hQ127
  have N127 := Fr.app N114 N127a
  have e127 : T127.heap = T127.heap := rfl
  have Z127 : n0 ≤ T127.heap.size := (Nat.le_trans Z114 K127.1)
  have O128 := (O115.keep K127 (allS G60 all0))
  have A129 := (A116.keep K127 (ninS (Nat.ne_of_lt (Nat.lt_of_lt_of_eq A52.lt g60.symm)) nin0))
  have F136 := (F123.keep K127 (ninS (Nat.ne_of_lt (Nat.lt_of_lt_of_eq Q50_0.lt g60.symm)) nin0))
  have F137 := (F124.keep K127 (ninS (Nat.ne_of_lt (Nat.lt_of_lt_of_eq Q50_0.lt g60.symm)) nin0))
  have E138 := (E125.keep K127)
  have A139 := (A126.keep K127 (ninS (Nat.ne_of_lt (Nat.lt_of_lt_of_eq AR59.lt g60.symm)) nin0))
  refine og2 X127 hx (fun j _ k => o_istore j (y at_208) (l' := #[.val (.int p1), .val (.int p2), .val (.int p3), .val (.int p4), .val (.int p5), .val (.int p6), .val (.int 3), .val (.ref a1), .val (.ref a20), .val (.ref r_50), .val (.ref a60), .val (.int (own_ln (own_nx (own_nx ([(105 : Int32), (102 : Int32), (95 : Int32)]) (0 : Int32) (own_low c0)) (own_sp (own_low c0)) (own_low c1))))]) rfl <| o_aload j (y at_210) rfl rfl <| o_iload j (y at_212) rfl <| o_iconstV j 2 (y at_214) rfl <| o_aload j (y at_215) rfl rfl <| o_iload j (y at_217) rfl <| k) ?_
  refine cS [(.ref a1), (.int 3), (.int 2), (.ref a60), (.int (own_ln (own_nx (own_nx ([(105 : Int32), (102 : Int32), (95 : Int32)]) (0 : Int32) (own_low c0)) (own_sp (own_low c0)) (own_low c1))))] [] 0 X127 hx hZ hown (w 192 rfl) (w 193 rfl) (w 194 rfl) (w 195 rfl) (rmPU2 l Z a0 hw [] a1 kc1 a60 kc60 (3 : Int32) c0 c1 c2 c3 c4 (own_nx (own_nx ([(105 : Int32), (102 : Int32), (95 : Int32)]) (0 : Int32) (own_low c0)) (own_sp (own_low c0)) (own_low c1)) T127.heap n0 Z127 A129 Q127_0 G60 (by decide) (Nat.lt_of_le_of_lt (own_nxl (own_nxl (Nat.le_of_ble_eq_true rfl : [(105 : Int32), (102 : Int32), (95 : Int32)].length ≤ 3))) (by decide)) H10 (Nat.ne_of_lt (Nat.lt_of_lt_of_eq A52.lt g60.symm)) H9) e127 hml pd_oaCIIaCIcI (y at_219) (fun v140 T140 L140 hQ140 X140 => ?_)
  obtain ⟨rfl, N140a, K140, Q140_0⟩ := hQ140
  have N140 := Fr.app N127 N140a
  have e140 : T140.heap = T140.heap := rfl
  have Z140 : n0 ≤ T140.heap.size := (Nat.le_trans Z127 K140.1)
  have O141 := (O128.keep K140 (allS G60 all0))
  have F149 := (F136.keep K140 (ninS (Nat.ne_of_lt (Nat.lt_of_lt_of_eq Q50_0.lt g60.symm)) nin0))
  have F150 := (F137.keep K140 (ninS (Nat.ne_of_lt (Nat.lt_of_lt_of_eq Q50_0.lt g60.symm)) nin0))
  have E151 := (E138.keep K140)
  have A152 := (A139.keep K140 (ninS (Nat.ne_of_lt (Nat.lt_of_lt_of_eq AR59.lt g60.symm)) nin0))
  refine og2 X140 hx (fun j _ k => o_istore j (y at_222) (l' := #[.val (.int p1), .val (.int p2), .val (.int p3), .val (.int p4), .val (.int p5), .val (.int p6), .val (.int 3), .val (.ref a1), .val (.ref a20), .val (.ref r_50), .val (.ref a60), .val (.int (own_ln (own_nx (own_nx (own_nx ([(105 : Int32), (102 : Int32), (95 : Int32)]) (0 : Int32) (own_low c0)) (own_sp (own_low c0)) (own_low c1)) (own_sp (own_low c1)) (own_low c2))))]) rfl <| o_aload j (y at_224) rfl rfl <| o_iload j (y at_226) rfl <| o_iconstV j 3 (y at_228) rfl <| o_aload j (y at_229) rfl rfl <| o_iload j (y at_231) rfl <| k) ?_
  refine cS [(.ref a1), (.int 3), (.int 3), (.ref a60), (.int (own_ln (own_nx (own_nx (own_nx ([(105 : Int32), (102 : Int32), (95 : Int32)]) (0 : Int32) (own_low c0)) (own_sp (own_low c0)) (own_low c1)) (own_sp (own_low c1)) (own_low c2))))] [] 0 X140 hx hZ hown (w 192 rfl) (w 193 rfl) (w 194 rfl) (w 195 rfl) (rmPS l Z a0 hw [] a1 (3 : Int32) (3 : Int32) a60 (own_ln (own_nx (own_nx (own_nx ([(105 : Int32), (102 : Int32), (95 : Int32)]) (0 : Int32) (own_low c0)) (own_sp (own_low c0)) (own_low c1)) (own_sp (own_low c1)) (own_low c2))) T140.heap n0 Z140 (by decide)) e140 hml pd_oaCIIaCIcI (y at_233) (fun v153 T153 L153 hQ153 X153 => ?_)
  obtain ⟨rfl, N153a, eh153⟩ := hQ153
  have N153 := Fr.app N140 N153a
  have e153 : T153.heap = T140.heap := eh153
  refine og2 X153 hx (fun j _ k => o_istore j (y at_236) (l' := #[.val (.int p1), .val (.int p2), .val (.int p3), .val (.int p4), .val (.int p5), .val (.int p6), .val (.int 3), .val (.ref a1), .val (.ref a20), .val (.ref r_50), .val (.ref a60), .val (.int (own_ln (own_nx (own_nx (own_nx ([(105 : Int32), (102 : Int32), (95 : Int32)]) (0 : Int32) (own_low c0)) (own_sp (own_low c0)) (own_low c1)) (own_sp (own_low c1)) (own_low c2))))]) rfl <| o_aload j (y at_238) rfl rfl <| o_iload j (y at_240) rfl <| o_iconstV j 4 (y at_242) rfl <| o_aload j (y at_243) rfl rfl <| o_iload j (y at_245) rfl <| k) ?_
  refine cS [(.ref a1), (.int 3), (.int 4), (.ref a60), (.int (own_ln (own_nx (own_nx (own_nx ([(105 : Int32), (102 : Int32), (95 : Int32)]) (0 : Int32) (own_low c0)) (own_sp (own_low c0)) (own_low c1)) (own_sp (own_low c1)) (own_low c2))))] [] 0 X153 hx hZ hown (w 192 rfl) (w 193 rfl) (w 194 rfl) (w 195 rfl) (rmPS l Z a0 hw [] a1 (3 : Int32) (4 : Int32) a60 (own_ln (own_nx (own_nx (own_nx ([(105 : Int32), (102 : Int32), (95 : Int32)]) (0 : Int32) (own_low c0)) (own_sp (own_low c0)) (own_low c1)) (own_sp (own_low c1)) (own_low c2))) T140.heap n0 Z140 (by decide)) e153 hml pd_oaCIIaCIcI (y at_247) (fun v154 T154 L154 hQ154 X154 => ?_)
  obtain ⟨rfl, N154a, eh154⟩ := hQ154
  have N154 := Fr.app N153 N154a
  have e154 : T154.heap = T140.heap := eh154
  refine og2 X154 hx (fun j _ k => o_istore j (y at_250) (l' := #[.val (.int p1), .val (.int p2), .val (.int p3), .val (.int p4), .val (.int p5), .val (.int p6), .val (.int 3), .val (.ref a1), .val (.ref a20), .val (.ref r_50), .val (.ref a60), .val (.int (own_ln (own_nx (own_nx (own_nx ([(105 : Int32), (102 : Int32), (95 : Int32)]) (0 : Int32) (own_low c0)) (own_sp (own_low c0)) (own_low c1)) (own_sp (own_low c1)) (own_low c2))))]) rfl <| o_aload j (y at_252) rfl rfl <| k) ?_
  refine cV r_50 [] [] 0 X154 hx hZ hown (w 199 rfl) (w 69 rfl) (w 71 rfl) (w 70 rfl) (w 3 rfl) (w 72 rfl) (rmLE l Z a0 hw [] cs fm lo bl la lb li r_50 rb_50 rbk_50 (own_ln (own_nx (own_nx (own_nx ([(105 : Int32), (102 : Int32), (95 : Int32)]) (0 : Int32) (own_low c0)) (own_sp (own_low c0)) (own_low c1)) (own_sp (own_low c1)) (own_low c2))) (own_vb (own_nx (own_nx (own_nx ([(105 : Int32), (102 : Int32), (95 : Int32)]) (0 : Int32) (own_low c0)) (own_sp (own_low c0)) (own_low c1)) (own_sp (own_low c1)) (own_low c2))) T140.heap n0 Z140 H0 O141 F149 F150 E151 A152) e154 E151 hml pd_ocI (y at_254) (fun v155 T155 L155 hQ155 X155 => ?_)
  obtain ⟨rfl, N155a, eh155⟩ := hQ155
  have N155 := Fr.app N154 N155a
  have e155 : T155.heap = T140.heap := eh155
  refine og2 X155 hx (fun j _ k => o_iload j (y at_257) rfl <| o_icmpYes j (pc' := 264) (y at_259) (XT.ii_eq_t rfl) <| o_aload j (y at_264) rfl rfl <| o_aload j (y at_266) rfl rfl <| o_iload j (y at_268) rfl <| o_iconstV j 0 (y at_270) rfl <| k) ?_
  refine cS [(.ref r_50), (.ref a60), (.int (own_ln (own_nx (own_nx (own_nx ([(105 : Int32), (102 : Int32), (95 : Int32)]) (0 : Int32) (own_low c0)) (own_sp (own_low c0)) (own_low c1)) (own_sp (own_low c1)) (own_low c2)))), (.int 0)] [] 0 X155 hx hZ hown (w 200 rfl) (w 201 rfl) (w 194 rfl) (w 202 rfl) (rmEQ l Z a0 hw [] cs fm lo bl la lb li r_50 rb_50 rbk_50 a60 kc60 (own_nx (own_nx (own_nx ([(105 : Int32), (102 : Int32), (95 : Int32)]) (0 : Int32) (own_low c0)) (own_sp (own_low c0)) (own_low c1)) (own_sp (own_low c1)) (own_low c2)) (0 : Int32) T140.heap n0 Z140 H0 O141 F149 F150 E151 A152 Q140_0 (own_nx_ob (own_nx_ob (own_nx_ob (own_olc ⟨by decide, by decide⟩ (own_olc ⟨by decide, by decide⟩ (own_olc ⟨by decide, by decide⟩ own_oln))) (own_low_ob H8)) (own_low_ob H9)) (own_low_ob H10)) (by decide) (by decide)) e155 hml pd_oLjava_lang_StringsaCIIcZ (y at_271) (fun v156 T156 L156 hQ156 X156 => ?_)
  obtain ⟨rfl, N156a, eh156⟩ := hQ156
  have N156 := Fr.app N155 N156a
  have e156 : T156.heap = T140.heap := eh156
  refine og2 X156 hx (fun j _ k => o_ifNo j (y at_274) (by decide) <| o_aload j (y at_277) rfl rfl <| o_aload j (y at_279) rfl rfl <| o_iload j (y at_281) rfl <| o_iconstV j 1 (y at_283) rfl <| k) ?_
  refine cS [(.ref r_50), (.ref a60), (.int (own_ln (own_nx (own_nx (own_nx ([(105 : Int32), (102 : Int32), (95 : Int32)]) (0 : Int32) (own_low c0)) (own_sp (own_low c0)) (own_low c1)) (own_sp (own_low c1)) (own_low c2)))), (.int 1)] [] 0 X156 hx hZ hown (w 200 rfl) (w 201 rfl) (w 194 rfl) (w 202 rfl) (rmEQ l Z a0 hw [] cs fm lo bl la lb li r_50 rb_50 rbk_50 a60 kc60 (own_nx (own_nx (own_nx ([(105 : Int32), (102 : Int32), (95 : Int32)]) (0 : Int32) (own_low c0)) (own_sp (own_low c0)) (own_low c1)) (own_sp (own_low c1)) (own_low c2)) (1 : Int32) T140.heap n0 Z140 H0 O141 F149 F150 E151 A152 Q140_0 (own_nx_ob (own_nx_ob (own_nx_ob (own_olc ⟨by decide, by decide⟩ (own_olc ⟨by decide, by decide⟩ (own_olc ⟨by decide, by decide⟩ own_oln))) (own_low_ob H8)) (own_low_ob H9)) (own_low_ob H10)) (by decide) (by decide)) e156 hml pd_oLjava_lang_StringsaCIIcZ (y at_284) (fun v157 T157 L157 hQ157 X157 => ?_)
  obtain ⟨rfl, N157a, eh157⟩ := hQ157
  have N157 := Fr.app N156 N157a
  have e157 : T157.heap = T140.heap := eh157
  refine og2 X157 hx (fun j _ k => o_ifNo j (y at_287) (by decide) <| o_aload j (y at_290) rfl rfl <| o_aload j (y at_292) rfl rfl <| o_iload j (y at_294) rfl <| o_iconstV j 2 (y at_296) rfl <| k) ?_
  refine cS [(.ref r_50), (.ref a60), (.int (own_ln (own_nx (own_nx (own_nx ([(105 : Int32), (102 : Int32), (95 : Int32)]) (0 : Int32) (own_low c0)) (own_sp (own_low c0)) (own_low c1)) (own_sp (own_low c1)) (own_low c2)))), (.int 2)] [] 0 X157 hx hZ hown (w 200 rfl) (w 201 rfl) (w 194 rfl) (w 202 rfl) (rmEQ l Z a0 hw [] cs fm lo bl la lb li r_50 rb_50 rbk_50 a60 kc60 (own_nx (own_nx (own_nx ([(105 : Int32), (102 : Int32), (95 : Int32)]) (0 : Int32) (own_low c0)) (own_sp (own_low c0)) (own_low c1)) (own_sp (own_low c1)) (own_low c2)) (2 : Int32) T140.heap n0 Z140 H0 O141 F149 F150 E151 A152 Q140_0 (own_nx_ob (own_nx_ob (own_nx_ob (own_olc ⟨by decide, by decide⟩ (own_olc ⟨by decide, by decide⟩ (own_olc ⟨by decide, by decide⟩ own_oln))) (own_low_ob H8)) (own_low_ob H9)) (own_low_ob H10)) (by decide) (by decide)) e157 hml pd_oLjava_lang_StringsaCIIcZ (y at_297) (fun v158 T158 L158 hQ158 X158 => ?_)
  obtain ⟨rfl, N158a, eh158⟩ := hQ158
  have N158 := Fr.app N157 N158a
  have e158 : T158.heap = T140.heap := eh158
  refine og2 X158 hx (fun j _ k => o_ifNo j (y at_300) (by decide) <| o_aload j (y at_303) rfl rfl <| o_aload j (y at_305) rfl rfl <| o_iload j (y at_307) rfl <| o_iconstV j 3 (y at_309) rfl <| k) ?_
  refine cS [(.ref r_50), (.ref a60), (.int (own_ln (own_nx (own_nx (own_nx ([(105 : Int32), (102 : Int32), (95 : Int32)]) (0 : Int32) (own_low c0)) (own_sp (own_low c0)) (own_low c1)) (own_sp (own_low c1)) (own_low c2)))), (.int 3)] [] 0 X158 hx hZ hown (w 200 rfl) (w 201 rfl) (w 194 rfl) (w 202 rfl) (rmEQ l Z a0 hw [] cs fm lo bl la lb li r_50 rb_50 rbk_50 a60 kc60 (own_nx (own_nx (own_nx ([(105 : Int32), (102 : Int32), (95 : Int32)]) (0 : Int32) (own_low c0)) (own_sp (own_low c0)) (own_low c1)) (own_sp (own_low c1)) (own_low c2)) (3 : Int32) T140.heap n0 Z140 H0 O141 F149 F150 E151 A152 Q140_0 (own_nx_ob (own_nx_ob (own_nx_ob (own_olc ⟨by decide, by decide⟩ (own_olc ⟨by decide, by decide⟩ (own_olc ⟨by decide, by decide⟩ own_oln))) (own_low_ob H8)) (own_low_ob H9)) (own_low_ob H10)) (by decide) (by decide)) e158 hml pd_oLjava_lang_StringsaCIIcZ (y at_310) (fun v159 T159 L159 hQ159 X159 => ?_)
  obtain ⟨rfl, N159a, eh159⟩ := hQ159
  have N159 := Fr.app N158 N159a
  have e159 : T159.heap = T140.heap := eh159
  refine og2 X159 hx (fun j _ k => o_ifNo j (y at_313) (by decide) <| o_aload j (y at_316) rfl rfl <| o_aload j (y at_318) rfl rfl <| o_iload j (y at_320) rfl <| o_iconstV j 4 (y at_322) rfl <| k) ?_
  refine cS [(.ref r_50), (.ref a60), (.int (own_ln (own_nx (own_nx (own_nx ([(105 : Int32), (102 : Int32), (95 : Int32)]) (0 : Int32) (own_low c0)) (own_sp (own_low c0)) (own_low c1)) (own_sp (own_low c1)) (own_low c2)))), (.int 4)] [] 0 X159 hx hZ hown (w 200 rfl) (w 201 rfl) (w 194 rfl) (w 202 rfl) (rmEQ l Z a0 hw [] cs fm lo bl la lb li r_50 rb_50 rbk_50 a60 kc60 (own_nx (own_nx (own_nx ([(105 : Int32), (102 : Int32), (95 : Int32)]) (0 : Int32) (own_low c0)) (own_sp (own_low c0)) (own_low c1)) (own_sp (own_low c1)) (own_low c2)) (4 : Int32) T140.heap n0 Z140 H0 O141 F149 F150 E151 A152 Q140_0 (own_nx_ob (own_nx_ob (own_nx_ob (own_olc ⟨by decide, by decide⟩ (own_olc ⟨by decide, by decide⟩ (own_olc ⟨by decide, by decide⟩ own_oln))) (own_low_ob H8)) (own_low_ob H9)) (own_low_ob H10)) (by decide) (by decide)) e159 hml pd_oLjava_lang_StringsaCIIcZ (y at_323) (fun v160 T160 L160 hQ160 X160 => ?_)
  obtain ⟨rfl, N160a, eh160⟩ := hQ160
  have N160 := Fr.app N159 N160a
  have e160 : T160.heap = T140.heap := eh160
  refine og2 X160 hx (fun j _ k => o_ifNo j (y at_326) (by decide) <| o_aload j (y at_329) rfl rfl <| o_aload j (y at_331) rfl rfl <| o_iload j (y at_333) rfl <| o_iconstV j 5 (y at_335) rfl <| k) ?_
  refine cS [(.ref r_50), (.ref a60), (.int (own_ln (own_nx (own_nx (own_nx ([(105 : Int32), (102 : Int32), (95 : Int32)]) (0 : Int32) (own_low c0)) (own_sp (own_low c0)) (own_low c1)) (own_sp (own_low c1)) (own_low c2)))), (.int 5)] [] 0 X160 hx hZ hown (w 200 rfl) (w 201 rfl) (w 194 rfl) (w 202 rfl) (rmEQ l Z a0 hw [] cs fm lo bl la lb li r_50 rb_50 rbk_50 a60 kc60 (own_nx (own_nx (own_nx ([(105 : Int32), (102 : Int32), (95 : Int32)]) (0 : Int32) (own_low c0)) (own_sp (own_low c0)) (own_low c1)) (own_sp (own_low c1)) (own_low c2)) (5 : Int32) T140.heap n0 Z140 H0 O141 F149 F150 E151 A152 Q140_0 (own_nx_ob (own_nx_ob (own_nx_ob (own_olc ⟨by decide, by decide⟩ (own_olc ⟨by decide, by decide⟩ (own_olc ⟨by decide, by decide⟩ own_oln))) (own_low_ob H8)) (own_low_ob H9)) (own_low_ob H10)) (by decide) (by decide)) e160 hml pd_oLjava_lang_StringsaCIIcZ (y at_336) (fun v161 T161 L161 hQ161 X161 => ?_)
  obtain ⟨rfl, N161a, eh161⟩ := hQ161
  have N161 := Fr.app N160 N161a
  have e161 : T161.heap = T140.heap := eh161
  refine og2 X161 hx (fun j _ k => o_ifNo j (y at_339) (by decide) <| o_aload j (y at_342) rfl rfl <| o_aload j (y at_344) rfl rfl <| o_iload j (y at_346) rfl <| o_bipushV j 6 (y at_348) rfl <| k) ?_
  refine cS [(.ref r_50), (.ref a60), (.int (own_ln (own_nx (own_nx (own_nx ([(105 : Int32), (102 : Int32), (95 : Int32)]) (0 : Int32) (own_low c0)) (own_sp (own_low c0)) (own_low c1)) (own_sp (own_low c1)) (own_low c2)))), (.int 6)] [] 0 X161 hx hZ hown (w 200 rfl) (w 201 rfl) (w 194 rfl) (w 202 rfl) (rmEQ l Z a0 hw [] cs fm lo bl la lb li r_50 rb_50 rbk_50 a60 kc60 (own_nx (own_nx (own_nx ([(105 : Int32), (102 : Int32), (95 : Int32)]) (0 : Int32) (own_low c0)) (own_sp (own_low c0)) (own_low c1)) (own_sp (own_low c1)) (own_low c2)) (6 : Int32) T140.heap n0 Z140 H0 O141 F149 F150 E151 A152 Q140_0 (own_nx_ob (own_nx_ob (own_nx_ob (own_olc ⟨by decide, by decide⟩ (own_olc ⟨by decide, by decide⟩ (own_olc ⟨by decide, by decide⟩ own_oln))) (own_low_ob H8)) (own_low_ob H9)) (own_low_ob H10)) (by decide) (by decide)) e161 hml pd_oLjava_lang_StringsaCIIcZ (y at_350) (fun v162 T162 L162 hQ162 X162 => ?_)
  obtain ⟨rfl, N162a, eh162⟩ := hQ162
  have N162 := Fr.app N161 N162a
  have e162 : T162.heap = T140.heap := eh162
  refine og2 X162 hx (fun j _ k => o_ifNo j (y at_353) (by decide) <| o_aload j (y at_356) rfl rfl <| o_aload j (y at_358) rfl rfl <| o_iload j (y at_360) rfl <| o_bipushV j 7 (y at_362) rfl <| k) ?_
  refine cS [(.ref r_50), (.ref a60), (.int (own_ln (own_nx (own_nx (own_nx ([(105 : Int32), (102 : Int32), (95 : Int32)]) (0 : Int32) (own_low c0)) (own_sp (own_low c0)) (own_low c1)) (own_sp (own_low c1)) (own_low c2)))), (.int 7)] [] 0 X162 hx hZ hown (w 200 rfl) (w 201 rfl) (w 194 rfl) (w 202 rfl) (rmEQ l Z a0 hw [] cs fm lo bl la lb li r_50 rb_50 rbk_50 a60 kc60 (own_nx (own_nx (own_nx ([(105 : Int32), (102 : Int32), (95 : Int32)]) (0 : Int32) (own_low c0)) (own_sp (own_low c0)) (own_low c1)) (own_sp (own_low c1)) (own_low c2)) (7 : Int32) T140.heap n0 Z140 H0 O141 F149 F150 E151 A152 Q140_0 (own_nx_ob (own_nx_ob (own_nx_ob (own_olc ⟨by decide, by decide⟩ (own_olc ⟨by decide, by decide⟩ (own_olc ⟨by decide, by decide⟩ own_oln))) (own_low_ob H8)) (own_low_ob H9)) (own_low_ob H10)) (by decide) (by decide)) e162 hml pd_oLjava_lang_StringsaCIIcZ (y at_364) (fun v163 T163 L163 hQ163 X163 => ?_)
  obtain ⟨rfl, N163a, eh163⟩ := hQ163
  have N163 := Fr.app N162 N163a
  have e163 : T163.heap = T140.heap := eh163
  refine og2 X163 hx (fun j _ k => o_ifNo j (y at_367) (by decide) <| o_aload j (y at_370) rfl rfl <| o_aload j (y at_372) rfl rfl <| o_iload j (y at_374) rfl <| o_bipushV j 8 (y at_376) rfl <| k) ?_
  refine cS [(.ref r_50), (.ref a60), (.int (own_ln (own_nx (own_nx (own_nx ([(105 : Int32), (102 : Int32), (95 : Int32)]) (0 : Int32) (own_low c0)) (own_sp (own_low c0)) (own_low c1)) (own_sp (own_low c1)) (own_low c2)))), (.int 8)] [] 0 X163 hx hZ hown (w 200 rfl) (w 201 rfl) (w 194 rfl) (w 202 rfl) (rmEQ l Z a0 hw [] cs fm lo bl la lb li r_50 rb_50 rbk_50 a60 kc60 (own_nx (own_nx (own_nx ([(105 : Int32), (102 : Int32), (95 : Int32)]) (0 : Int32) (own_low c0)) (own_sp (own_low c0)) (own_low c1)) (own_sp (own_low c1)) (own_low c2)) (8 : Int32) T140.heap n0 Z140 H0 O141 F149 F150 E151 A152 Q140_0 (own_nx_ob (own_nx_ob (own_nx_ob (own_olc ⟨by decide, by decide⟩ (own_olc ⟨by decide, by decide⟩ (own_olc ⟨by decide, by decide⟩ own_oln))) (own_low_ob H8)) (own_low_ob H9)) (own_low_ob H10)) (by decide) (by decide)) e163 hml pd_oLjava_lang_StringsaCIIcZ (y at_378) (fun v164 T164 L164 hQ164 X164 => ?_)
  obtain ⟨rfl, N164a, eh164⟩ := hQ164
  have N164 := Fr.app N163 N164a
  have e164 : T164.heap = T140.heap := eh164
  refine og2 X164 hx (fun j _ k => o_ifNo j (y at_381) (by decide) <| o_aload j (y at_384) rfl rfl <| o_aload j (y at_386) rfl rfl <| o_iload j (y at_388) rfl <| o_bipushV j 9 (y at_390) rfl <| k) ?_
  refine cS [(.ref r_50), (.ref a60), (.int (own_ln (own_nx (own_nx (own_nx ([(105 : Int32), (102 : Int32), (95 : Int32)]) (0 : Int32) (own_low c0)) (own_sp (own_low c0)) (own_low c1)) (own_sp (own_low c1)) (own_low c2)))), (.int 9)] [] 0 X164 hx hZ hown (w 200 rfl) (w 201 rfl) (w 194 rfl) (w 202 rfl) (rmEQ l Z a0 hw [] cs fm lo bl la lb li r_50 rb_50 rbk_50 a60 kc60 (own_nx (own_nx (own_nx ([(105 : Int32), (102 : Int32), (95 : Int32)]) (0 : Int32) (own_low c0)) (own_sp (own_low c0)) (own_low c1)) (own_sp (own_low c1)) (own_low c2)) (9 : Int32) T140.heap n0 Z140 H0 O141 F149 F150 E151 A152 Q140_0 (own_nx_ob (own_nx_ob (own_nx_ob (own_olc ⟨by decide, by decide⟩ (own_olc ⟨by decide, by decide⟩ (own_olc ⟨by decide, by decide⟩ own_oln))) (own_low_ob H8)) (own_low_ob H9)) (own_low_ob H10)) (by decide) (by decide)) e164 hml pd_oLjava_lang_StringsaCIIcZ (y at_392) (fun v165 T165 L165 hQ165 X165 => ?_)
  obtain ⟨rfl, N165a, eh165⟩ := hQ165
  have N165 := Fr.app N164 N165a
  have e165 : T165.heap = T140.heap := eh165
  refine og2 X165 hx (fun j _ k => o_ifNo j (y at_395) (by decide) <| o_aload j (y at_398) rfl rfl <| o_aload j (y at_400) rfl rfl <| o_iload j (y at_402) rfl <| o_bipushV j 10 (y at_404) rfl <| k) ?_
  refine cS [(.ref r_50), (.ref a60), (.int (own_ln (own_nx (own_nx (own_nx ([(105 : Int32), (102 : Int32), (95 : Int32)]) (0 : Int32) (own_low c0)) (own_sp (own_low c0)) (own_low c1)) (own_sp (own_low c1)) (own_low c2)))), (.int 10)] [] 0 X165 hx hZ hown (w 200 rfl) (w 201 rfl) (w 194 rfl) (w 202 rfl) (rmEQ l Z a0 hw [] cs fm lo bl la lb li r_50 rb_50 rbk_50 a60 kc60 (own_nx (own_nx (own_nx ([(105 : Int32), (102 : Int32), (95 : Int32)]) (0 : Int32) (own_low c0)) (own_sp (own_low c0)) (own_low c1)) (own_sp (own_low c1)) (own_low c2)) (10 : Int32) T140.heap n0 Z140 H0 O141 F149 F150 E151 A152 Q140_0 (own_nx_ob (own_nx_ob (own_nx_ob (own_olc ⟨by decide, by decide⟩ (own_olc ⟨by decide, by decide⟩ (own_olc ⟨by decide, by decide⟩ own_oln))) (own_low_ob H8)) (own_low_ob H9)) (own_low_ob H10)) (by decide) (by decide)) e165 hml pd_oLjava_lang_StringsaCIIcZ (y at_406) (fun v166 T166 L166 hQ166 X166 => ?_)
  obtain ⟨rfl, N166a, eh166⟩ := hQ166
  have N166 := Fr.app N165 N166a
  have e166 : T166.heap = T140.heap := eh166
  refine og2 X166 hx (fun j _ k => o_ifNo j (y at_409) (by decide) <| o_aload j (y at_412) rfl rfl <| o_aload j (y at_414) rfl rfl <| o_iload j (y at_416) rfl <| o_bipushV j 11 (y at_418) rfl <| k) ?_
  refine cS [(.ref r_50), (.ref a60), (.int (own_ln (own_nx (own_nx (own_nx ([(105 : Int32), (102 : Int32), (95 : Int32)]) (0 : Int32) (own_low c0)) (own_sp (own_low c0)) (own_low c1)) (own_sp (own_low c1)) (own_low c2)))), (.int 11)] [] 0 X166 hx hZ hown (w 200 rfl) (w 201 rfl) (w 194 rfl) (w 202 rfl) (rmEQ l Z a0 hw [] cs fm lo bl la lb li r_50 rb_50 rbk_50 a60 kc60 (own_nx (own_nx (own_nx ([(105 : Int32), (102 : Int32), (95 : Int32)]) (0 : Int32) (own_low c0)) (own_sp (own_low c0)) (own_low c1)) (own_sp (own_low c1)) (own_low c2)) (11 : Int32) T140.heap n0 Z140 H0 O141 F149 F150 E151 A152 Q140_0 (own_nx_ob (own_nx_ob (own_nx_ob (own_olc ⟨by decide, by decide⟩ (own_olc ⟨by decide, by decide⟩ (own_olc ⟨by decide, by decide⟩ own_oln))) (own_low_ob H8)) (own_low_ob H9)) (own_low_ob H10)) (by decide) (by decide)) e166 hml pd_oLjava_lang_StringsaCIIcZ (y at_420) (fun v167 T167 L167 hQ167 X167 => ?_)
  obtain ⟨rfl, N167a, eh167⟩ := hQ167
  have N167 := Fr.app N166 N167a
  have e167 : T167.heap = T140.heap := eh167
  refine og2 X167 hx (fun j _ k => o_ifNo j (y at_423) (by decide) <| o_aload j (y at_426) rfl rfl <| o_aload j (y at_428) rfl rfl <| o_iload j (y at_430) rfl <| o_bipushV j 12 (y at_432) rfl <| k) ?_
  refine cS [(.ref r_50), (.ref a60), (.int (own_ln (own_nx (own_nx (own_nx ([(105 : Int32), (102 : Int32), (95 : Int32)]) (0 : Int32) (own_low c0)) (own_sp (own_low c0)) (own_low c1)) (own_sp (own_low c1)) (own_low c2)))), (.int 12)] [] 0 X167 hx hZ hown (w 200 rfl) (w 201 rfl) (w 194 rfl) (w 202 rfl) (rmEQ l Z a0 hw [] cs fm lo bl la lb li r_50 rb_50 rbk_50 a60 kc60 (own_nx (own_nx (own_nx ([(105 : Int32), (102 : Int32), (95 : Int32)]) (0 : Int32) (own_low c0)) (own_sp (own_low c0)) (own_low c1)) (own_sp (own_low c1)) (own_low c2)) (12 : Int32) T140.heap n0 Z140 H0 O141 F149 F150 E151 A152 Q140_0 (own_nx_ob (own_nx_ob (own_nx_ob (own_olc ⟨by decide, by decide⟩ (own_olc ⟨by decide, by decide⟩ (own_olc ⟨by decide, by decide⟩ own_oln))) (own_low_ob H8)) (own_low_ob H9)) (own_low_ob H10)) (by decide) (by decide)) e167 hml pd_oLjava_lang_StringsaCIIcZ (y at_434) (fun v168 T168 L168 hQ168 X168 => ?_)
  obtain ⟨rfl, N168a, eh168⟩ := hQ168
  have N168 := Fr.app N167 N168a
  have e168 : T168.heap = T140.heap := eh168
  refine og2 X168 hx (fun j _ k => o_ifNo j (y at_437) (by decide) <| o_iconstV j 1 (y at_440) rfl <| o_goto j (pc' := 445) (y at_441) <| k) ?_
  exact rNW (v := (1 : Int32)) X168 hx Bd hS (Nat.le_trans (Nat.le_trans (Nat.le_trans (Nat.le_trans (Nat.le_trans (Nat.le_trans (Nat.le_trans hkS E60.1) (Nat.le_of_eq W74.size.symm)) (Nat.le_of_eq W87.size.symm)) (Nat.le_of_eq W100.size.symm)) K114.1) K127.1) K140.1) (by simp) rfl (y at_445) e168 ⟨rfl, N168⟩

def Q0v4 (Z : State) (cs : Int32) (fm : Value) (lo : Addr) (bl : Addr) (la : Addr) (lb : Addr) (li : Addr) (p1 : Int32) (p2 : Int32) (p3 : Int32) (p4 : Int32) (p5 : Int32) (p6 : Int32) (c0 : Int32) (c1 : Int32) (c2 : Int32) (c3 : Int32) (c4 : Int32) (h0 : Heap) (n0 : Nat) (v : Option Value) (h : Heap) (L : List Loc) : Prop := v = some (.int 1) ∧ Fr n0 L
theorem rm0v4 (l : Launch) (Z : State) (a0 : Array Value) (hw : HW a0 Z) (ws : List Jvm.Cond) (cs : Int32) (fm : Value) (lo : Addr) (bl : Addr) (la : Addr) (lb : Addr) (li : Addr) (p1 : Int32) (p2 : Int32) (p3 : Int32) (p4 : Int32) (p5 : Int32) (p6 : Int32) (c0 : Int32) (c1 : Int32) (c2 : Int32) (c3 : Int32) (c4 : Int32) (h0 : Heap) (n0 : Nat) (Z0 : n0 ≤ h0.size) (H0 : OSt Z cs fm lo bl la lb li) (pr1 : Old Z n0 h0) (H2 : own_i2c (p1 &&& (255 : Int32)) = c0) (H3 : own_i2c (p2 &&& (255 : Int32)) = c1) (H4 : own_i2c (p3 &&& (255 : Int32)) = c2) (H5 : own_i2c (p4 &&& (255 : Int32)) = c3) (H6 : own_i2c (p5 &&& (255 : Int32)) = c4) (H7 : (p6 &&& (7 : Int32)) - ((p6 &&& (7 : Int32)) / (6 : Int32)) * (6 : Int32) = 4) (H8 : OB c0) (H9 : OB c1) (H10 : OB c2) (H11 : OB c3) (H12 : OB c4) :
    MetFree l x (head1 (Jvm.Cond.code x code maxLocals ret :: ws) room_1) (fun a U => a = #[(.int p1), (.int p2), (.int p3), (.int p4), (.int p5), (.int p6)] ∧ Z.Warmed39 U.vm ∧ U.heap = h0 ∧ CHv Z own_EL U.vm h0) (fun _ _ _ _ _ => True) (fun _ U o U' => ∃ v L, o = .returned v ∧ Q0v4 Z cs fm lo bl la lb li p1 p2 p3 p4 p5 p6 c0 c1 c2 c3 c4 h0 n0 v U'.heap L ∧ ReturnedEndW U o U' L room_1.cells room_1.slots) := by
  refine og_startH (plainFor_of_name pn_com_example_obieg_obieg_ChoiceIdOfPinLaw) fun p e s m below meth c s₁ Bd hx hby hml hZ hown hnm X0 e0 hS hkS hC0 => ?_
  have y := @hb _ _ hby
  have w := @wd _ _ hw
  refine og (fun t k => castTop (ef20 m p1 p2 p3 p4 p5 p6) k) ?_
  refine og2 X0 hx (fun j _ k => o_iload j (y at_0) rfl <| o_bipushV j 7 (y at_2) rfl <| o_iand j (y at_4) <| o_bipushV j 6 (y at_5) rfl <| o_irem j (y at_7) (by decide) <| k) ?_
  rw [H7]
  refine og2 X0 hx (fun j _ k => o_istore j (y at_8) (l' := #[.val (.int p1), .val (.int p2), .val (.int p3), .val (.int p4), .val (.int p5), .val (.int p6), .val (.int 4), .unset, .unset, .unset, .unset, .unset]) rfl <| o_iconstV j 5 (y at_10) rfl <| k) ?_
  refine nP .char 5 "[C" X0 hx hZ (w 0 rfl) e0 (y at_11) (fun T1 h1 a1 kc1 g1 X1 e1 E1 A1 D1 => ?_)
  have Z1 : n0 ≤ h1.size := Nat.le_trans Z0 E1.1
  have G1 : n0 ≤ a1 := Nat.le_trans Z0 (Nat.le_of_eq g1.symm)
  have CH2 := CHv.ext E1 hC0
  have O3 := (pr1.ext E1)
  have SF1_a1 := Safe.ext E1 hC0 (Safe.new (Nat.le_of_eq g1.symm))
  have A4 : Arv Z h1 a1 kc1 .char (5 : Int32) [(.int 0), (.int 0), (.int 0), (.int 0), (.int 0)] (.int 0) := (A1.pad (pad_rep [] _ 5))
  refine og2 X1 hx (fun j _ k => o_astore j (y at_13) rfl (l' := #[.val (.int p1), .val (.int p2), .val (.int p3), .val (.int p4), .val (.int p5), .val (.int p6), .val (.int 4), .val (.ref a1), .unset, .unset, .unset, .unset]) rfl <| o_aload j (y at_15) rfl rfl <| o_iconstV j 0 (y at_17) rfl <| o_iloadN j (y at_18) rfl <| o_sipushV j 255 (y at_19) rfl <| o_iand j (y at_22) <| o_i2cO j (y at_23) <| k) ?_
  rw [H2]
  refine sC (v := c0) 0 X1 hx hZ e1 A4 (own_nar_ob H8) (y at_24) (fun T5 h5 X5 e5 W5 A5 => ?_)
  have SF6_a1 := Safe.wr W5 SF1_a1 CH2 SF1_a1
  have CH6 := CHv.wr W5 SF1_a1 CH2
  have N5 := Fr.snoc X5 (Fr.nil n0) G1
  have Z5 : n0 ≤ h5.size := (by rw [W5.size]; exact Z1)
  have O7 := (O3.wr W5 G1)
  have A5v : Arv Z h5 a1 kc1 .char (5 : Int32) [(.int c0), (.int 0), (.int 0), (.int 0), (.int 0)] (.int 0) := A5
  refine og2 X5 hx (fun j _ k => o_aload j (y at_25) rfl rfl <| o_iconstV j 1 (y at_27) rfl <| o_iloadN j (y at_28) rfl <| o_sipushV j 255 (y at_29) rfl <| o_iand j (y at_32) <| o_i2cO j (y at_33) <| k) ?_
  rw [H3]
  refine sC (v := c1) 1 X5 hx hZ e5 A5v (own_nar_ob H9) (y at_34) (fun T8 h8 X8 e8 W8 A8 => ?_)
  have SF9_a1 := Safe.wr W8 SF6_a1 CH6 SF6_a1
  have CH9 := CHv.wr W8 SF6_a1 CH6
  have N8 := Fr.snoc X8 N5 G1
  have Z8 : n0 ≤ h8.size := (by rw [W8.size]; exact Z5)
  have O10 := (O7.wr W8 G1)
  have A8v : Arv Z h8 a1 kc1 .char (5 : Int32) [(.int c0), (.int c1), (.int 0), (.int 0), (.int 0)] (.int 0) := A8
  refine og2 X8 hx (fun j _ k => o_aload j (y at_35) rfl rfl <| o_iconstV j 2 (y at_37) rfl <| o_iloadN j (y at_38) rfl <| o_sipushV j 255 (y at_39) rfl <| o_iand j (y at_42) <| o_i2cO j (y at_43) <| k) ?_
  rw [H4]
  refine sC (v := c2) 2 X8 hx hZ e8 A8v (own_nar_ob H10) (y at_44) (fun T11 h11 X11 e11 W11 A11 => ?_)
  have SF12_a1 := Safe.wr W11 SF9_a1 CH9 SF9_a1
  have CH12 := CHv.wr W11 SF9_a1 CH9
  have N11 := Fr.snoc X11 N8 G1
  have Z11 : n0 ≤ h11.size := (by rw [W11.size]; exact Z8)
  have O13 := (O10.wr W11 G1)
  have A11v : Arv Z h11 a1 kc1 .char (5 : Int32) [(.int c0), (.int c1), (.int c2), (.int 0), (.int 0)] (.int 0) := A11
  refine og2 X11 hx (fun j _ k => o_aload j (y at_45) rfl rfl <| o_iconstV j 3 (y at_47) rfl <| o_iloadN j (y at_48) rfl <| o_sipushV j 255 (y at_49) rfl <| o_iand j (y at_52) <| o_i2cO j (y at_53) <| k) ?_
  rw [H5]
  refine sC (v := c3) 3 X11 hx hZ e11 A11v (own_nar_ob H11) (y at_54) (fun T14 h14 X14 e14 W14 A14 => ?_)
  have SF15_a1 := Safe.wr W14 SF12_a1 CH12 SF12_a1
  have CH15 := CHv.wr W14 SF12_a1 CH12
  have N14 := Fr.snoc X14 N11 G1
  have Z14 : n0 ≤ h14.size := (by rw [W14.size]; exact Z11)
  have O16 := (O13.wr W14 G1)
  have A14v : Arv Z h14 a1 kc1 .char (5 : Int32) [(.int c0), (.int c1), (.int c2), (.int c3), (.int 0)] (.int 0) := A14
  refine og2 X14 hx (fun j _ k => o_aload j (y at_55) rfl rfl <| o_iconstV j 4 (y at_57) rfl <| o_iload j (y at_58) rfl <| o_sipushV j 255 (y at_60) rfl <| o_iand j (y at_63) <| o_i2cO j (y at_64) <| k) ?_
  rw [H6]
  refine sC (v := c4) 4 X14 hx hZ e14 A14v (own_nar_ob H12) (y at_65) (fun T17 h17 X17 e17 W17 A17 => ?_)
  have CH18 := CHv.wr W17 SF15_a1 CH15
  have N17 := Fr.snoc X17 N14 G1
  have Z17 : n0 ≤ h17.size := (by rw [W17.size]; exact Z14)
  have O19 := (O16.wr W17 G1)
  have A17v : Arv Z h17 a1 kc1 .char (5 : Int32) [(.int c0), (.int c1), (.int c2), (.int c3), (.int c4)] (.int 0) := A17
  refine og2 X17 hx (fun j _ k => o_iload j (y at_66) rfl <| k) ?_
  refine nP .char 4 "[C" X17 hx hZ (w 0 rfl) e17 (y at_68) (fun T20 h20 a20 kc20 g20 X20 e20 E20 A20 D20 => ?_)
  have Z20 : n0 ≤ h20.size := Nat.le_trans Z17 E20.1
  have G20 : n0 ≤ a20 := Nat.le_trans Z17 (Nat.le_of_eq g20.symm)
  have CH21 := CHv.ext E20 CH18
  have O22 := (O19.ext E20)
  have A23 := (A17v.ext E20)
  have SF20_a20 := Safe.ext E20 CH18 (Safe.new (Nat.le_of_eq g20.symm))
  have A24 : Arv Z h20 a20 kc20 .char (4 : Int32) [(.int 0), (.int 0), (.int 0), (.int 0)] (.int 0) := (A20.pad (pad_rep [] _ 4))
  refine og2 X20 hx (fun j _ k => o_astore j (y at_70) rfl (l' := #[.val (.int p1), .val (.int p2), .val (.int p3), .val (.int p4), .val (.int p5), .val (.int p6), .val (.int 4), .val (.ref a1), .val (.ref a20), .unset, .unset, .unset]) rfl <| o_iload j (y at_72) rfl <| o_ifNo j (y at_74) (by decide) <| o_aload j (y at_77) rfl rfl <| o_iconstV j 0 (y at_79) rfl <| o_aload j (y at_80) rfl rfl <| o_iconstV j 0 (y at_82) rfl <| o_caload (v := (.int c0)) X20 hx hZ e20 A23 ⟨by decide, by decide⟩ rfl (y at_83) <| k) ?_
  refine sC (v := c0) 0 X20 hx hZ e20 A24 (own_nar_ob H8) (y at_84) (fun T25 h25 X25 e25 W25 A25 => ?_)
  have SF26_a20 := Safe.wr W25 SF20_a20 CH21 SF20_a20
  have CH26 := CHv.wr W25 SF20_a20 CH21
  have N25 := Fr.snoc X25 N17 G20
  have Z25 : n0 ≤ h25.size := (by rw [W25.size]; exact Z20)
  have O27 := (O22.wr W25 G20)
  have A28 := (A23.other W25 (Nat.ne_of_lt (Nat.lt_of_lt_of_eq A17v.lt g20.symm)))
  have A25v : Arv Z h25 a20 kc20 .char (4 : Int32) [(.int c0), (.int 0), (.int 0), (.int 0)] (.int 0) := A25
  refine og2 X25 hx (fun j _ k => o_iload j (y at_85) rfl <| o_iconstV j 1 (y at_87) rfl <| o_icmpNo j (y at_88) (XT.ii_le_f (by decide)) <| o_aload j (y at_91) rfl rfl <| o_iconstV j 1 (y at_93) rfl <| o_aload j (y at_94) rfl rfl <| o_iconstV j 1 (y at_96) rfl <| o_caload (v := (.int c1)) X25 hx hZ e25 A28 ⟨by decide, by decide⟩ rfl (y at_97) <| k) ?_
  refine sC (v := c1) 1 X25 hx hZ e25 A25v (own_nar_ob H9) (y at_98) (fun T29 h29 X29 e29 W29 A29 => ?_)
  have SF30_a20 := Safe.wr W29 SF26_a20 CH26 SF26_a20
  have CH30 := CHv.wr W29 SF26_a20 CH26
  have N29 := Fr.snoc X29 N25 G20
  have Z29 : n0 ≤ h29.size := (by rw [W29.size]; exact Z25)
  have O31 := (O27.wr W29 G20)
  have A32 := (A28.other W29 (Nat.ne_of_lt (Nat.lt_of_lt_of_eq A17v.lt g20.symm)))
  have A29v : Arv Z h29 a20 kc20 .char (4 : Int32) [(.int c0), (.int c1), (.int 0), (.int 0)] (.int 0) := A29
  refine og2 X29 hx (fun j _ k => o_iload j (y at_99) rfl <| o_iconstV j 2 (y at_101) rfl <| o_icmpNo j (y at_102) (XT.ii_le_f (by decide)) <| o_aload j (y at_105) rfl rfl <| o_iconstV j 2 (y at_107) rfl <| o_aload j (y at_108) rfl rfl <| o_iconstV j 2 (y at_110) rfl <| o_caload (v := (.int c2)) X29 hx hZ e29 A32 ⟨by decide, by decide⟩ rfl (y at_111) <| k) ?_
  refine sC (v := c2) 2 X29 hx hZ e29 A29v (own_nar_ob H10) (y at_112) (fun T33 h33 X33 e33 W33 A33 => ?_)
  have SF34_a20 := Safe.wr W33 SF30_a20 CH30 SF30_a20
  have CH34 := CHv.wr W33 SF30_a20 CH30
  have N33 := Fr.snoc X33 N29 G20
  have Z33 : n0 ≤ h33.size := (by rw [W33.size]; exact Z29)
  have O35 := (O31.wr W33 G20)
  have A36 := (A32.other W33 (Nat.ne_of_lt (Nat.lt_of_lt_of_eq A17v.lt g20.symm)))
  have A33v : Arv Z h33 a20 kc20 .char (4 : Int32) [(.int c0), (.int c1), (.int c2), (.int 0)] (.int 0) := A33
  refine og2 X33 hx (fun j _ k => o_iload j (y at_113) rfl <| o_iconstV j 3 (y at_115) rfl <| o_icmpNo j (y at_116) (XT.ii_le_f (by decide)) <| o_aload j (y at_119) rfl rfl <| o_iconstV j 3 (y at_121) rfl <| o_aload j (y at_122) rfl rfl <| o_iconstV j 3 (y at_124) rfl <| o_caload (v := (.int c3)) X33 hx hZ e33 A36 ⟨by decide, by decide⟩ rfl (y at_125) <| k) ?_
  refine sC (v := c3) 3 X33 hx hZ e33 A33v (own_nar_ob H11) (y at_126) (fun T37 h37 X37 e37 W37 A37 => ?_)
  have CH38 := CHv.wr W37 SF34_a20 CH34
  have N37 := Fr.snoc X37 N33 G20
  have Z37 : n0 ≤ h37.size := (by rw [W37.size]; exact Z33)
  have O39 := (O35.wr W37 G20)
  have A40 := (A36.other W37 (Nat.ne_of_lt (Nat.lt_of_lt_of_eq A17v.lt g20.symm)))
  have A37v : Arv Z h37 a20 kc20 .char (4 : Int32) [(.int c0), (.int c1), (.int c2), (.int c3)] (.int 0) := A37
  refine og2 X37 hx (fun j _ k => o_iload j (y at_127) rfl <| o_iconstV j 4 (y at_129) rfl <| o_icmpYes j (pc' := 141) (y at_130) (XT.ii_le_t (by decide)) <| k) ?_
  refine nO X37 hx hZ hown (w 1 rfl) (w 2 rfl) (w 3 rfl) e37 (y at_141) (fun T41 h41 a41 g41 X41 e41 E41 A41 D41 => ?_)
  have Z41 : n0 ≤ h41.size := Nat.le_trans Z37 E41.1
  have G41 : n0 ≤ a41 := Nat.le_trans Z37 (Nat.le_of_eq g41.symm)
  have CH42 := CHv.ext E41 CH38
  have O43 := (O39.ext E41)
  have A44 := (A40.ext E41)
  have A45 := (A37v.ext E41)
  have SF41_a41 := Safe.ext E41 CH38 (Safe.new (Nat.le_of_eq g41.symm))
  have F46 : Fld Z h41 a41 "java/lang/String" "coder" "B" (.int 0) := (D41 (Or.inr (w 27 rfl)) (ty := .byte) (by decide))
  have F47 : Fld Z h41 a41 "java/lang/String" "value" "[B" .null := (D41 (Or.inr (w 29 rfl)) (ty := (.array .byte)) (by decide))
  refine og2 X41 hx (fun j _ k => o_dup j (y at_144) rfl <| o_aload j (y at_145) rfl rfl <| k) ?_
  refine cI a41 [(.ref a20)] [(.ref a41)] 1 X41 hx hZ hown (w 4 rfl) (w 5 rfl) (w 3 rfl) (w 6 rfl) (rmI11 l Z a0 hw [] cs fm lo bl la lb li a41 a20 kc20 ([c0, c1, c2, c3]) h41 n0 Z41 H0 O43 F47 F46 A41 A45 G41 (own_olc H8 (own_olc H9 (own_olc H10 (own_olc H11 own_oln)))) (Nat.le_of_ble_eq_true rfl) (show ¬ ((4 : Int32) = 0) from by decide)) e41 hml pd_oaCcV (y at_147) (fun v48 T48 L48 hQ48 X48 => ?_)
  obtain ⟨b_48, bk_48, rfl, N48a, K48, Q48_0, Q48_1, Q48_2, Q48_3⟩ := hQ48
  have N48 := Fr.app N37 N48a
  have e48 : T48.heap = T48.heap := rfl
  have Z48 : n0 ≤ T48.heap.size := (Nat.le_trans Z41 K48.1)
  have CH49 := CHv.keep K48 (allS SF41_a41 all0) CH42
  have O50 := (O43.keep K48 (allS G41 all0))
  have A51 := (A44.keep K48 (ninS (Nat.ne_of_lt (Nat.lt_of_lt_of_eq A40.lt g41.symm)) nin0))
  refine cSJ [(.ref a41)] [] 0 X48 hx hZ hown hS (Nat.le_trans (Nat.le_trans (Nat.le_trans (Nat.le_trans (Nat.le_trans (Nat.le_trans (Nat.le_trans (Nat.le_trans (Nat.le_trans (Nat.le_trans (Nat.le_trans (Nat.le_trans (Nat.le_trans hkS E1.1) (Nat.le_of_eq W5.size.symm)) (Nat.le_of_eq W8.size.symm)) (Nat.le_of_eq W11.size.symm)) (Nat.le_of_eq W14.size.symm)) (Nat.le_of_eq W17.size.symm)) E20.1) (Nat.le_of_eq W25.size.symm)) (Nat.le_of_eq W29.size.symm)) (Nat.le_of_eq W33.size.symm)) (Nat.le_of_eq W37.size.symm)) E41.1) K48.1) (w 30 rfl) (w 31 rfl) (w 32 rfl) (w 33 rfl) (own_EW hw) CH49 (rmOF l Z a0 hw [] cs fm lo bl la lb li a41 b_48 bk_48 ([c0, c1, c2, c3]) T48.heap n0 Z48 H0 O50 Q48_0 Q48_1 Q48_2 Q48_3 (own_olc H8 (own_olc H9 (own_olc H10 (own_olc H11 own_oln)))) (Nat.le_of_ble_eq_true rfl)) e48 hml pd_oLjava_lang_StringscLjava_lang_Strings (y at_150) (fun v54 T54 L54 hQ54 X54 hS hZ hown => ?_)
  obtain ⟨r_54, rb_54, rbk_54, rfl, N54a, K54, Q54_0, Q54_1, Q54_2, Q54_3⟩ := hQ54
  have N54 := Fr.app N48 N54a
  have e54 : T54.heap = T54.heap := rfl
  have Z54 : n0 ≤ T54.heap.size := (Nat.le_trans Z48 K54.1)
  have O55 := (O50.keep K54 all0)
  have A56 := (A51.keep K54 nin0)
  have hkS : T54.heap.size ≤ T54.heap.size := Nat.le_refl _
  have AR63 : Arv Z T54.heap rb_54 rbk_54 .byte (own_ln (own_nx (own_nx (own_nx (own_nx ([(105 : Int32), (102 : Int32), (95 : Int32)]) (0 : Int32) (own_low c0)) (own_sp (own_low c0)) (own_low c1)) (own_sp (own_low c1)) (own_low c2)) (own_sp (own_low c2)) (own_low c3))) (own_vb (own_nx (own_nx (own_nx (own_nx ([(105 : Int32), (102 : Int32), (95 : Int32)]) (0 : Int32) (own_low c0)) (own_sp (own_low c0)) (own_low c1)) (own_sp (own_low c1)) (own_low c2)) (own_sp (own_low c2)) (own_low c3))) (.int 0) := Q54_3
  refine og2 X54 hx (fun j _ k => o_astore j (y at_153) rfl (l' := #[.val (.int p1), .val (.int p2), .val (.int p3), .val (.int p4), .val (.int p5), .val (.int p6), .val (.int 4), .val (.ref a1), .val (.ref a20), .val (.ref r_54), .unset, .unset]) rfl <| o_bipushV j 13 (y at_155) rfl <| k) ?_
  refine nP .char 13 "[C" X54 hx hZ (w 0 rfl) e54 (y at_157) (fun T64 h64 a64 kc64 g64 X64 e64 E64 A64 D64 => ?_)
  have Z64 : n0 ≤ h64.size := Nat.le_trans Z54 E64.1
  have G64 : n0 ≤ a64 := Nat.le_trans Z54 (Nat.le_of_eq g64.symm)
  have O65 := (O55.ext E64)
  have A66 := (A56.ext E64)
  have F73 := (Fld.ext E64 Q54_0)
  have F74 := (Fld.ext E64 Q54_1)
  have E75 := (Exa.ext E64 Q54_2)
  have A76 := (AR63.ext E64)
  have A77 : Arv Z h64 a64 kc64 .char (13 : Int32) [(.int 0), (.int 0), (.int 0), (.int 0), (.int 0), (.int 0), (.int 0), (.int 0), (.int 0), (.int 0), (.int 0), (.int 0), (.int 0)] (.int 0) := (A64.pad (pad_rep [] _ 13))
  refine og2 X64 hx (fun j _ k => o_astore j (y at_159) rfl (l' := #[.val (.int p1), .val (.int p2), .val (.int p3), .val (.int p4), .val (.int p5), .val (.int p6), .val (.int 4), .val (.ref a1), .val (.ref a20), .val (.ref r_54), .val (.ref a64), .unset]) rfl <| o_aload j (y at_161) rfl rfl <| o_iconstV j 0 (y at_163) rfl <| o_bipushV j 105 (y at_164) rfl <| k) ?_
  refine sC (v := (105 : Int32)) 0 X64 hx hZ e64 A77 (by decide) (y at_166) (fun T78 h78 X78 e78 W78 A78 => ?_)
  have N78 := Fr.snoc X78 N54 G64
  have Z78 : n0 ≤ h78.size := (by rw [W78.size]; exact Z64)
  have O79 := (O65.wr W78 G64)
  have A80 := (A66.other W78 (Nat.ne_of_lt (Nat.lt_of_lt_of_eq A56.lt g64.symm)))
  have F87 := (Fld.other W78 F73 (Or.inl (Nat.ne_of_lt (Nat.lt_of_lt_of_eq Q54_0.lt g64.symm))))
  have F88 := (Fld.other W78 F74 (Or.inl (Nat.ne_of_lt (Nat.lt_of_lt_of_eq Q54_0.lt g64.symm))))
  have E89 := (Exa.wr W78 E75)
  have A90 := (A76.other W78 (Nat.ne_of_lt (Nat.lt_of_lt_of_eq AR63.lt g64.symm)))
  have A78v : Arv Z h78 a64 kc64 .char (13 : Int32) [(.int 105), (.int 0), (.int 0), (.int 0), (.int 0), (.int 0), (.int 0), (.int 0), (.int 0), (.int 0), (.int 0), (.int 0), (.int 0)] (.int 0) := A78
  refine og2 X78 hx (fun j _ k => o_aload j (y at_167) rfl rfl <| o_iconstV j 1 (y at_169) rfl <| o_bipushV j 102 (y at_170) rfl <| k) ?_
  refine sC (v := (102 : Int32)) 1 X78 hx hZ e78 A78v (by decide) (y at_172) (fun T91 h91 X91 e91 W91 A91 => ?_)
  have N91 := Fr.snoc X91 N78 G64
  have Z91 : n0 ≤ h91.size := (by rw [W91.size]; exact Z78)
  have O92 := (O79.wr W91 G64)
  have A93 := (A80.other W91 (Nat.ne_of_lt (Nat.lt_of_lt_of_eq A56.lt g64.symm)))
  have F100 := (Fld.other W91 F87 (Or.inl (Nat.ne_of_lt (Nat.lt_of_lt_of_eq Q54_0.lt g64.symm))))
  have F101 := (Fld.other W91 F88 (Or.inl (Nat.ne_of_lt (Nat.lt_of_lt_of_eq Q54_0.lt g64.symm))))
  have E102 := (Exa.wr W91 E89)
  have A103 := (A90.other W91 (Nat.ne_of_lt (Nat.lt_of_lt_of_eq AR63.lt g64.symm)))
  have A91v : Arv Z h91 a64 kc64 .char (13 : Int32) [(.int 105), (.int 102), (.int 0), (.int 0), (.int 0), (.int 0), (.int 0), (.int 0), (.int 0), (.int 0), (.int 0), (.int 0), (.int 0)] (.int 0) := A91
  refine og2 X91 hx (fun j _ k => o_aload j (y at_173) rfl rfl <| o_iconstV j 2 (y at_175) rfl <| o_bipushV j 95 (y at_176) rfl <| k) ?_
  refine sC (v := (95 : Int32)) 2 X91 hx hZ e91 A91v (by decide) (y at_178) (fun T104 h104 X104 e104 W104 A104 => ?_)
  have N104 := Fr.snoc X104 N91 G64
  have Z104 : n0 ≤ h104.size := (by rw [W104.size]; exact Z91)
  have O105 := (O92.wr W104 G64)
  have A106 := (A93.other W104 (Nat.ne_of_lt (Nat.lt_of_lt_of_eq A56.lt g64.symm)))
  have F113 := (Fld.other W104 F100 (Or.inl (Nat.ne_of_lt (Nat.lt_of_lt_of_eq Q54_0.lt g64.symm))))
  have F114 := (Fld.other W104 F101 (Or.inl (Nat.ne_of_lt (Nat.lt_of_lt_of_eq Q54_0.lt g64.symm))))
  have E115 := (Exa.wr W104 E102)
  have A116 := (A103.other W104 (Nat.ne_of_lt (Nat.lt_of_lt_of_eq AR63.lt g64.symm)))
  have A104v : Arv Z h104 a64 kc64 .char (13 : Int32) [(.int 105), (.int 102), (.int 95), (.int 0), (.int 0), (.int 0), (.int 0), (.int 0), (.int 0), (.int 0), (.int 0), (.int 0), (.int 0)] (.int 0) := A104
  refine og2 X104 hx (fun j _ k => o_iconstV j 3 (y at_179) rfl <| o_istore j (y at_180) (l' := #[.val (.int p1), .val (.int p2), .val (.int p3), .val (.int p4), .val (.int p5), .val (.int p6), .val (.int 4), .val (.ref a1), .val (.ref a20), .val (.ref r_54), .val (.ref a64), .val (.int 3)]) rfl <| k) ?_
  have AO117 : Arv Z h104 a64 kc64 .char (13 : Int32) (own_pc ([(105 : Int32), (102 : Int32), (95 : Int32)])) (.int 0) := A104v
  refine og2 X104 hx (fun j _ k => o_aload j (y at_182) rfl rfl <| o_iload j (y at_184) rfl <| o_iconstV j 0 (y at_186) rfl <| o_aload j (y at_187) rfl rfl <| o_iload j (y at_189) rfl <| k) ?_
  refine cS [(.ref a1), (.int 4), (.int 0), (.ref a64), (.int 3)] [] 0 X104 hx hZ hown (w 192 rfl) (w 193 rfl) (w 194 rfl) (w 195 rfl) (rmPU0 l Z a0 hw [] a1 kc1 a64 kc64 (4 : Int32) c0 c1 c2 c3 c4 ([(105 : Int32), (102 : Int32), (95 : Int32)]) h104 n0 Z104 A106 AO117 G64 (by decide) (Nat.lt_of_le_of_lt (Nat.le_of_ble_eq_true rfl : [(105 : Int32), (102 : Int32), (95 : Int32)].length ≤ 3) (by decide)) H8 (Nat.ne_of_lt (Nat.lt_of_lt_of_eq A56.lt g64.symm))) e104 hml pd_oaCIIaCIcI (y at_191) (fun v118 T118 L118 hQ118 X118 => ?_)
  obtain ⟨rfl, N118a, K118, Q118_0⟩ := hQ118
  have N118 := Fr.app N104 N118a
  have e118 : T118.heap = T118.heap := rfl
  have Z118 : n0 ≤ T118.heap.size := (Nat.le_trans Z104 K118.1)
  have O119 := (O105.keep K118 (allS G64 all0))
  have A120 := (A106.keep K118 (ninS (Nat.ne_of_lt (Nat.lt_of_lt_of_eq A56.lt g64.symm)) nin0))
  have F127 := (F113.keep K118 (ninS (Nat.ne_of_lt (Nat.lt_of_lt_of_eq Q54_0.lt g64.symm)) nin0))
  have F128 := (F114.keep K118 (ninS (Nat.ne_of_lt (Nat.lt_of_lt_of_eq Q54_0.lt g64.symm)) nin0))
  have E129 := (E115.keep K118)
  have A130 := (A116.keep K118 (ninS (Nat.ne_of_lt (Nat.lt_of_lt_of_eq AR63.lt g64.symm)) nin0))
  refine og2 X118 hx (fun j _ k => o_istore j (y at_194) (l' := #[.val (.int p1), .val (.int p2), .val (.int p3), .val (.int p4), .val (.int p5), .val (.int p6), .val (.int 4), .val (.ref a1), .val (.ref a20), .val (.ref r_54), .val (.ref a64), .val (.int (own_ln (own_nx ([(105 : Int32), (102 : Int32), (95 : Int32)]) (0 : Int32) (own_low c0))))]) rfl <| o_aload j (y at_196) rfl rfl <| o_iload j (y at_198) rfl <| o_iconstV j 1 (y at_200) rfl <| o_aload j (y at_201) rfl rfl <| o_iload j (y at_203) rfl <| k) ?_
  refine cS [(.ref a1), (.int 4), (.int 1), (.ref a64), (.int (own_ln (own_nx ([(105 : Int32), (102 : Int32), (95 : Int32)]) (0 : Int32) (own_low c0))))] [] 0 X118 hx hZ hown (w 192 rfl) (w 193 rfl) (w 194 rfl) (w 195 rfl) (rmPU1 l Z a0 hw [] a1 kc1 a64 kc64 (4 : Int32) c0 c1 c2 c3 c4 (own_nx ([(105 : Int32), (102 : Int32), (95 : Int32)]) (0 : Int32) (own_low c0)) T118.heap n0 Z118 A120 Q118_0 G64 (by decide) (Nat.lt_of_le_of_lt (own_nxl (Nat.le_of_ble_eq_true rfl : [(105 : Int32), (102 : Int32), (95 : Int32)].length ≤ 3)) (by decide)) H9 (Nat.ne_of_lt (Nat.lt_of_lt_of_eq A56.lt g64.symm)) H8) e118 hml pd_oaCIIaCIcI (y at_205) (fun v131 T131 L131 hQ131 X131 => ?_)
  obtain ⟨rfl, N131a, K131, Q131_0⟩ := hQ131
  have N131 := Fr.app N118 N131a
  have e131 : T131.heap = T131.heap := rfl
  have Z131 : n0 ≤ T131.heap.size := (Nat.le_trans Z118 K131.1)
  have O132 := (O119.keep K131 (allS G64 all0))
  have A133 := (A120.keep K131 (ninS (Nat.ne_of_lt (Nat.lt_of_lt_of_eq A56.lt g64.symm)) nin0))
  have F140 := (F127.keep K131 (ninS (Nat.ne_of_lt (Nat.lt_of_lt_of_eq Q54_0.lt g64.symm)) nin0))
  have F141 := (F128.keep K131 (ninS (Nat.ne_of_lt (Nat.lt_of_lt_of_eq Q54_0.lt g64.symm)) nin0))
  have E142 := (E129.keep K131)
  have A143 := (A130.keep K131 (ninS (Nat.ne_of_lt (Nat.lt_of_lt_of_eq AR63.lt g64.symm)) nin0))
  refine og2 X131 hx (fun j _ k => o_istore j (y at_208) (l' := #[.val (.int p1), .val (.int p2), .val (.int p3), .val (.int p4), .val (.int p5), .val (.int p6), .val (.int 4), .val (.ref a1), .val (.ref a20), .val (.ref r_54), .val (.ref a64), .val (.int (own_ln (own_nx (own_nx ([(105 : Int32), (102 : Int32), (95 : Int32)]) (0 : Int32) (own_low c0)) (own_sp (own_low c0)) (own_low c1))))]) rfl <| o_aload j (y at_210) rfl rfl <| o_iload j (y at_212) rfl <| o_iconstV j 2 (y at_214) rfl <| o_aload j (y at_215) rfl rfl <| o_iload j (y at_217) rfl <| k) ?_
  refine cS [(.ref a1), (.int 4), (.int 2), (.ref a64), (.int (own_ln (own_nx (own_nx ([(105 : Int32), (102 : Int32), (95 : Int32)]) (0 : Int32) (own_low c0)) (own_sp (own_low c0)) (own_low c1))))] [] 0 X131 hx hZ hown (w 192 rfl) (w 193 rfl) (w 194 rfl) (w 195 rfl) (rmPU2 l Z a0 hw [] a1 kc1 a64 kc64 (4 : Int32) c0 c1 c2 c3 c4 (own_nx (own_nx ([(105 : Int32), (102 : Int32), (95 : Int32)]) (0 : Int32) (own_low c0)) (own_sp (own_low c0)) (own_low c1)) T131.heap n0 Z131 A133 Q131_0 G64 (by decide) (Nat.lt_of_le_of_lt (own_nxl (own_nxl (Nat.le_of_ble_eq_true rfl : [(105 : Int32), (102 : Int32), (95 : Int32)].length ≤ 3))) (by decide)) H10 (Nat.ne_of_lt (Nat.lt_of_lt_of_eq A56.lt g64.symm)) H9) e131 hml pd_oaCIIaCIcI (y at_219) (fun v144 T144 L144 hQ144 X144 => ?_)
  obtain ⟨rfl, N144a, K144, Q144_0⟩ := hQ144
  have N144 := Fr.app N131 N144a
  have e144 : T144.heap = T144.heap := rfl
  have Z144 : n0 ≤ T144.heap.size := (Nat.le_trans Z131 K144.1)
  have O145 := (O132.keep K144 (allS G64 all0))
  have A146 := (A133.keep K144 (ninS (Nat.ne_of_lt (Nat.lt_of_lt_of_eq A56.lt g64.symm)) nin0))
  have F153 := (F140.keep K144 (ninS (Nat.ne_of_lt (Nat.lt_of_lt_of_eq Q54_0.lt g64.symm)) nin0))
  have F154 := (F141.keep K144 (ninS (Nat.ne_of_lt (Nat.lt_of_lt_of_eq Q54_0.lt g64.symm)) nin0))
  have E155 := (E142.keep K144)
  have A156 := (A143.keep K144 (ninS (Nat.ne_of_lt (Nat.lt_of_lt_of_eq AR63.lt g64.symm)) nin0))
  refine og2 X144 hx (fun j _ k => o_istore j (y at_222) (l' := #[.val (.int p1), .val (.int p2), .val (.int p3), .val (.int p4), .val (.int p5), .val (.int p6), .val (.int 4), .val (.ref a1), .val (.ref a20), .val (.ref r_54), .val (.ref a64), .val (.int (own_ln (own_nx (own_nx (own_nx ([(105 : Int32), (102 : Int32), (95 : Int32)]) (0 : Int32) (own_low c0)) (own_sp (own_low c0)) (own_low c1)) (own_sp (own_low c1)) (own_low c2))))]) rfl <| o_aload j (y at_224) rfl rfl <| o_iload j (y at_226) rfl <| o_iconstV j 3 (y at_228) rfl <| o_aload j (y at_229) rfl rfl <| o_iload j (y at_231) rfl <| k) ?_
  refine cS [(.ref a1), (.int 4), (.int 3), (.ref a64), (.int (own_ln (own_nx (own_nx (own_nx ([(105 : Int32), (102 : Int32), (95 : Int32)]) (0 : Int32) (own_low c0)) (own_sp (own_low c0)) (own_low c1)) (own_sp (own_low c1)) (own_low c2))))] [] 0 X144 hx hZ hown (w 192 rfl) (w 193 rfl) (w 194 rfl) (w 195 rfl) (rmPU3 l Z a0 hw [] a1 kc1 a64 kc64 (4 : Int32) c0 c1 c2 c3 c4 (own_nx (own_nx (own_nx ([(105 : Int32), (102 : Int32), (95 : Int32)]) (0 : Int32) (own_low c0)) (own_sp (own_low c0)) (own_low c1)) (own_sp (own_low c1)) (own_low c2)) T144.heap n0 Z144 A146 Q144_0 G64 (by decide) (Nat.lt_of_le_of_lt (own_nxl (own_nxl (own_nxl (Nat.le_of_ble_eq_true rfl : [(105 : Int32), (102 : Int32), (95 : Int32)].length ≤ 3)))) (by decide)) H11 (Nat.ne_of_lt (Nat.lt_of_lt_of_eq A56.lt g64.symm)) H10) e144 hml pd_oaCIIaCIcI (y at_233) (fun v157 T157 L157 hQ157 X157 => ?_)
  obtain ⟨rfl, N157a, K157, Q157_0⟩ := hQ157
  have N157 := Fr.app N144 N157a
  have e157 : T157.heap = T157.heap := rfl
  have Z157 : n0 ≤ T157.heap.size := (Nat.le_trans Z144 K157.1)
  have O158 := (O145.keep K157 (allS G64 all0))
  have F166 := (F153.keep K157 (ninS (Nat.ne_of_lt (Nat.lt_of_lt_of_eq Q54_0.lt g64.symm)) nin0))
  have F167 := (F154.keep K157 (ninS (Nat.ne_of_lt (Nat.lt_of_lt_of_eq Q54_0.lt g64.symm)) nin0))
  have E168 := (E155.keep K157)
  have A169 := (A156.keep K157 (ninS (Nat.ne_of_lt (Nat.lt_of_lt_of_eq AR63.lt g64.symm)) nin0))
  refine og2 X157 hx (fun j _ k => o_istore j (y at_236) (l' := #[.val (.int p1), .val (.int p2), .val (.int p3), .val (.int p4), .val (.int p5), .val (.int p6), .val (.int 4), .val (.ref a1), .val (.ref a20), .val (.ref r_54), .val (.ref a64), .val (.int (own_ln (own_nx (own_nx (own_nx (own_nx ([(105 : Int32), (102 : Int32), (95 : Int32)]) (0 : Int32) (own_low c0)) (own_sp (own_low c0)) (own_low c1)) (own_sp (own_low c1)) (own_low c2)) (own_sp (own_low c2)) (own_low c3))))]) rfl <| o_aload j (y at_238) rfl rfl <| o_iload j (y at_240) rfl <| o_iconstV j 4 (y at_242) rfl <| o_aload j (y at_243) rfl rfl <| o_iload j (y at_245) rfl <| k) ?_
  refine cS [(.ref a1), (.int 4), (.int 4), (.ref a64), (.int (own_ln (own_nx (own_nx (own_nx (own_nx ([(105 : Int32), (102 : Int32), (95 : Int32)]) (0 : Int32) (own_low c0)) (own_sp (own_low c0)) (own_low c1)) (own_sp (own_low c1)) (own_low c2)) (own_sp (own_low c2)) (own_low c3))))] [] 0 X157 hx hZ hown (w 192 rfl) (w 193 rfl) (w 194 rfl) (w 195 rfl) (rmPS l Z a0 hw [] a1 (4 : Int32) (4 : Int32) a64 (own_ln (own_nx (own_nx (own_nx (own_nx ([(105 : Int32), (102 : Int32), (95 : Int32)]) (0 : Int32) (own_low c0)) (own_sp (own_low c0)) (own_low c1)) (own_sp (own_low c1)) (own_low c2)) (own_sp (own_low c2)) (own_low c3))) T157.heap n0 Z157 (by decide)) e157 hml pd_oaCIIaCIcI (y at_247) (fun v170 T170 L170 hQ170 X170 => ?_)
  obtain ⟨rfl, N170a, eh170⟩ := hQ170
  have N170 := Fr.app N157 N170a
  have e170 : T170.heap = T157.heap := eh170
  refine og2 X170 hx (fun j _ k => o_istore j (y at_250) (l' := #[.val (.int p1), .val (.int p2), .val (.int p3), .val (.int p4), .val (.int p5), .val (.int p6), .val (.int 4), .val (.ref a1), .val (.ref a20), .val (.ref r_54), .val (.ref a64), .val (.int (own_ln (own_nx (own_nx (own_nx (own_nx ([(105 : Int32), (102 : Int32), (95 : Int32)]) (0 : Int32) (own_low c0)) (own_sp (own_low c0)) (own_low c1)) (own_sp (own_low c1)) (own_low c2)) (own_sp (own_low c2)) (own_low c3))))]) rfl <| o_aload j (y at_252) rfl rfl <| k) ?_
  refine cV r_54 [] [] 0 X170 hx hZ hown (w 199 rfl) (w 69 rfl) (w 71 rfl) (w 70 rfl) (w 3 rfl) (w 72 rfl) (rmLE l Z a0 hw [] cs fm lo bl la lb li r_54 rb_54 rbk_54 (own_ln (own_nx (own_nx (own_nx (own_nx ([(105 : Int32), (102 : Int32), (95 : Int32)]) (0 : Int32) (own_low c0)) (own_sp (own_low c0)) (own_low c1)) (own_sp (own_low c1)) (own_low c2)) (own_sp (own_low c2)) (own_low c3))) (own_vb (own_nx (own_nx (own_nx (own_nx ([(105 : Int32), (102 : Int32), (95 : Int32)]) (0 : Int32) (own_low c0)) (own_sp (own_low c0)) (own_low c1)) (own_sp (own_low c1)) (own_low c2)) (own_sp (own_low c2)) (own_low c3))) T157.heap n0 Z157 H0 O158 F166 F167 E168 A169) e170 E168 hml pd_ocI (y at_254) (fun v171 T171 L171 hQ171 X171 => ?_)
  obtain ⟨rfl, N171a, eh171⟩ := hQ171
  have N171 := Fr.app N170 N171a
  have e171 : T171.heap = T157.heap := eh171
  refine og2 X171 hx (fun j _ k => o_iload j (y at_257) rfl <| o_icmpYes j (pc' := 264) (y at_259) (XT.ii_eq_t rfl) <| o_aload j (y at_264) rfl rfl <| o_aload j (y at_266) rfl rfl <| o_iload j (y at_268) rfl <| o_iconstV j 0 (y at_270) rfl <| k) ?_
  refine cS [(.ref r_54), (.ref a64), (.int (own_ln (own_nx (own_nx (own_nx (own_nx ([(105 : Int32), (102 : Int32), (95 : Int32)]) (0 : Int32) (own_low c0)) (own_sp (own_low c0)) (own_low c1)) (own_sp (own_low c1)) (own_low c2)) (own_sp (own_low c2)) (own_low c3)))), (.int 0)] [] 0 X171 hx hZ hown (w 200 rfl) (w 201 rfl) (w 194 rfl) (w 202 rfl) (rmEQ l Z a0 hw [] cs fm lo bl la lb li r_54 rb_54 rbk_54 a64 kc64 (own_nx (own_nx (own_nx (own_nx ([(105 : Int32), (102 : Int32), (95 : Int32)]) (0 : Int32) (own_low c0)) (own_sp (own_low c0)) (own_low c1)) (own_sp (own_low c1)) (own_low c2)) (own_sp (own_low c2)) (own_low c3)) (0 : Int32) T157.heap n0 Z157 H0 O158 F166 F167 E168 A169 Q157_0 (own_nx_ob (own_nx_ob (own_nx_ob (own_nx_ob (own_olc ⟨by decide, by decide⟩ (own_olc ⟨by decide, by decide⟩ (own_olc ⟨by decide, by decide⟩ own_oln))) (own_low_ob H8)) (own_low_ob H9)) (own_low_ob H10)) (own_low_ob H11)) (by decide) (by decide)) e171 hml pd_oLjava_lang_StringsaCIIcZ (y at_271) (fun v172 T172 L172 hQ172 X172 => ?_)
  obtain ⟨rfl, N172a, eh172⟩ := hQ172
  have N172 := Fr.app N171 N172a
  have e172 : T172.heap = T157.heap := eh172
  refine og2 X172 hx (fun j _ k => o_ifNo j (y at_274) (by decide) <| o_aload j (y at_277) rfl rfl <| o_aload j (y at_279) rfl rfl <| o_iload j (y at_281) rfl <| o_iconstV j 1 (y at_283) rfl <| k) ?_
  refine cS [(.ref r_54), (.ref a64), (.int (own_ln (own_nx (own_nx (own_nx (own_nx ([(105 : Int32), (102 : Int32), (95 : Int32)]) (0 : Int32) (own_low c0)) (own_sp (own_low c0)) (own_low c1)) (own_sp (own_low c1)) (own_low c2)) (own_sp (own_low c2)) (own_low c3)))), (.int 1)] [] 0 X172 hx hZ hown (w 200 rfl) (w 201 rfl) (w 194 rfl) (w 202 rfl) (rmEQ l Z a0 hw [] cs fm lo bl la lb li r_54 rb_54 rbk_54 a64 kc64 (own_nx (own_nx (own_nx (own_nx ([(105 : Int32), (102 : Int32), (95 : Int32)]) (0 : Int32) (own_low c0)) (own_sp (own_low c0)) (own_low c1)) (own_sp (own_low c1)) (own_low c2)) (own_sp (own_low c2)) (own_low c3)) (1 : Int32) T157.heap n0 Z157 H0 O158 F166 F167 E168 A169 Q157_0 (own_nx_ob (own_nx_ob (own_nx_ob (own_nx_ob (own_olc ⟨by decide, by decide⟩ (own_olc ⟨by decide, by decide⟩ (own_olc ⟨by decide, by decide⟩ own_oln))) (own_low_ob H8)) (own_low_ob H9)) (own_low_ob H10)) (own_low_ob H11)) (by decide) (by decide)) e172 hml pd_oLjava_lang_StringsaCIIcZ (y at_284) (fun v173 T173 L173 hQ173 X173 => ?_)
  obtain ⟨rfl, N173a, eh173⟩ := hQ173
  have N173 := Fr.app N172 N173a
  have e173 : T173.heap = T157.heap := eh173
  refine og2 X173 hx (fun j _ k => o_ifNo j (y at_287) (by decide) <| o_aload j (y at_290) rfl rfl <| o_aload j (y at_292) rfl rfl <| o_iload j (y at_294) rfl <| o_iconstV j 2 (y at_296) rfl <| k) ?_
  refine cS [(.ref r_54), (.ref a64), (.int (own_ln (own_nx (own_nx (own_nx (own_nx ([(105 : Int32), (102 : Int32), (95 : Int32)]) (0 : Int32) (own_low c0)) (own_sp (own_low c0)) (own_low c1)) (own_sp (own_low c1)) (own_low c2)) (own_sp (own_low c2)) (own_low c3)))), (.int 2)] [] 0 X173 hx hZ hown (w 200 rfl) (w 201 rfl) (w 194 rfl) (w 202 rfl) (rmEQ l Z a0 hw [] cs fm lo bl la lb li r_54 rb_54 rbk_54 a64 kc64 (own_nx (own_nx (own_nx (own_nx ([(105 : Int32), (102 : Int32), (95 : Int32)]) (0 : Int32) (own_low c0)) (own_sp (own_low c0)) (own_low c1)) (own_sp (own_low c1)) (own_low c2)) (own_sp (own_low c2)) (own_low c3)) (2 : Int32) T157.heap n0 Z157 H0 O158 F166 F167 E168 A169 Q157_0 (own_nx_ob (own_nx_ob (own_nx_ob (own_nx_ob (own_olc ⟨by decide, by decide⟩ (own_olc ⟨by decide, by decide⟩ (own_olc ⟨by decide, by decide⟩ own_oln))) (own_low_ob H8)) (own_low_ob H9)) (own_low_ob H10)) (own_low_ob H11)) (by decide) (by decide)) e173 hml pd_oLjava_lang_StringsaCIIcZ (y at_297) (fun v174 T174 L174 hQ174 X174 => ?_)
  obtain ⟨rfl, N174a, eh174⟩ := hQ174
  have N174 := Fr.app N173 N174a
  have e174 : T174.heap = T157.heap := eh174
  refine og2 X174 hx (fun j _ k => o_ifNo j (y at_300) (by decide) <| o_aload j (y at_303) rfl rfl <| o_aload j (y at_305) rfl rfl <| o_iload j (y at_307) rfl <| o_iconstV j 3 (y at_309) rfl <| k) ?_
  refine cS [(.ref r_54), (.ref a64), (.int (own_ln (own_nx (own_nx (own_nx (own_nx ([(105 : Int32), (102 : Int32), (95 : Int32)]) (0 : Int32) (own_low c0)) (own_sp (own_low c0)) (own_low c1)) (own_sp (own_low c1)) (own_low c2)) (own_sp (own_low c2)) (own_low c3)))), (.int 3)] [] 0 X174 hx hZ hown (w 200 rfl) (w 201 rfl) (w 194 rfl) (w 202 rfl) (rmEQ l Z a0 hw [] cs fm lo bl la lb li r_54 rb_54 rbk_54 a64 kc64 (own_nx (own_nx (own_nx (own_nx ([(105 : Int32), (102 : Int32), (95 : Int32)]) (0 : Int32) (own_low c0)) (own_sp (own_low c0)) (own_low c1)) (own_sp (own_low c1)) (own_low c2)) (own_sp (own_low c2)) (own_low c3)) (3 : Int32) T157.heap n0 Z157 H0 O158 F166 F167 E168 A169 Q157_0 (own_nx_ob (own_nx_ob (own_nx_ob (own_nx_ob (own_olc ⟨by decide, by decide⟩ (own_olc ⟨by decide, by decide⟩ (own_olc ⟨by decide, by decide⟩ own_oln))) (own_low_ob H8)) (own_low_ob H9)) (own_low_ob H10)) (own_low_ob H11)) (by decide) (by decide)) e174 hml pd_oLjava_lang_StringsaCIIcZ (y at_310) (fun v175 T175 L175 hQ175 X175 => ?_)
  obtain ⟨rfl, N175a, eh175⟩ := hQ175
  have N175 := Fr.app N174 N175a
  have e175 : T175.heap = T157.heap := eh175
  refine og2 X175 hx (fun j _ k => o_ifNo j (y at_313) (by decide) <| o_aload j (y at_316) rfl rfl <| o_aload j (y at_318) rfl rfl <| o_iload j (y at_320) rfl <| o_iconstV j 4 (y at_322) rfl <| k) ?_
  refine cS [(.ref r_54), (.ref a64), (.int (own_ln (own_nx (own_nx (own_nx (own_nx ([(105 : Int32), (102 : Int32), (95 : Int32)]) (0 : Int32) (own_low c0)) (own_sp (own_low c0)) (own_low c1)) (own_sp (own_low c1)) (own_low c2)) (own_sp (own_low c2)) (own_low c3)))), (.int 4)] [] 0 X175 hx hZ hown (w 200 rfl) (w 201 rfl) (w 194 rfl) (w 202 rfl) (rmEQ l Z a0 hw [] cs fm lo bl la lb li r_54 rb_54 rbk_54 a64 kc64 (own_nx (own_nx (own_nx (own_nx ([(105 : Int32), (102 : Int32), (95 : Int32)]) (0 : Int32) (own_low c0)) (own_sp (own_low c0)) (own_low c1)) (own_sp (own_low c1)) (own_low c2)) (own_sp (own_low c2)) (own_low c3)) (4 : Int32) T157.heap n0 Z157 H0 O158 F166 F167 E168 A169 Q157_0 (own_nx_ob (own_nx_ob (own_nx_ob (own_nx_ob (own_olc ⟨by decide, by decide⟩ (own_olc ⟨by decide, by decide⟩ (own_olc ⟨by decide, by decide⟩ own_oln))) (own_low_ob H8)) (own_low_ob H9)) (own_low_ob H10)) (own_low_ob H11)) (by decide) (by decide)) e175 hml pd_oLjava_lang_StringsaCIIcZ (y at_323) (fun v176 T176 L176 hQ176 X176 => ?_)
  obtain ⟨rfl, N176a, eh176⟩ := hQ176
  have N176 := Fr.app N175 N176a
  have e176 : T176.heap = T157.heap := eh176
  refine og2 X176 hx (fun j _ k => o_ifNo j (y at_326) (by decide) <| o_aload j (y at_329) rfl rfl <| o_aload j (y at_331) rfl rfl <| o_iload j (y at_333) rfl <| o_iconstV j 5 (y at_335) rfl <| k) ?_
  refine cS [(.ref r_54), (.ref a64), (.int (own_ln (own_nx (own_nx (own_nx (own_nx ([(105 : Int32), (102 : Int32), (95 : Int32)]) (0 : Int32) (own_low c0)) (own_sp (own_low c0)) (own_low c1)) (own_sp (own_low c1)) (own_low c2)) (own_sp (own_low c2)) (own_low c3)))), (.int 5)] [] 0 X176 hx hZ hown (w 200 rfl) (w 201 rfl) (w 194 rfl) (w 202 rfl) (rmEQ l Z a0 hw [] cs fm lo bl la lb li r_54 rb_54 rbk_54 a64 kc64 (own_nx (own_nx (own_nx (own_nx ([(105 : Int32), (102 : Int32), (95 : Int32)]) (0 : Int32) (own_low c0)) (own_sp (own_low c0)) (own_low c1)) (own_sp (own_low c1)) (own_low c2)) (own_sp (own_low c2)) (own_low c3)) (5 : Int32) T157.heap n0 Z157 H0 O158 F166 F167 E168 A169 Q157_0 (own_nx_ob (own_nx_ob (own_nx_ob (own_nx_ob (own_olc ⟨by decide, by decide⟩ (own_olc ⟨by decide, by decide⟩ (own_olc ⟨by decide, by decide⟩ own_oln))) (own_low_ob H8)) (own_low_ob H9)) (own_low_ob H10)) (own_low_ob H11)) (by decide) (by decide)) e176 hml pd_oLjava_lang_StringsaCIIcZ (y at_336) (fun v177 T177 L177 hQ177 X177 => ?_)
  obtain ⟨rfl, N177a, eh177⟩ := hQ177
  have N177 := Fr.app N176 N177a
  have e177 : T177.heap = T157.heap := eh177
  refine og2 X177 hx (fun j _ k => o_ifNo j (y at_339) (by decide) <| o_aload j (y at_342) rfl rfl <| o_aload j (y at_344) rfl rfl <| o_iload j (y at_346) rfl <| o_bipushV j 6 (y at_348) rfl <| k) ?_
  refine cS [(.ref r_54), (.ref a64), (.int (own_ln (own_nx (own_nx (own_nx (own_nx ([(105 : Int32), (102 : Int32), (95 : Int32)]) (0 : Int32) (own_low c0)) (own_sp (own_low c0)) (own_low c1)) (own_sp (own_low c1)) (own_low c2)) (own_sp (own_low c2)) (own_low c3)))), (.int 6)] [] 0 X177 hx hZ hown (w 200 rfl) (w 201 rfl) (w 194 rfl) (w 202 rfl) (rmEQ l Z a0 hw [] cs fm lo bl la lb li r_54 rb_54 rbk_54 a64 kc64 (own_nx (own_nx (own_nx (own_nx ([(105 : Int32), (102 : Int32), (95 : Int32)]) (0 : Int32) (own_low c0)) (own_sp (own_low c0)) (own_low c1)) (own_sp (own_low c1)) (own_low c2)) (own_sp (own_low c2)) (own_low c3)) (6 : Int32) T157.heap n0 Z157 H0 O158 F166 F167 E168 A169 Q157_0 (own_nx_ob (own_nx_ob (own_nx_ob (own_nx_ob (own_olc ⟨by decide, by decide⟩ (own_olc ⟨by decide, by decide⟩ (own_olc ⟨by decide, by decide⟩ own_oln))) (own_low_ob H8)) (own_low_ob H9)) (own_low_ob H10)) (own_low_ob H11)) (by decide) (by decide)) e177 hml pd_oLjava_lang_StringsaCIIcZ (y at_350) (fun v178 T178 L178 hQ178 X178 => ?_)
  obtain ⟨rfl, N178a, eh178⟩ := hQ178
  have N178 := Fr.app N177 N178a
  have e178 : T178.heap = T157.heap := eh178
  refine og2 X178 hx (fun j _ k => o_ifNo j (y at_353) (by decide) <| o_aload j (y at_356) rfl rfl <| o_aload j (y at_358) rfl rfl <| o_iload j (y at_360) rfl <| o_bipushV j 7 (y at_362) rfl <| k) ?_
  refine cS [(.ref r_54), (.ref a64), (.int (own_ln (own_nx (own_nx (own_nx (own_nx ([(105 : Int32), (102 : Int32), (95 : Int32)]) (0 : Int32) (own_low c0)) (own_sp (own_low c0)) (own_low c1)) (own_sp (own_low c1)) (own_low c2)) (own_sp (own_low c2)) (own_low c3)))), (.int 7)] [] 0 X178 hx hZ hown (w 200 rfl) (w 201 rfl) (w 194 rfl) (w 202 rfl) (rmEQ l Z a0 hw [] cs fm lo bl la lb li r_54 rb_54 rbk_54 a64 kc64 (own_nx (own_nx (own_nx (own_nx ([(105 : Int32), (102 : Int32), (95 : Int32)]) (0 : Int32) (own_low c0)) (own_sp (own_low c0)) (own_low c1)) (own_sp (own_low c1)) (own_low c2)) (own_sp (own_low c2)) (own_low c3)) (7 : Int32) T157.heap n0 Z157 H0 O158 F166 F167 E168 A169 Q157_0 (own_nx_ob (own_nx_ob (own_nx_ob (own_nx_ob (own_olc ⟨by decide, by decide⟩ (own_olc ⟨by decide, by decide⟩ (own_olc ⟨by decide, by decide⟩ own_oln))) (own_low_ob H8)) (own_low_ob H9)) (own_low_ob H10)) (own_low_ob H11)) (by decide) (by decide)) e178 hml pd_oLjava_lang_StringsaCIIcZ (y at_364) (fun v179 T179 L179 hQ179 X179 => ?_)
  obtain ⟨rfl, N179a, eh179⟩ := hQ179
  have N179 := Fr.app N178 N179a
  have e179 : T179.heap = T157.heap := eh179
  refine og2 X179 hx (fun j _ k => o_ifNo j (y at_367) (by decide) <| o_aload j (y at_370) rfl rfl <| o_aload j (y at_372) rfl rfl <| o_iload j (y at_374) rfl <| o_bipushV j 8 (y at_376) rfl <| k) ?_
  refine cS [(.ref r_54), (.ref a64), (.int (own_ln (own_nx (own_nx (own_nx (own_nx ([(105 : Int32), (102 : Int32), (95 : Int32)]) (0 : Int32) (own_low c0)) (own_sp (own_low c0)) (own_low c1)) (own_sp (own_low c1)) (own_low c2)) (own_sp (own_low c2)) (own_low c3)))), (.int 8)] [] 0 X179 hx hZ hown (w 200 rfl) (w 201 rfl) (w 194 rfl) (w 202 rfl) (rmEQ l Z a0 hw [] cs fm lo bl la lb li r_54 rb_54 rbk_54 a64 kc64 (own_nx (own_nx (own_nx (own_nx ([(105 : Int32), (102 : Int32), (95 : Int32)]) (0 : Int32) (own_low c0)) (own_sp (own_low c0)) (own_low c1)) (own_sp (own_low c1)) (own_low c2)) (own_sp (own_low c2)) (own_low c3)) (8 : Int32) T157.heap n0 Z157 H0 O158 F166 F167 E168 A169 Q157_0 (own_nx_ob (own_nx_ob (own_nx_ob (own_nx_ob (own_olc ⟨by decide, by decide⟩ (own_olc ⟨by decide, by decide⟩ (own_olc ⟨by decide, by decide⟩ own_oln))) (own_low_ob H8)) (own_low_ob H9)) (own_low_ob H10)) (own_low_ob H11)) (by decide) (by decide)) e179 hml pd_oLjava_lang_StringsaCIIcZ (y at_378) (fun v180 T180 L180 hQ180 X180 => ?_)
  obtain ⟨rfl, N180a, eh180⟩ := hQ180
  have N180 := Fr.app N179 N180a
  have e180 : T180.heap = T157.heap := eh180
  refine og2 X180 hx (fun j _ k => o_ifNo j (y at_381) (by decide) <| o_aload j (y at_384) rfl rfl <| o_aload j (y at_386) rfl rfl <| o_iload j (y at_388) rfl <| o_bipushV j 9 (y at_390) rfl <| k) ?_
  refine cS [(.ref r_54), (.ref a64), (.int (own_ln (own_nx (own_nx (own_nx (own_nx ([(105 : Int32), (102 : Int32), (95 : Int32)]) (0 : Int32) (own_low c0)) (own_sp (own_low c0)) (own_low c1)) (own_sp (own_low c1)) (own_low c2)) (own_sp (own_low c2)) (own_low c3)))), (.int 9)] [] 0 X180 hx hZ hown (w 200 rfl) (w 201 rfl) (w 194 rfl) (w 202 rfl) (rmEQ l Z a0 hw [] cs fm lo bl la lb li r_54 rb_54 rbk_54 a64 kc64 (own_nx (own_nx (own_nx (own_nx ([(105 : Int32), (102 : Int32), (95 : Int32)]) (0 : Int32) (own_low c0)) (own_sp (own_low c0)) (own_low c1)) (own_sp (own_low c1)) (own_low c2)) (own_sp (own_low c2)) (own_low c3)) (9 : Int32) T157.heap n0 Z157 H0 O158 F166 F167 E168 A169 Q157_0 (own_nx_ob (own_nx_ob (own_nx_ob (own_nx_ob (own_olc ⟨by decide, by decide⟩ (own_olc ⟨by decide, by decide⟩ (own_olc ⟨by decide, by decide⟩ own_oln))) (own_low_ob H8)) (own_low_ob H9)) (own_low_ob H10)) (own_low_ob H11)) (by decide) (by decide)) e180 hml pd_oLjava_lang_StringsaCIIcZ (y at_392) (fun v181 T181 L181 hQ181 X181 => ?_)
  obtain ⟨rfl, N181a, eh181⟩ := hQ181
  have N181 := Fr.app N180 N181a
  have e181 : T181.heap = T157.heap := eh181
  refine og2 X181 hx (fun j _ k => o_ifNo j (y at_395) (by decide) <| o_aload j (y at_398) rfl rfl <| o_aload j (y at_400) rfl rfl <| o_iload j (y at_402) rfl <| o_bipushV j 10 (y at_404) rfl <| k) ?_
  refine cS [(.ref r_54), (.ref a64), (.int (own_ln (own_nx (own_nx (own_nx (own_nx ([(105 : Int32), (102 : Int32), (95 : Int32)]) (0 : Int32) (own_low c0)) (own_sp (own_low c0)) (own_low c1)) (own_sp (own_low c1)) (own_low c2)) (own_sp (own_low c2)) (own_low c3)))), (.int 10)] [] 0 X181 hx hZ hown (w 200 rfl) (w 201 rfl) (w 194 rfl) (w 202 rfl) (rmEQ l Z a0 hw [] cs fm lo bl la lb li r_54 rb_54 rbk_54 a64 kc64 (own_nx (own_nx (own_nx (own_nx ([(105 : Int32), (102 : Int32), (95 : Int32)]) (0 : Int32) (own_low c0)) (own_sp (own_low c0)) (own_low c1)) (own_sp (own_low c1)) (own_low c2)) (own_sp (own_low c2)) (own_low c3)) (10 : Int32) T157.heap n0 Z157 H0 O158 F166 F167 E168 A169 Q157_0 (own_nx_ob (own_nx_ob (own_nx_ob (own_nx_ob (own_olc ⟨by decide, by decide⟩ (own_olc ⟨by decide, by decide⟩ (own_olc ⟨by decide, by decide⟩ own_oln))) (own_low_ob H8)) (own_low_ob H9)) (own_low_ob H10)) (own_low_ob H11)) (by decide) (by decide)) e181 hml pd_oLjava_lang_StringsaCIIcZ (y at_406) (fun v182 T182 L182 hQ182 X182 => ?_)
  obtain ⟨rfl, N182a, eh182⟩ := hQ182
  have N182 := Fr.app N181 N182a
  have e182 : T182.heap = T157.heap := eh182
  refine og2 X182 hx (fun j _ k => o_ifNo j (y at_409) (by decide) <| o_aload j (y at_412) rfl rfl <| o_aload j (y at_414) rfl rfl <| o_iload j (y at_416) rfl <| o_bipushV j 11 (y at_418) rfl <| k) ?_
  refine cS [(.ref r_54), (.ref a64), (.int (own_ln (own_nx (own_nx (own_nx (own_nx ([(105 : Int32), (102 : Int32), (95 : Int32)]) (0 : Int32) (own_low c0)) (own_sp (own_low c0)) (own_low c1)) (own_sp (own_low c1)) (own_low c2)) (own_sp (own_low c2)) (own_low c3)))), (.int 11)] [] 0 X182 hx hZ hown (w 200 rfl) (w 201 rfl) (w 194 rfl) (w 202 rfl) (rmEQ l Z a0 hw [] cs fm lo bl la lb li r_54 rb_54 rbk_54 a64 kc64 (own_nx (own_nx (own_nx (own_nx ([(105 : Int32), (102 : Int32), (95 : Int32)]) (0 : Int32) (own_low c0)) (own_sp (own_low c0)) (own_low c1)) (own_sp (own_low c1)) (own_low c2)) (own_sp (own_low c2)) (own_low c3)) (11 : Int32) T157.heap n0 Z157 H0 O158 F166 F167 E168 A169 Q157_0 (own_nx_ob (own_nx_ob (own_nx_ob (own_nx_ob (own_olc ⟨by decide, by decide⟩ (own_olc ⟨by decide, by decide⟩ (own_olc ⟨by decide, by decide⟩ own_oln))) (own_low_ob H8)) (own_low_ob H9)) (own_low_ob H10)) (own_low_ob H11)) (by decide) (by decide)) e182 hml pd_oLjava_lang_StringsaCIIcZ (y at_420) (fun v183 T183 L183 hQ183 X183 => ?_)
  obtain ⟨rfl, N183a, eh183⟩ := hQ183
  have N183 := Fr.app N182 N183a
  have e183 : T183.heap = T157.heap := eh183
  refine og2 X183 hx (fun j _ k => o_ifNo j (y at_423) (by decide) <| o_aload j (y at_426) rfl rfl <| o_aload j (y at_428) rfl rfl <| o_iload j (y at_430) rfl <| o_bipushV j 12 (y at_432) rfl <| k) ?_
  refine cS [(.ref r_54), (.ref a64), (.int (own_ln (own_nx (own_nx (own_nx (own_nx ([(105 : Int32), (102 : Int32), (95 : Int32)]) (0 : Int32) (own_low c0)) (own_sp (own_low c0)) (own_low c1)) (own_sp (own_low c1)) (own_low c2)) (own_sp (own_low c2)) (own_low c3)))), (.int 12)] [] 0 X183 hx hZ hown (w 200 rfl) (w 201 rfl) (w 194 rfl) (w 202 rfl) (rmEQ l Z a0 hw [] cs fm lo bl la lb li r_54 rb_54 rbk_54 a64 kc64 (own_nx (own_nx (own_nx (own_nx ([(105 : Int32), (102 : Int32), (95 : Int32)]) (0 : Int32) (own_low c0)) (own_sp (own_low c0)) (own_low c1)) (own_sp (own_low c1)) (own_low c2)) (own_sp (own_low c2)) (own_low c3)) (12 : Int32) T157.heap n0 Z157 H0 O158 F166 F167 E168 A169 Q157_0 (own_nx_ob (own_nx_ob (own_nx_ob (own_nx_ob (own_olc ⟨by decide, by decide⟩ (own_olc ⟨by decide, by decide⟩ (own_olc ⟨by decide, by decide⟩ own_oln))) (own_low_ob H8)) (own_low_ob H9)) (own_low_ob H10)) (own_low_ob H11)) (by decide) (by decide)) e183 hml pd_oLjava_lang_StringsaCIIcZ (y at_434) (fun v184 T184 L184 hQ184 X184 => ?_)
  obtain ⟨rfl, N184a, eh184⟩ := hQ184
  have N184 := Fr.app N183 N184a
  have e184 : T184.heap = T157.heap := eh184
  refine og2 X184 hx (fun j _ k => o_ifNo j (y at_437) (by decide) <| o_iconstV j 1 (y at_440) rfl <| o_goto j (pc' := 445) (y at_441) <| k) ?_
  exact rNW (v := (1 : Int32)) X184 hx Bd hS (Nat.le_trans (Nat.le_trans (Nat.le_trans (Nat.le_trans (Nat.le_trans (Nat.le_trans (Nat.le_trans (Nat.le_trans hkS E64.1) (Nat.le_of_eq W78.size.symm)) (Nat.le_of_eq W91.size.symm)) (Nat.le_of_eq W104.size.symm)) K118.1) K131.1) K144.1) K157.1) (by simp) rfl (y at_445) e184 ⟨rfl, N184⟩

def Q0v5 (Z : State) (cs : Int32) (fm : Value) (lo : Addr) (bl : Addr) (la : Addr) (lb : Addr) (li : Addr) (p1 : Int32) (p2 : Int32) (p3 : Int32) (p4 : Int32) (p5 : Int32) (p6 : Int32) (c0 : Int32) (c1 : Int32) (c2 : Int32) (c3 : Int32) (c4 : Int32) (h0 : Heap) (n0 : Nat) (v : Option Value) (h : Heap) (L : List Loc) : Prop := v = some (.int 1) ∧ Fr n0 L
theorem rm0v5 (l : Launch) (Z : State) (a0 : Array Value) (hw : HW a0 Z) (ws : List Jvm.Cond) (cs : Int32) (fm : Value) (lo : Addr) (bl : Addr) (la : Addr) (lb : Addr) (li : Addr) (p1 : Int32) (p2 : Int32) (p3 : Int32) (p4 : Int32) (p5 : Int32) (p6 : Int32) (c0 : Int32) (c1 : Int32) (c2 : Int32) (c3 : Int32) (c4 : Int32) (h0 : Heap) (n0 : Nat) (Z0 : n0 ≤ h0.size) (H0 : OSt Z cs fm lo bl la lb li) (pr1 : Old Z n0 h0) (H2 : own_i2c (p1 &&& (255 : Int32)) = c0) (H3 : own_i2c (p2 &&& (255 : Int32)) = c1) (H4 : own_i2c (p3 &&& (255 : Int32)) = c2) (H5 : own_i2c (p4 &&& (255 : Int32)) = c3) (H6 : own_i2c (p5 &&& (255 : Int32)) = c4) (H7 : (p6 &&& (7 : Int32)) - ((p6 &&& (7 : Int32)) / (6 : Int32)) * (6 : Int32) = 5) (H8 : OB c0) (H9 : OB c1) (H10 : OB c2) (H11 : OB c3) (H12 : OB c4) :
    MetFree l x (head1 (Jvm.Cond.code x code maxLocals ret :: ws) room_1) (fun a U => a = #[(.int p1), (.int p2), (.int p3), (.int p4), (.int p5), (.int p6)] ∧ Z.Warmed39 U.vm ∧ U.heap = h0 ∧ CHv Z own_EL U.vm h0) (fun _ _ _ _ _ => True) (fun _ U o U' => ∃ v L, o = .returned v ∧ Q0v5 Z cs fm lo bl la lb li p1 p2 p3 p4 p5 p6 c0 c1 c2 c3 c4 h0 n0 v U'.heap L ∧ ReturnedEndW U o U' L room_1.cells room_1.slots) := by
  refine og_startH (plainFor_of_name pn_com_example_obieg_obieg_ChoiceIdOfPinLaw) fun p e s m below meth c s₁ Bd hx hby hml hZ hown hnm X0 e0 hS hkS hC0 => ?_
  have y := @hb _ _ hby
  have w := @wd _ _ hw
  refine og (fun t k => castTop (ef20 m p1 p2 p3 p4 p5 p6) k) ?_
  refine og2 X0 hx (fun j _ k => o_iload j (y at_0) rfl <| o_bipushV j 7 (y at_2) rfl <| o_iand j (y at_4) <| o_bipushV j 6 (y at_5) rfl <| o_irem j (y at_7) (by decide) <| k) ?_
  rw [H7]
  refine og2 X0 hx (fun j _ k => o_istore j (y at_8) (l' := #[.val (.int p1), .val (.int p2), .val (.int p3), .val (.int p4), .val (.int p5), .val (.int p6), .val (.int 5), .unset, .unset, .unset, .unset, .unset]) rfl <| o_iconstV j 5 (y at_10) rfl <| k) ?_
  refine nP .char 5 "[C" X0 hx hZ (w 0 rfl) e0 (y at_11) (fun T1 h1 a1 kc1 g1 X1 e1 E1 A1 D1 => ?_)
  have Z1 : n0 ≤ h1.size := Nat.le_trans Z0 E1.1
  have G1 : n0 ≤ a1 := Nat.le_trans Z0 (Nat.le_of_eq g1.symm)
  have CH2 := CHv.ext E1 hC0
  have O3 := (pr1.ext E1)
  have SF1_a1 := Safe.ext E1 hC0 (Safe.new (Nat.le_of_eq g1.symm))
  have A4 : Arv Z h1 a1 kc1 .char (5 : Int32) [(.int 0), (.int 0), (.int 0), (.int 0), (.int 0)] (.int 0) := (A1.pad (pad_rep [] _ 5))
  refine og2 X1 hx (fun j _ k => o_astore j (y at_13) rfl (l' := #[.val (.int p1), .val (.int p2), .val (.int p3), .val (.int p4), .val (.int p5), .val (.int p6), .val (.int 5), .val (.ref a1), .unset, .unset, .unset, .unset]) rfl <| o_aload j (y at_15) rfl rfl <| o_iconstV j 0 (y at_17) rfl <| o_iloadN j (y at_18) rfl <| o_sipushV j 255 (y at_19) rfl <| o_iand j (y at_22) <| o_i2cO j (y at_23) <| k) ?_
  rw [H2]
  refine sC (v := c0) 0 X1 hx hZ e1 A4 (own_nar_ob H8) (y at_24) (fun T5 h5 X5 e5 W5 A5 => ?_)
  have SF6_a1 := Safe.wr W5 SF1_a1 CH2 SF1_a1
  have CH6 := CHv.wr W5 SF1_a1 CH2
  have N5 := Fr.snoc X5 (Fr.nil n0) G1
  have Z5 : n0 ≤ h5.size := (by rw [W5.size]; exact Z1)
  have O7 := (O3.wr W5 G1)
  have A5v : Arv Z h5 a1 kc1 .char (5 : Int32) [(.int c0), (.int 0), (.int 0), (.int 0), (.int 0)] (.int 0) := A5
  refine og2 X5 hx (fun j _ k => o_aload j (y at_25) rfl rfl <| o_iconstV j 1 (y at_27) rfl <| o_iloadN j (y at_28) rfl <| o_sipushV j 255 (y at_29) rfl <| o_iand j (y at_32) <| o_i2cO j (y at_33) <| k) ?_
  rw [H3]
  refine sC (v := c1) 1 X5 hx hZ e5 A5v (own_nar_ob H9) (y at_34) (fun T8 h8 X8 e8 W8 A8 => ?_)
  have SF9_a1 := Safe.wr W8 SF6_a1 CH6 SF6_a1
  have CH9 := CHv.wr W8 SF6_a1 CH6
  have N8 := Fr.snoc X8 N5 G1
  have Z8 : n0 ≤ h8.size := (by rw [W8.size]; exact Z5)
  have O10 := (O7.wr W8 G1)
  have A8v : Arv Z h8 a1 kc1 .char (5 : Int32) [(.int c0), (.int c1), (.int 0), (.int 0), (.int 0)] (.int 0) := A8
  refine og2 X8 hx (fun j _ k => o_aload j (y at_35) rfl rfl <| o_iconstV j 2 (y at_37) rfl <| o_iloadN j (y at_38) rfl <| o_sipushV j 255 (y at_39) rfl <| o_iand j (y at_42) <| o_i2cO j (y at_43) <| k) ?_
  rw [H4]
  refine sC (v := c2) 2 X8 hx hZ e8 A8v (own_nar_ob H10) (y at_44) (fun T11 h11 X11 e11 W11 A11 => ?_)
  have SF12_a1 := Safe.wr W11 SF9_a1 CH9 SF9_a1
  have CH12 := CHv.wr W11 SF9_a1 CH9
  have N11 := Fr.snoc X11 N8 G1
  have Z11 : n0 ≤ h11.size := (by rw [W11.size]; exact Z8)
  have O13 := (O10.wr W11 G1)
  have A11v : Arv Z h11 a1 kc1 .char (5 : Int32) [(.int c0), (.int c1), (.int c2), (.int 0), (.int 0)] (.int 0) := A11
  refine og2 X11 hx (fun j _ k => o_aload j (y at_45) rfl rfl <| o_iconstV j 3 (y at_47) rfl <| o_iloadN j (y at_48) rfl <| o_sipushV j 255 (y at_49) rfl <| o_iand j (y at_52) <| o_i2cO j (y at_53) <| k) ?_
  rw [H5]
  refine sC (v := c3) 3 X11 hx hZ e11 A11v (own_nar_ob H11) (y at_54) (fun T14 h14 X14 e14 W14 A14 => ?_)
  have SF15_a1 := Safe.wr W14 SF12_a1 CH12 SF12_a1
  have CH15 := CHv.wr W14 SF12_a1 CH12
  have N14 := Fr.snoc X14 N11 G1
  have Z14 : n0 ≤ h14.size := (by rw [W14.size]; exact Z11)
  have O16 := (O13.wr W14 G1)
  have A14v : Arv Z h14 a1 kc1 .char (5 : Int32) [(.int c0), (.int c1), (.int c2), (.int c3), (.int 0)] (.int 0) := A14
  refine og2 X14 hx (fun j _ k => o_aload j (y at_55) rfl rfl <| o_iconstV j 4 (y at_57) rfl <| o_iload j (y at_58) rfl <| o_sipushV j 255 (y at_60) rfl <| o_iand j (y at_63) <| o_i2cO j (y at_64) <| k) ?_
  rw [H6]
  refine sC (v := c4) 4 X14 hx hZ e14 A14v (own_nar_ob H12) (y at_65) (fun T17 h17 X17 e17 W17 A17 => ?_)
  have CH18 := CHv.wr W17 SF15_a1 CH15
  have N17 := Fr.snoc X17 N14 G1
  have Z17 : n0 ≤ h17.size := (by rw [W17.size]; exact Z14)
  have O19 := (O16.wr W17 G1)
  have A17v : Arv Z h17 a1 kc1 .char (5 : Int32) [(.int c0), (.int c1), (.int c2), (.int c3), (.int c4)] (.int 0) := A17
  refine og2 X17 hx (fun j _ k => o_iload j (y at_66) rfl <| k) ?_
  refine nP .char 5 "[C" X17 hx hZ (w 0 rfl) e17 (y at_68) (fun T20 h20 a20 kc20 g20 X20 e20 E20 A20 D20 => ?_)
  have Z20 : n0 ≤ h20.size := Nat.le_trans Z17 E20.1
  have G20 : n0 ≤ a20 := Nat.le_trans Z17 (Nat.le_of_eq g20.symm)
  have CH21 := CHv.ext E20 CH18
  have O22 := (O19.ext E20)
  have A23 := (A17v.ext E20)
  have SF20_a20 := Safe.ext E20 CH18 (Safe.new (Nat.le_of_eq g20.symm))
  have A24 : Arv Z h20 a20 kc20 .char (5 : Int32) [(.int 0), (.int 0), (.int 0), (.int 0), (.int 0)] (.int 0) := (A20.pad (pad_rep [] _ 5))
  refine og2 X20 hx (fun j _ k => o_astore j (y at_70) rfl (l' := #[.val (.int p1), .val (.int p2), .val (.int p3), .val (.int p4), .val (.int p5), .val (.int p6), .val (.int 5), .val (.ref a1), .val (.ref a20), .unset, .unset, .unset]) rfl <| o_iload j (y at_72) rfl <| o_ifNo j (y at_74) (by decide) <| o_aload j (y at_77) rfl rfl <| o_iconstV j 0 (y at_79) rfl <| o_aload j (y at_80) rfl rfl <| o_iconstV j 0 (y at_82) rfl <| o_caload (v := (.int c0)) X20 hx hZ e20 A23 ⟨by decide, by decide⟩ rfl (y at_83) <| k) ?_
  refine sC (v := c0) 0 X20 hx hZ e20 A24 (own_nar_ob H8) (y at_84) (fun T25 h25 X25 e25 W25 A25 => ?_)
  have SF26_a20 := Safe.wr W25 SF20_a20 CH21 SF20_a20
  have CH26 := CHv.wr W25 SF20_a20 CH21
  have N25 := Fr.snoc X25 N17 G20
  have Z25 : n0 ≤ h25.size := (by rw [W25.size]; exact Z20)
  have O27 := (O22.wr W25 G20)
  have A28 := (A23.other W25 (Nat.ne_of_lt (Nat.lt_of_lt_of_eq A17v.lt g20.symm)))
  have A25v : Arv Z h25 a20 kc20 .char (5 : Int32) [(.int c0), (.int 0), (.int 0), (.int 0), (.int 0)] (.int 0) := A25
  refine og2 X25 hx (fun j _ k => o_iload j (y at_85) rfl <| o_iconstV j 1 (y at_87) rfl <| o_icmpNo j (y at_88) (XT.ii_le_f (by decide)) <| o_aload j (y at_91) rfl rfl <| o_iconstV j 1 (y at_93) rfl <| o_aload j (y at_94) rfl rfl <| o_iconstV j 1 (y at_96) rfl <| o_caload (v := (.int c1)) X25 hx hZ e25 A28 ⟨by decide, by decide⟩ rfl (y at_97) <| k) ?_
  refine sC (v := c1) 1 X25 hx hZ e25 A25v (own_nar_ob H9) (y at_98) (fun T29 h29 X29 e29 W29 A29 => ?_)
  have SF30_a20 := Safe.wr W29 SF26_a20 CH26 SF26_a20
  have CH30 := CHv.wr W29 SF26_a20 CH26
  have N29 := Fr.snoc X29 N25 G20
  have Z29 : n0 ≤ h29.size := (by rw [W29.size]; exact Z25)
  have O31 := (O27.wr W29 G20)
  have A32 := (A28.other W29 (Nat.ne_of_lt (Nat.lt_of_lt_of_eq A17v.lt g20.symm)))
  have A29v : Arv Z h29 a20 kc20 .char (5 : Int32) [(.int c0), (.int c1), (.int 0), (.int 0), (.int 0)] (.int 0) := A29
  refine og2 X29 hx (fun j _ k => o_iload j (y at_99) rfl <| o_iconstV j 2 (y at_101) rfl <| o_icmpNo j (y at_102) (XT.ii_le_f (by decide)) <| o_aload j (y at_105) rfl rfl <| o_iconstV j 2 (y at_107) rfl <| o_aload j (y at_108) rfl rfl <| o_iconstV j 2 (y at_110) rfl <| o_caload (v := (.int c2)) X29 hx hZ e29 A32 ⟨by decide, by decide⟩ rfl (y at_111) <| k) ?_
  refine sC (v := c2) 2 X29 hx hZ e29 A29v (own_nar_ob H10) (y at_112) (fun T33 h33 X33 e33 W33 A33 => ?_)
  have SF34_a20 := Safe.wr W33 SF30_a20 CH30 SF30_a20
  have CH34 := CHv.wr W33 SF30_a20 CH30
  have N33 := Fr.snoc X33 N29 G20
  have Z33 : n0 ≤ h33.size := (by rw [W33.size]; exact Z29)
  have O35 := (O31.wr W33 G20)
  have A36 := (A32.other W33 (Nat.ne_of_lt (Nat.lt_of_lt_of_eq A17v.lt g20.symm)))
  have A33v : Arv Z h33 a20 kc20 .char (5 : Int32) [(.int c0), (.int c1), (.int c2), (.int 0), (.int 0)] (.int 0) := A33
  refine og2 X33 hx (fun j _ k => o_iload j (y at_113) rfl <| o_iconstV j 3 (y at_115) rfl <| o_icmpNo j (y at_116) (XT.ii_le_f (by decide)) <| o_aload j (y at_119) rfl rfl <| o_iconstV j 3 (y at_121) rfl <| o_aload j (y at_122) rfl rfl <| o_iconstV j 3 (y at_124) rfl <| o_caload (v := (.int c3)) X33 hx hZ e33 A36 ⟨by decide, by decide⟩ rfl (y at_125) <| k) ?_
  refine sC (v := c3) 3 X33 hx hZ e33 A33v (own_nar_ob H11) (y at_126) (fun T37 h37 X37 e37 W37 A37 => ?_)
  have SF38_a20 := Safe.wr W37 SF34_a20 CH34 SF34_a20
  have CH38 := CHv.wr W37 SF34_a20 CH34
  have N37 := Fr.snoc X37 N33 G20
  have Z37 : n0 ≤ h37.size := (by rw [W37.size]; exact Z33)
  have O39 := (O35.wr W37 G20)
  have A40 := (A36.other W37 (Nat.ne_of_lt (Nat.lt_of_lt_of_eq A17v.lt g20.symm)))
  have A37v : Arv Z h37 a20 kc20 .char (5 : Int32) [(.int c0), (.int c1), (.int c2), (.int c3), (.int 0)] (.int 0) := A37
  refine og2 X37 hx (fun j _ k => o_iload j (y at_127) rfl <| o_iconstV j 4 (y at_129) rfl <| o_icmpNo j (y at_130) (XT.ii_le_f (by decide)) <| o_aload j (y at_133) rfl rfl <| o_iconstV j 4 (y at_135) rfl <| o_aload j (y at_136) rfl rfl <| o_iconstV j 4 (y at_138) rfl <| o_caload (v := (.int c4)) X37 hx hZ e37 A40 ⟨by decide, by decide⟩ rfl (y at_139) <| k) ?_
  refine sC (v := c4) 4 X37 hx hZ e37 A37v (own_nar_ob H12) (y at_140) (fun T41 h41 X41 e41 W41 A41 => ?_)
  have CH42 := CHv.wr W41 SF38_a20 CH38
  have N41 := Fr.snoc X41 N37 G20
  have Z41 : n0 ≤ h41.size := (by rw [W41.size]; exact Z37)
  have O43 := (O39.wr W41 G20)
  have A44 := (A40.other W41 (Nat.ne_of_lt (Nat.lt_of_lt_of_eq A17v.lt g20.symm)))
  have A41v : Arv Z h41 a20 kc20 .char (5 : Int32) [(.int c0), (.int c1), (.int c2), (.int c3), (.int c4)] (.int 0) := A41
  refine nO X41 hx hZ hown (w 1 rfl) (w 2 rfl) (w 3 rfl) e41 (y at_141) (fun T45 h45 a45 g45 X45 e45 E45 A45 D45 => ?_)
  have Z45 : n0 ≤ h45.size := Nat.le_trans Z41 E45.1
  have G45 : n0 ≤ a45 := Nat.le_trans Z41 (Nat.le_of_eq g45.symm)
  have CH46 := CHv.ext E45 CH42
  have O47 := (O43.ext E45)
  have A48 := (A44.ext E45)
  have A49 := (A41v.ext E45)
  have SF45_a45 := Safe.ext E45 CH42 (Safe.new (Nat.le_of_eq g45.symm))
  have F50 : Fld Z h45 a45 "java/lang/String" "coder" "B" (.int 0) := (D45 (Or.inr (w 27 rfl)) (ty := .byte) (by decide))
  have F51 : Fld Z h45 a45 "java/lang/String" "value" "[B" .null := (D45 (Or.inr (w 29 rfl)) (ty := (.array .byte)) (by decide))
  refine og2 X45 hx (fun j _ k => o_dup j (y at_144) rfl <| o_aload j (y at_145) rfl rfl <| k) ?_
  refine cI a45 [(.ref a20)] [(.ref a45)] 1 X45 hx hZ hown (w 4 rfl) (w 5 rfl) (w 3 rfl) (w 6 rfl) (rmI11 l Z a0 hw [] cs fm lo bl la lb li a45 a20 kc20 ([c0, c1, c2, c3, c4]) h45 n0 Z45 H0 O47 F51 F50 A45 A49 G45 (own_olc H8 (own_olc H9 (own_olc H10 (own_olc H11 (own_olc H12 own_oln))))) (Nat.le_of_ble_eq_true rfl) (show ¬ ((5 : Int32) = 0) from by decide)) e45 hml pd_oaCcV (y at_147) (fun v52 T52 L52 hQ52 X52 => ?_)
  obtain ⟨b_52, bk_52, rfl, N52a, K52, Q52_0, Q52_1, Q52_2, Q52_3⟩ := hQ52
  have N52 := Fr.app N41 N52a
  have e52 : T52.heap = T52.heap := rfl
  have Z52 : n0 ≤ T52.heap.size := (Nat.le_trans Z45 K52.1)
  have CH53 := CHv.keep K52 (allS SF45_a45 all0) CH46
  have O54 := (O47.keep K52 (allS G45 all0))
  have A55 := (A48.keep K52 (ninS (Nat.ne_of_lt (Nat.lt_of_lt_of_eq A44.lt g45.symm)) nin0))
  refine cSJ [(.ref a45)] [] 0 X52 hx hZ hown hS (Nat.le_trans (Nat.le_trans (Nat.le_trans (Nat.le_trans (Nat.le_trans (Nat.le_trans (Nat.le_trans (Nat.le_trans (Nat.le_trans (Nat.le_trans (Nat.le_trans (Nat.le_trans (Nat.le_trans (Nat.le_trans hkS E1.1) (Nat.le_of_eq W5.size.symm)) (Nat.le_of_eq W8.size.symm)) (Nat.le_of_eq W11.size.symm)) (Nat.le_of_eq W14.size.symm)) (Nat.le_of_eq W17.size.symm)) E20.1) (Nat.le_of_eq W25.size.symm)) (Nat.le_of_eq W29.size.symm)) (Nat.le_of_eq W33.size.symm)) (Nat.le_of_eq W37.size.symm)) (Nat.le_of_eq W41.size.symm)) E45.1) K52.1) (w 30 rfl) (w 31 rfl) (w 32 rfl) (w 33 rfl) (own_EW hw) CH53 (rmOF l Z a0 hw [] cs fm lo bl la lb li a45 b_52 bk_52 ([c0, c1, c2, c3, c4]) T52.heap n0 Z52 H0 O54 Q52_0 Q52_1 Q52_2 Q52_3 (own_olc H8 (own_olc H9 (own_olc H10 (own_olc H11 (own_olc H12 own_oln))))) (Nat.le_of_ble_eq_true rfl)) e52 hml pd_oLjava_lang_StringscLjava_lang_Strings (y at_150) (fun v58 T58 L58 hQ58 X58 hS hZ hown => ?_)
  obtain ⟨r_58, rb_58, rbk_58, rfl, N58a, K58, Q58_0, Q58_1, Q58_2, Q58_3⟩ := hQ58
  have N58 := Fr.app N52 N58a
  have e58 : T58.heap = T58.heap := rfl
  have Z58 : n0 ≤ T58.heap.size := (Nat.le_trans Z52 K58.1)
  have O59 := (O54.keep K58 all0)
  have A60 := (A55.keep K58 nin0)
  have hkS : T58.heap.size ≤ T58.heap.size := Nat.le_refl _
  have AR67 : Arv Z T58.heap rb_58 rbk_58 .byte (own_ln (own_nx (own_nx (own_nx (own_nx (own_nx ([(105 : Int32), (102 : Int32), (95 : Int32)]) (0 : Int32) (own_low c0)) (own_sp (own_low c0)) (own_low c1)) (own_sp (own_low c1)) (own_low c2)) (own_sp (own_low c2)) (own_low c3)) (own_sp (own_low c3)) (own_low c4))) (own_vb (own_nx (own_nx (own_nx (own_nx (own_nx ([(105 : Int32), (102 : Int32), (95 : Int32)]) (0 : Int32) (own_low c0)) (own_sp (own_low c0)) (own_low c1)) (own_sp (own_low c1)) (own_low c2)) (own_sp (own_low c2)) (own_low c3)) (own_sp (own_low c3)) (own_low c4))) (.int 0) := Q58_3
  refine og2 X58 hx (fun j _ k => o_astore j (y at_153) rfl (l' := #[.val (.int p1), .val (.int p2), .val (.int p3), .val (.int p4), .val (.int p5), .val (.int p6), .val (.int 5), .val (.ref a1), .val (.ref a20), .val (.ref r_58), .unset, .unset]) rfl <| o_bipushV j 13 (y at_155) rfl <| k) ?_
  refine nP .char 13 "[C" X58 hx hZ (w 0 rfl) e58 (y at_157) (fun T68 h68 a68 kc68 g68 X68 e68 E68 A68 D68 => ?_)
  have Z68 : n0 ≤ h68.size := Nat.le_trans Z58 E68.1
  have G68 : n0 ≤ a68 := Nat.le_trans Z58 (Nat.le_of_eq g68.symm)
  have O69 := (O59.ext E68)
  have A70 := (A60.ext E68)
  have F77 := (Fld.ext E68 Q58_0)
  have F78 := (Fld.ext E68 Q58_1)
  have E79 := (Exa.ext E68 Q58_2)
  have A80 := (AR67.ext E68)
  have A81 : Arv Z h68 a68 kc68 .char (13 : Int32) [(.int 0), (.int 0), (.int 0), (.int 0), (.int 0), (.int 0), (.int 0), (.int 0), (.int 0), (.int 0), (.int 0), (.int 0), (.int 0)] (.int 0) := (A68.pad (pad_rep [] _ 13))
  refine og2 X68 hx (fun j _ k => o_astore j (y at_159) rfl (l' := #[.val (.int p1), .val (.int p2), .val (.int p3), .val (.int p4), .val (.int p5), .val (.int p6), .val (.int 5), .val (.ref a1), .val (.ref a20), .val (.ref r_58), .val (.ref a68), .unset]) rfl <| o_aload j (y at_161) rfl rfl <| o_iconstV j 0 (y at_163) rfl <| o_bipushV j 105 (y at_164) rfl <| k) ?_
  refine sC (v := (105 : Int32)) 0 X68 hx hZ e68 A81 (by decide) (y at_166) (fun T82 h82 X82 e82 W82 A82 => ?_)
  have N82 := Fr.snoc X82 N58 G68
  have Z82 : n0 ≤ h82.size := (by rw [W82.size]; exact Z68)
  have O83 := (O69.wr W82 G68)
  have A84 := (A70.other W82 (Nat.ne_of_lt (Nat.lt_of_lt_of_eq A60.lt g68.symm)))
  have F91 := (Fld.other W82 F77 (Or.inl (Nat.ne_of_lt (Nat.lt_of_lt_of_eq Q58_0.lt g68.symm))))
  have F92 := (Fld.other W82 F78 (Or.inl (Nat.ne_of_lt (Nat.lt_of_lt_of_eq Q58_0.lt g68.symm))))
  have E93 := (Exa.wr W82 E79)
  have A94 := (A80.other W82 (Nat.ne_of_lt (Nat.lt_of_lt_of_eq AR67.lt g68.symm)))
  have A82v : Arv Z h82 a68 kc68 .char (13 : Int32) [(.int 105), (.int 0), (.int 0), (.int 0), (.int 0), (.int 0), (.int 0), (.int 0), (.int 0), (.int 0), (.int 0), (.int 0), (.int 0)] (.int 0) := A82
  refine og2 X82 hx (fun j _ k => o_aload j (y at_167) rfl rfl <| o_iconstV j 1 (y at_169) rfl <| o_bipushV j 102 (y at_170) rfl <| k) ?_
  refine sC (v := (102 : Int32)) 1 X82 hx hZ e82 A82v (by decide) (y at_172) (fun T95 h95 X95 e95 W95 A95 => ?_)
  have N95 := Fr.snoc X95 N82 G68
  have Z95 : n0 ≤ h95.size := (by rw [W95.size]; exact Z82)
  have O96 := (O83.wr W95 G68)
  have A97 := (A84.other W95 (Nat.ne_of_lt (Nat.lt_of_lt_of_eq A60.lt g68.symm)))
  have F104 := (Fld.other W95 F91 (Or.inl (Nat.ne_of_lt (Nat.lt_of_lt_of_eq Q58_0.lt g68.symm))))
  have F105 := (Fld.other W95 F92 (Or.inl (Nat.ne_of_lt (Nat.lt_of_lt_of_eq Q58_0.lt g68.symm))))
  have E106 := (Exa.wr W95 E93)
  have A107 := (A94.other W95 (Nat.ne_of_lt (Nat.lt_of_lt_of_eq AR67.lt g68.symm)))
  have A95v : Arv Z h95 a68 kc68 .char (13 : Int32) [(.int 105), (.int 102), (.int 0), (.int 0), (.int 0), (.int 0), (.int 0), (.int 0), (.int 0), (.int 0), (.int 0), (.int 0), (.int 0)] (.int 0) := A95
  refine og2 X95 hx (fun j _ k => o_aload j (y at_173) rfl rfl <| o_iconstV j 2 (y at_175) rfl <| o_bipushV j 95 (y at_176) rfl <| k) ?_
  refine sC (v := (95 : Int32)) 2 X95 hx hZ e95 A95v (by decide) (y at_178) (fun T108 h108 X108 e108 W108 A108 => ?_)
  have N108 := Fr.snoc X108 N95 G68
  have Z108 : n0 ≤ h108.size := (by rw [W108.size]; exact Z95)
  have O109 := (O96.wr W108 G68)
  have A110 := (A97.other W108 (Nat.ne_of_lt (Nat.lt_of_lt_of_eq A60.lt g68.symm)))
  have F117 := (Fld.other W108 F104 (Or.inl (Nat.ne_of_lt (Nat.lt_of_lt_of_eq Q58_0.lt g68.symm))))
  have F118 := (Fld.other W108 F105 (Or.inl (Nat.ne_of_lt (Nat.lt_of_lt_of_eq Q58_0.lt g68.symm))))
  have E119 := (Exa.wr W108 E106)
  have A120 := (A107.other W108 (Nat.ne_of_lt (Nat.lt_of_lt_of_eq AR67.lt g68.symm)))
  have A108v : Arv Z h108 a68 kc68 .char (13 : Int32) [(.int 105), (.int 102), (.int 95), (.int 0), (.int 0), (.int 0), (.int 0), (.int 0), (.int 0), (.int 0), (.int 0), (.int 0), (.int 0)] (.int 0) := A108
  refine og2 X108 hx (fun j _ k => o_iconstV j 3 (y at_179) rfl <| o_istore j (y at_180) (l' := #[.val (.int p1), .val (.int p2), .val (.int p3), .val (.int p4), .val (.int p5), .val (.int p6), .val (.int 5), .val (.ref a1), .val (.ref a20), .val (.ref r_58), .val (.ref a68), .val (.int 3)]) rfl <| k) ?_
  have AO121 : Arv Z h108 a68 kc68 .char (13 : Int32) (own_pc ([(105 : Int32), (102 : Int32), (95 : Int32)])) (.int 0) := A108v
  refine og2 X108 hx (fun j _ k => o_aload j (y at_182) rfl rfl <| o_iload j (y at_184) rfl <| o_iconstV j 0 (y at_186) rfl <| o_aload j (y at_187) rfl rfl <| o_iload j (y at_189) rfl <| k) ?_
  refine cS [(.ref a1), (.int 5), (.int 0), (.ref a68), (.int 3)] [] 0 X108 hx hZ hown (w 192 rfl) (w 193 rfl) (w 194 rfl) (w 195 rfl) (rmPU0 l Z a0 hw [] a1 kc1 a68 kc68 (5 : Int32) c0 c1 c2 c3 c4 ([(105 : Int32), (102 : Int32), (95 : Int32)]) h108 n0 Z108 A110 AO121 G68 (by decide) (Nat.lt_of_le_of_lt (Nat.le_of_ble_eq_true rfl : [(105 : Int32), (102 : Int32), (95 : Int32)].length ≤ 3) (by decide)) H8 (Nat.ne_of_lt (Nat.lt_of_lt_of_eq A60.lt g68.symm))) e108 hml pd_oaCIIaCIcI (y at_191) (fun v122 T122 L122 hQ122 X122 => ?_)
  obtain ⟨rfl, N122a, K122, Q122_0⟩ := hQ122
  have N122 := Fr.app N108 N122a
  have e122 : T122.heap = T122.heap := rfl
  have Z122 : n0 ≤ T122.heap.size := (Nat.le_trans Z108 K122.1)
  have O123 := (O109.keep K122 (allS G68 all0))
  have A124 := (A110.keep K122 (ninS (Nat.ne_of_lt (Nat.lt_of_lt_of_eq A60.lt g68.symm)) nin0))
  have F131 := (F117.keep K122 (ninS (Nat.ne_of_lt (Nat.lt_of_lt_of_eq Q58_0.lt g68.symm)) nin0))
  have F132 := (F118.keep K122 (ninS (Nat.ne_of_lt (Nat.lt_of_lt_of_eq Q58_0.lt g68.symm)) nin0))
  have E133 := (E119.keep K122)
  have A134 := (A120.keep K122 (ninS (Nat.ne_of_lt (Nat.lt_of_lt_of_eq AR67.lt g68.symm)) nin0))
  refine og2 X122 hx (fun j _ k => o_istore j (y at_194) (l' := #[.val (.int p1), .val (.int p2), .val (.int p3), .val (.int p4), .val (.int p5), .val (.int p6), .val (.int 5), .val (.ref a1), .val (.ref a20), .val (.ref r_58), .val (.ref a68), .val (.int (own_ln (own_nx ([(105 : Int32), (102 : Int32), (95 : Int32)]) (0 : Int32) (own_low c0))))]) rfl <| o_aload j (y at_196) rfl rfl <| o_iload j (y at_198) rfl <| o_iconstV j 1 (y at_200) rfl <| o_aload j (y at_201) rfl rfl <| o_iload j (y at_203) rfl <| k) ?_
  refine cS [(.ref a1), (.int 5), (.int 1), (.ref a68), (.int (own_ln (own_nx ([(105 : Int32), (102 : Int32), (95 : Int32)]) (0 : Int32) (own_low c0))))] [] 0 X122 hx hZ hown (w 192 rfl) (w 193 rfl) (w 194 rfl) (w 195 rfl) (rmPU1 l Z a0 hw [] a1 kc1 a68 kc68 (5 : Int32) c0 c1 c2 c3 c4 (own_nx ([(105 : Int32), (102 : Int32), (95 : Int32)]) (0 : Int32) (own_low c0)) T122.heap n0 Z122 A124 Q122_0 G68 (by decide) (Nat.lt_of_le_of_lt (own_nxl (Nat.le_of_ble_eq_true rfl : [(105 : Int32), (102 : Int32), (95 : Int32)].length ≤ 3)) (by decide)) H9 (Nat.ne_of_lt (Nat.lt_of_lt_of_eq A60.lt g68.symm)) H8) e122 hml pd_oaCIIaCIcI (y at_205) (fun v135 T135 L135 hQ135 X135 => ?_)
  obtain ⟨rfl, N135a, K135, Q135_0⟩ := hQ135
  have N135 := Fr.app N122 N135a
  have e135 : T135.heap = T135.heap := rfl
  have Z135 : n0 ≤ T135.heap.size := (Nat.le_trans Z122 K135.1)
  have O136 := (O123.keep K135 (allS G68 all0))
  have A137 := (A124.keep K135 (ninS (Nat.ne_of_lt (Nat.lt_of_lt_of_eq A60.lt g68.symm)) nin0))
  have F144 := (F131.keep K135 (ninS (Nat.ne_of_lt (Nat.lt_of_lt_of_eq Q58_0.lt g68.symm)) nin0))
  have F145 := (F132.keep K135 (ninS (Nat.ne_of_lt (Nat.lt_of_lt_of_eq Q58_0.lt g68.symm)) nin0))
  have E146 := (E133.keep K135)
  have A147 := (A134.keep K135 (ninS (Nat.ne_of_lt (Nat.lt_of_lt_of_eq AR67.lt g68.symm)) nin0))
  refine og2 X135 hx (fun j _ k => o_istore j (y at_208) (l' := #[.val (.int p1), .val (.int p2), .val (.int p3), .val (.int p4), .val (.int p5), .val (.int p6), .val (.int 5), .val (.ref a1), .val (.ref a20), .val (.ref r_58), .val (.ref a68), .val (.int (own_ln (own_nx (own_nx ([(105 : Int32), (102 : Int32), (95 : Int32)]) (0 : Int32) (own_low c0)) (own_sp (own_low c0)) (own_low c1))))]) rfl <| o_aload j (y at_210) rfl rfl <| o_iload j (y at_212) rfl <| o_iconstV j 2 (y at_214) rfl <| o_aload j (y at_215) rfl rfl <| o_iload j (y at_217) rfl <| k) ?_
  refine cS [(.ref a1), (.int 5), (.int 2), (.ref a68), (.int (own_ln (own_nx (own_nx ([(105 : Int32), (102 : Int32), (95 : Int32)]) (0 : Int32) (own_low c0)) (own_sp (own_low c0)) (own_low c1))))] [] 0 X135 hx hZ hown (w 192 rfl) (w 193 rfl) (w 194 rfl) (w 195 rfl) (rmPU2 l Z a0 hw [] a1 kc1 a68 kc68 (5 : Int32) c0 c1 c2 c3 c4 (own_nx (own_nx ([(105 : Int32), (102 : Int32), (95 : Int32)]) (0 : Int32) (own_low c0)) (own_sp (own_low c0)) (own_low c1)) T135.heap n0 Z135 A137 Q135_0 G68 (by decide) (Nat.lt_of_le_of_lt (own_nxl (own_nxl (Nat.le_of_ble_eq_true rfl : [(105 : Int32), (102 : Int32), (95 : Int32)].length ≤ 3))) (by decide)) H10 (Nat.ne_of_lt (Nat.lt_of_lt_of_eq A60.lt g68.symm)) H9) e135 hml pd_oaCIIaCIcI (y at_219) (fun v148 T148 L148 hQ148 X148 => ?_)
  obtain ⟨rfl, N148a, K148, Q148_0⟩ := hQ148
  have N148 := Fr.app N135 N148a
  have e148 : T148.heap = T148.heap := rfl
  have Z148 : n0 ≤ T148.heap.size := (Nat.le_trans Z135 K148.1)
  have O149 := (O136.keep K148 (allS G68 all0))
  have A150 := (A137.keep K148 (ninS (Nat.ne_of_lt (Nat.lt_of_lt_of_eq A60.lt g68.symm)) nin0))
  have F157 := (F144.keep K148 (ninS (Nat.ne_of_lt (Nat.lt_of_lt_of_eq Q58_0.lt g68.symm)) nin0))
  have F158 := (F145.keep K148 (ninS (Nat.ne_of_lt (Nat.lt_of_lt_of_eq Q58_0.lt g68.symm)) nin0))
  have E159 := (E146.keep K148)
  have A160 := (A147.keep K148 (ninS (Nat.ne_of_lt (Nat.lt_of_lt_of_eq AR67.lt g68.symm)) nin0))
  refine og2 X148 hx (fun j _ k => o_istore j (y at_222) (l' := #[.val (.int p1), .val (.int p2), .val (.int p3), .val (.int p4), .val (.int p5), .val (.int p6), .val (.int 5), .val (.ref a1), .val (.ref a20), .val (.ref r_58), .val (.ref a68), .val (.int (own_ln (own_nx (own_nx (own_nx ([(105 : Int32), (102 : Int32), (95 : Int32)]) (0 : Int32) (own_low c0)) (own_sp (own_low c0)) (own_low c1)) (own_sp (own_low c1)) (own_low c2))))]) rfl <| o_aload j (y at_224) rfl rfl <| o_iload j (y at_226) rfl <| o_iconstV j 3 (y at_228) rfl <| o_aload j (y at_229) rfl rfl <| o_iload j (y at_231) rfl <| k) ?_
  refine cS [(.ref a1), (.int 5), (.int 3), (.ref a68), (.int (own_ln (own_nx (own_nx (own_nx ([(105 : Int32), (102 : Int32), (95 : Int32)]) (0 : Int32) (own_low c0)) (own_sp (own_low c0)) (own_low c1)) (own_sp (own_low c1)) (own_low c2))))] [] 0 X148 hx hZ hown (w 192 rfl) (w 193 rfl) (w 194 rfl) (w 195 rfl) (rmPU3 l Z a0 hw [] a1 kc1 a68 kc68 (5 : Int32) c0 c1 c2 c3 c4 (own_nx (own_nx (own_nx ([(105 : Int32), (102 : Int32), (95 : Int32)]) (0 : Int32) (own_low c0)) (own_sp (own_low c0)) (own_low c1)) (own_sp (own_low c1)) (own_low c2)) T148.heap n0 Z148 A150 Q148_0 G68 (by decide) (Nat.lt_of_le_of_lt (own_nxl (own_nxl (own_nxl (Nat.le_of_ble_eq_true rfl : [(105 : Int32), (102 : Int32), (95 : Int32)].length ≤ 3)))) (by decide)) H11 (Nat.ne_of_lt (Nat.lt_of_lt_of_eq A60.lt g68.symm)) H10) e148 hml pd_oaCIIaCIcI (y at_233) (fun v161 T161 L161 hQ161 X161 => ?_)
  obtain ⟨rfl, N161a, K161, Q161_0⟩ := hQ161
  have N161 := Fr.app N148 N161a
  have e161 : T161.heap = T161.heap := rfl
  have Z161 : n0 ≤ T161.heap.size := (Nat.le_trans Z148 K161.1)
  have O162 := (O149.keep K161 (allS G68 all0))
  have A163 := (A150.keep K161 (ninS (Nat.ne_of_lt (Nat.lt_of_lt_of_eq A60.lt g68.symm)) nin0))
  have F170 := (F157.keep K161 (ninS (Nat.ne_of_lt (Nat.lt_of_lt_of_eq Q58_0.lt g68.symm)) nin0))
  have F171 := (F158.keep K161 (ninS (Nat.ne_of_lt (Nat.lt_of_lt_of_eq Q58_0.lt g68.symm)) nin0))
  have E172 := (E159.keep K161)
  have A173 := (A160.keep K161 (ninS (Nat.ne_of_lt (Nat.lt_of_lt_of_eq AR67.lt g68.symm)) nin0))
  refine og2 X161 hx (fun j _ k => o_istore j (y at_236) (l' := #[.val (.int p1), .val (.int p2), .val (.int p3), .val (.int p4), .val (.int p5), .val (.int p6), .val (.int 5), .val (.ref a1), .val (.ref a20), .val (.ref r_58), .val (.ref a68), .val (.int (own_ln (own_nx (own_nx (own_nx (own_nx ([(105 : Int32), (102 : Int32), (95 : Int32)]) (0 : Int32) (own_low c0)) (own_sp (own_low c0)) (own_low c1)) (own_sp (own_low c1)) (own_low c2)) (own_sp (own_low c2)) (own_low c3))))]) rfl <| o_aload j (y at_238) rfl rfl <| o_iload j (y at_240) rfl <| o_iconstV j 4 (y at_242) rfl <| o_aload j (y at_243) rfl rfl <| o_iload j (y at_245) rfl <| k) ?_
  refine cS [(.ref a1), (.int 5), (.int 4), (.ref a68), (.int (own_ln (own_nx (own_nx (own_nx (own_nx ([(105 : Int32), (102 : Int32), (95 : Int32)]) (0 : Int32) (own_low c0)) (own_sp (own_low c0)) (own_low c1)) (own_sp (own_low c1)) (own_low c2)) (own_sp (own_low c2)) (own_low c3))))] [] 0 X161 hx hZ hown (w 192 rfl) (w 193 rfl) (w 194 rfl) (w 195 rfl) (rmPU4 l Z a0 hw [] a1 kc1 a68 kc68 (5 : Int32) c0 c1 c2 c3 c4 (own_nx (own_nx (own_nx (own_nx ([(105 : Int32), (102 : Int32), (95 : Int32)]) (0 : Int32) (own_low c0)) (own_sp (own_low c0)) (own_low c1)) (own_sp (own_low c1)) (own_low c2)) (own_sp (own_low c2)) (own_low c3)) T161.heap n0 Z161 A163 Q161_0 G68 (by decide) (Nat.lt_of_le_of_lt (own_nxl (own_nxl (own_nxl (own_nxl (Nat.le_of_ble_eq_true rfl : [(105 : Int32), (102 : Int32), (95 : Int32)].length ≤ 3))))) (by decide)) H12 (Nat.ne_of_lt (Nat.lt_of_lt_of_eq A60.lt g68.symm)) H11) e161 hml pd_oaCIIaCIcI (y at_247) (fun v174 T174 L174 hQ174 X174 => ?_)
  obtain ⟨rfl, N174a, K174, Q174_0⟩ := hQ174
  have N174 := Fr.app N161 N174a
  have e174 : T174.heap = T174.heap := rfl
  have Z174 : n0 ≤ T174.heap.size := (Nat.le_trans Z161 K174.1)
  have O175 := (O162.keep K174 (allS G68 all0))
  have F183 := (F170.keep K174 (ninS (Nat.ne_of_lt (Nat.lt_of_lt_of_eq Q58_0.lt g68.symm)) nin0))
  have F184 := (F171.keep K174 (ninS (Nat.ne_of_lt (Nat.lt_of_lt_of_eq Q58_0.lt g68.symm)) nin0))
  have E185 := (E172.keep K174)
  have A186 := (A173.keep K174 (ninS (Nat.ne_of_lt (Nat.lt_of_lt_of_eq AR67.lt g68.symm)) nin0))
  refine og2 X174 hx (fun j _ k => o_istore j (y at_250) (l' := #[.val (.int p1), .val (.int p2), .val (.int p3), .val (.int p4), .val (.int p5), .val (.int p6), .val (.int 5), .val (.ref a1), .val (.ref a20), .val (.ref r_58), .val (.ref a68), .val (.int (own_ln (own_nx (own_nx (own_nx (own_nx (own_nx ([(105 : Int32), (102 : Int32), (95 : Int32)]) (0 : Int32) (own_low c0)) (own_sp (own_low c0)) (own_low c1)) (own_sp (own_low c1)) (own_low c2)) (own_sp (own_low c2)) (own_low c3)) (own_sp (own_low c3)) (own_low c4))))]) rfl <| o_aload j (y at_252) rfl rfl <| k) ?_
  refine cV r_58 [] [] 0 X174 hx hZ hown (w 199 rfl) (w 69 rfl) (w 71 rfl) (w 70 rfl) (w 3 rfl) (w 72 rfl) (rmLE l Z a0 hw [] cs fm lo bl la lb li r_58 rb_58 rbk_58 (own_ln (own_nx (own_nx (own_nx (own_nx (own_nx ([(105 : Int32), (102 : Int32), (95 : Int32)]) (0 : Int32) (own_low c0)) (own_sp (own_low c0)) (own_low c1)) (own_sp (own_low c1)) (own_low c2)) (own_sp (own_low c2)) (own_low c3)) (own_sp (own_low c3)) (own_low c4))) (own_vb (own_nx (own_nx (own_nx (own_nx (own_nx ([(105 : Int32), (102 : Int32), (95 : Int32)]) (0 : Int32) (own_low c0)) (own_sp (own_low c0)) (own_low c1)) (own_sp (own_low c1)) (own_low c2)) (own_sp (own_low c2)) (own_low c3)) (own_sp (own_low c3)) (own_low c4))) T174.heap n0 Z174 H0 O175 F183 F184 E185 A186) e174 E185 hml pd_ocI (y at_254) (fun v187 T187 L187 hQ187 X187 => ?_)
  obtain ⟨rfl, N187a, eh187⟩ := hQ187
  have N187 := Fr.app N174 N187a
  have e187 : T187.heap = T174.heap := eh187
  refine og2 X187 hx (fun j _ k => o_iload j (y at_257) rfl <| o_icmpYes j (pc' := 264) (y at_259) (XT.ii_eq_t rfl) <| o_aload j (y at_264) rfl rfl <| o_aload j (y at_266) rfl rfl <| o_iload j (y at_268) rfl <| o_iconstV j 0 (y at_270) rfl <| k) ?_
  refine cS [(.ref r_58), (.ref a68), (.int (own_ln (own_nx (own_nx (own_nx (own_nx (own_nx ([(105 : Int32), (102 : Int32), (95 : Int32)]) (0 : Int32) (own_low c0)) (own_sp (own_low c0)) (own_low c1)) (own_sp (own_low c1)) (own_low c2)) (own_sp (own_low c2)) (own_low c3)) (own_sp (own_low c3)) (own_low c4)))), (.int 0)] [] 0 X187 hx hZ hown (w 200 rfl) (w 201 rfl) (w 194 rfl) (w 202 rfl) (rmEQ l Z a0 hw [] cs fm lo bl la lb li r_58 rb_58 rbk_58 a68 kc68 (own_nx (own_nx (own_nx (own_nx (own_nx ([(105 : Int32), (102 : Int32), (95 : Int32)]) (0 : Int32) (own_low c0)) (own_sp (own_low c0)) (own_low c1)) (own_sp (own_low c1)) (own_low c2)) (own_sp (own_low c2)) (own_low c3)) (own_sp (own_low c3)) (own_low c4)) (0 : Int32) T174.heap n0 Z174 H0 O175 F183 F184 E185 A186 Q174_0 (own_nx_ob (own_nx_ob (own_nx_ob (own_nx_ob (own_nx_ob (own_olc ⟨by decide, by decide⟩ (own_olc ⟨by decide, by decide⟩ (own_olc ⟨by decide, by decide⟩ own_oln))) (own_low_ob H8)) (own_low_ob H9)) (own_low_ob H10)) (own_low_ob H11)) (own_low_ob H12)) (by decide) (by decide)) e187 hml pd_oLjava_lang_StringsaCIIcZ (y at_271) (fun v188 T188 L188 hQ188 X188 => ?_)
  obtain ⟨rfl, N188a, eh188⟩ := hQ188
  have N188 := Fr.app N187 N188a
  have e188 : T188.heap = T174.heap := eh188
  refine og2 X188 hx (fun j _ k => o_ifNo j (y at_274) (by decide) <| o_aload j (y at_277) rfl rfl <| o_aload j (y at_279) rfl rfl <| o_iload j (y at_281) rfl <| o_iconstV j 1 (y at_283) rfl <| k) ?_
  refine cS [(.ref r_58), (.ref a68), (.int (own_ln (own_nx (own_nx (own_nx (own_nx (own_nx ([(105 : Int32), (102 : Int32), (95 : Int32)]) (0 : Int32) (own_low c0)) (own_sp (own_low c0)) (own_low c1)) (own_sp (own_low c1)) (own_low c2)) (own_sp (own_low c2)) (own_low c3)) (own_sp (own_low c3)) (own_low c4)))), (.int 1)] [] 0 X188 hx hZ hown (w 200 rfl) (w 201 rfl) (w 194 rfl) (w 202 rfl) (rmEQ l Z a0 hw [] cs fm lo bl la lb li r_58 rb_58 rbk_58 a68 kc68 (own_nx (own_nx (own_nx (own_nx (own_nx ([(105 : Int32), (102 : Int32), (95 : Int32)]) (0 : Int32) (own_low c0)) (own_sp (own_low c0)) (own_low c1)) (own_sp (own_low c1)) (own_low c2)) (own_sp (own_low c2)) (own_low c3)) (own_sp (own_low c3)) (own_low c4)) (1 : Int32) T174.heap n0 Z174 H0 O175 F183 F184 E185 A186 Q174_0 (own_nx_ob (own_nx_ob (own_nx_ob (own_nx_ob (own_nx_ob (own_olc ⟨by decide, by decide⟩ (own_olc ⟨by decide, by decide⟩ (own_olc ⟨by decide, by decide⟩ own_oln))) (own_low_ob H8)) (own_low_ob H9)) (own_low_ob H10)) (own_low_ob H11)) (own_low_ob H12)) (by decide) (by decide)) e188 hml pd_oLjava_lang_StringsaCIIcZ (y at_284) (fun v189 T189 L189 hQ189 X189 => ?_)
  obtain ⟨rfl, N189a, eh189⟩ := hQ189
  have N189 := Fr.app N188 N189a
  have e189 : T189.heap = T174.heap := eh189
  refine og2 X189 hx (fun j _ k => o_ifNo j (y at_287) (by decide) <| o_aload j (y at_290) rfl rfl <| o_aload j (y at_292) rfl rfl <| o_iload j (y at_294) rfl <| o_iconstV j 2 (y at_296) rfl <| k) ?_
  refine cS [(.ref r_58), (.ref a68), (.int (own_ln (own_nx (own_nx (own_nx (own_nx (own_nx ([(105 : Int32), (102 : Int32), (95 : Int32)]) (0 : Int32) (own_low c0)) (own_sp (own_low c0)) (own_low c1)) (own_sp (own_low c1)) (own_low c2)) (own_sp (own_low c2)) (own_low c3)) (own_sp (own_low c3)) (own_low c4)))), (.int 2)] [] 0 X189 hx hZ hown (w 200 rfl) (w 201 rfl) (w 194 rfl) (w 202 rfl) (rmEQ l Z a0 hw [] cs fm lo bl la lb li r_58 rb_58 rbk_58 a68 kc68 (own_nx (own_nx (own_nx (own_nx (own_nx ([(105 : Int32), (102 : Int32), (95 : Int32)]) (0 : Int32) (own_low c0)) (own_sp (own_low c0)) (own_low c1)) (own_sp (own_low c1)) (own_low c2)) (own_sp (own_low c2)) (own_low c3)) (own_sp (own_low c3)) (own_low c4)) (2 : Int32) T174.heap n0 Z174 H0 O175 F183 F184 E185 A186 Q174_0 (own_nx_ob (own_nx_ob (own_nx_ob (own_nx_ob (own_nx_ob (own_olc ⟨by decide, by decide⟩ (own_olc ⟨by decide, by decide⟩ (own_olc ⟨by decide, by decide⟩ own_oln))) (own_low_ob H8)) (own_low_ob H9)) (own_low_ob H10)) (own_low_ob H11)) (own_low_ob H12)) (by decide) (by decide)) e189 hml pd_oLjava_lang_StringsaCIIcZ (y at_297) (fun v190 T190 L190 hQ190 X190 => ?_)
  obtain ⟨rfl, N190a, eh190⟩ := hQ190
  have N190 := Fr.app N189 N190a
  have e190 : T190.heap = T174.heap := eh190
  refine og2 X190 hx (fun j _ k => o_ifNo j (y at_300) (by decide) <| o_aload j (y at_303) rfl rfl <| o_aload j (y at_305) rfl rfl <| o_iload j (y at_307) rfl <| o_iconstV j 3 (y at_309) rfl <| k) ?_
  refine cS [(.ref r_58), (.ref a68), (.int (own_ln (own_nx (own_nx (own_nx (own_nx (own_nx ([(105 : Int32), (102 : Int32), (95 : Int32)]) (0 : Int32) (own_low c0)) (own_sp (own_low c0)) (own_low c1)) (own_sp (own_low c1)) (own_low c2)) (own_sp (own_low c2)) (own_low c3)) (own_sp (own_low c3)) (own_low c4)))), (.int 3)] [] 0 X190 hx hZ hown (w 200 rfl) (w 201 rfl) (w 194 rfl) (w 202 rfl) (rmEQ l Z a0 hw [] cs fm lo bl la lb li r_58 rb_58 rbk_58 a68 kc68 (own_nx (own_nx (own_nx (own_nx (own_nx ([(105 : Int32), (102 : Int32), (95 : Int32)]) (0 : Int32) (own_low c0)) (own_sp (own_low c0)) (own_low c1)) (own_sp (own_low c1)) (own_low c2)) (own_sp (own_low c2)) (own_low c3)) (own_sp (own_low c3)) (own_low c4)) (3 : Int32) T174.heap n0 Z174 H0 O175 F183 F184 E185 A186 Q174_0 (own_nx_ob (own_nx_ob (own_nx_ob (own_nx_ob (own_nx_ob (own_olc ⟨by decide, by decide⟩ (own_olc ⟨by decide, by decide⟩ (own_olc ⟨by decide, by decide⟩ own_oln))) (own_low_ob H8)) (own_low_ob H9)) (own_low_ob H10)) (own_low_ob H11)) (own_low_ob H12)) (by decide) (by decide)) e190 hml pd_oLjava_lang_StringsaCIIcZ (y at_310) (fun v191 T191 L191 hQ191 X191 => ?_)
  obtain ⟨rfl, N191a, eh191⟩ := hQ191
  have N191 := Fr.app N190 N191a
  have e191 : T191.heap = T174.heap := eh191
  refine og2 X191 hx (fun j _ k => o_ifNo j (y at_313) (by decide) <| o_aload j (y at_316) rfl rfl <| o_aload j (y at_318) rfl rfl <| o_iload j (y at_320) rfl <| o_iconstV j 4 (y at_322) rfl <| k) ?_
  refine cS [(.ref r_58), (.ref a68), (.int (own_ln (own_nx (own_nx (own_nx (own_nx (own_nx ([(105 : Int32), (102 : Int32), (95 : Int32)]) (0 : Int32) (own_low c0)) (own_sp (own_low c0)) (own_low c1)) (own_sp (own_low c1)) (own_low c2)) (own_sp (own_low c2)) (own_low c3)) (own_sp (own_low c3)) (own_low c4)))), (.int 4)] [] 0 X191 hx hZ hown (w 200 rfl) (w 201 rfl) (w 194 rfl) (w 202 rfl) (rmEQ l Z a0 hw [] cs fm lo bl la lb li r_58 rb_58 rbk_58 a68 kc68 (own_nx (own_nx (own_nx (own_nx (own_nx ([(105 : Int32), (102 : Int32), (95 : Int32)]) (0 : Int32) (own_low c0)) (own_sp (own_low c0)) (own_low c1)) (own_sp (own_low c1)) (own_low c2)) (own_sp (own_low c2)) (own_low c3)) (own_sp (own_low c3)) (own_low c4)) (4 : Int32) T174.heap n0 Z174 H0 O175 F183 F184 E185 A186 Q174_0 (own_nx_ob (own_nx_ob (own_nx_ob (own_nx_ob (own_nx_ob (own_olc ⟨by decide, by decide⟩ (own_olc ⟨by decide, by decide⟩ (own_olc ⟨by decide, by decide⟩ own_oln))) (own_low_ob H8)) (own_low_ob H9)) (own_low_ob H10)) (own_low_ob H11)) (own_low_ob H12)) (by decide) (by decide)) e191 hml pd_oLjava_lang_StringsaCIIcZ (y at_323) (fun v192 T192 L192 hQ192 X192 => ?_)
  obtain ⟨rfl, N192a, eh192⟩ := hQ192
  have N192 := Fr.app N191 N192a
  have e192 : T192.heap = T174.heap := eh192
  refine og2 X192 hx (fun j _ k => o_ifNo j (y at_326) (by decide) <| o_aload j (y at_329) rfl rfl <| o_aload j (y at_331) rfl rfl <| o_iload j (y at_333) rfl <| o_iconstV j 5 (y at_335) rfl <| k) ?_
  refine cS [(.ref r_58), (.ref a68), (.int (own_ln (own_nx (own_nx (own_nx (own_nx (own_nx ([(105 : Int32), (102 : Int32), (95 : Int32)]) (0 : Int32) (own_low c0)) (own_sp (own_low c0)) (own_low c1)) (own_sp (own_low c1)) (own_low c2)) (own_sp (own_low c2)) (own_low c3)) (own_sp (own_low c3)) (own_low c4)))), (.int 5)] [] 0 X192 hx hZ hown (w 200 rfl) (w 201 rfl) (w 194 rfl) (w 202 rfl) (rmEQ l Z a0 hw [] cs fm lo bl la lb li r_58 rb_58 rbk_58 a68 kc68 (own_nx (own_nx (own_nx (own_nx (own_nx ([(105 : Int32), (102 : Int32), (95 : Int32)]) (0 : Int32) (own_low c0)) (own_sp (own_low c0)) (own_low c1)) (own_sp (own_low c1)) (own_low c2)) (own_sp (own_low c2)) (own_low c3)) (own_sp (own_low c3)) (own_low c4)) (5 : Int32) T174.heap n0 Z174 H0 O175 F183 F184 E185 A186 Q174_0 (own_nx_ob (own_nx_ob (own_nx_ob (own_nx_ob (own_nx_ob (own_olc ⟨by decide, by decide⟩ (own_olc ⟨by decide, by decide⟩ (own_olc ⟨by decide, by decide⟩ own_oln))) (own_low_ob H8)) (own_low_ob H9)) (own_low_ob H10)) (own_low_ob H11)) (own_low_ob H12)) (by decide) (by decide)) e192 hml pd_oLjava_lang_StringsaCIIcZ (y at_336) (fun v193 T193 L193 hQ193 X193 => ?_)
  obtain ⟨rfl, N193a, eh193⟩ := hQ193
  have N193 := Fr.app N192 N193a
  have e193 : T193.heap = T174.heap := eh193
  refine og2 X193 hx (fun j _ k => o_ifNo j (y at_339) (by decide) <| o_aload j (y at_342) rfl rfl <| o_aload j (y at_344) rfl rfl <| o_iload j (y at_346) rfl <| o_bipushV j 6 (y at_348) rfl <| k) ?_
  refine cS [(.ref r_58), (.ref a68), (.int (own_ln (own_nx (own_nx (own_nx (own_nx (own_nx ([(105 : Int32), (102 : Int32), (95 : Int32)]) (0 : Int32) (own_low c0)) (own_sp (own_low c0)) (own_low c1)) (own_sp (own_low c1)) (own_low c2)) (own_sp (own_low c2)) (own_low c3)) (own_sp (own_low c3)) (own_low c4)))), (.int 6)] [] 0 X193 hx hZ hown (w 200 rfl) (w 201 rfl) (w 194 rfl) (w 202 rfl) (rmEQ l Z a0 hw [] cs fm lo bl la lb li r_58 rb_58 rbk_58 a68 kc68 (own_nx (own_nx (own_nx (own_nx (own_nx ([(105 : Int32), (102 : Int32), (95 : Int32)]) (0 : Int32) (own_low c0)) (own_sp (own_low c0)) (own_low c1)) (own_sp (own_low c1)) (own_low c2)) (own_sp (own_low c2)) (own_low c3)) (own_sp (own_low c3)) (own_low c4)) (6 : Int32) T174.heap n0 Z174 H0 O175 F183 F184 E185 A186 Q174_0 (own_nx_ob (own_nx_ob (own_nx_ob (own_nx_ob (own_nx_ob (own_olc ⟨by decide, by decide⟩ (own_olc ⟨by decide, by decide⟩ (own_olc ⟨by decide, by decide⟩ own_oln))) (own_low_ob H8)) (own_low_ob H9)) (own_low_ob H10)) (own_low_ob H11)) (own_low_ob H12)) (by decide) (by decide)) e193 hml pd_oLjava_lang_StringsaCIIcZ (y at_350) (fun v194 T194 L194 hQ194 X194 => ?_)
  obtain ⟨rfl, N194a, eh194⟩ := hQ194
  have N194 := Fr.app N193 N194a
  have e194 : T194.heap = T174.heap := eh194
  refine og2 X194 hx (fun j _ k => o_ifNo j (y at_353) (by decide) <| o_aload j (y at_356) rfl rfl <| o_aload j (y at_358) rfl rfl <| o_iload j (y at_360) rfl <| o_bipushV j 7 (y at_362) rfl <| k) ?_
  refine cS [(.ref r_58), (.ref a68), (.int (own_ln (own_nx (own_nx (own_nx (own_nx (own_nx ([(105 : Int32), (102 : Int32), (95 : Int32)]) (0 : Int32) (own_low c0)) (own_sp (own_low c0)) (own_low c1)) (own_sp (own_low c1)) (own_low c2)) (own_sp (own_low c2)) (own_low c3)) (own_sp (own_low c3)) (own_low c4)))), (.int 7)] [] 0 X194 hx hZ hown (w 200 rfl) (w 201 rfl) (w 194 rfl) (w 202 rfl) (rmEQ l Z a0 hw [] cs fm lo bl la lb li r_58 rb_58 rbk_58 a68 kc68 (own_nx (own_nx (own_nx (own_nx (own_nx ([(105 : Int32), (102 : Int32), (95 : Int32)]) (0 : Int32) (own_low c0)) (own_sp (own_low c0)) (own_low c1)) (own_sp (own_low c1)) (own_low c2)) (own_sp (own_low c2)) (own_low c3)) (own_sp (own_low c3)) (own_low c4)) (7 : Int32) T174.heap n0 Z174 H0 O175 F183 F184 E185 A186 Q174_0 (own_nx_ob (own_nx_ob (own_nx_ob (own_nx_ob (own_nx_ob (own_olc ⟨by decide, by decide⟩ (own_olc ⟨by decide, by decide⟩ (own_olc ⟨by decide, by decide⟩ own_oln))) (own_low_ob H8)) (own_low_ob H9)) (own_low_ob H10)) (own_low_ob H11)) (own_low_ob H12)) (by decide) (by decide)) e194 hml pd_oLjava_lang_StringsaCIIcZ (y at_364) (fun v195 T195 L195 hQ195 X195 => ?_)
  obtain ⟨rfl, N195a, eh195⟩ := hQ195
  have N195 := Fr.app N194 N195a
  have e195 : T195.heap = T174.heap := eh195
  refine og2 X195 hx (fun j _ k => o_ifNo j (y at_367) (by decide) <| o_aload j (y at_370) rfl rfl <| o_aload j (y at_372) rfl rfl <| o_iload j (y at_374) rfl <| o_bipushV j 8 (y at_376) rfl <| k) ?_
  refine cS [(.ref r_58), (.ref a68), (.int (own_ln (own_nx (own_nx (own_nx (own_nx (own_nx ([(105 : Int32), (102 : Int32), (95 : Int32)]) (0 : Int32) (own_low c0)) (own_sp (own_low c0)) (own_low c1)) (own_sp (own_low c1)) (own_low c2)) (own_sp (own_low c2)) (own_low c3)) (own_sp (own_low c3)) (own_low c4)))), (.int 8)] [] 0 X195 hx hZ hown (w 200 rfl) (w 201 rfl) (w 194 rfl) (w 202 rfl) (rmEQ l Z a0 hw [] cs fm lo bl la lb li r_58 rb_58 rbk_58 a68 kc68 (own_nx (own_nx (own_nx (own_nx (own_nx ([(105 : Int32), (102 : Int32), (95 : Int32)]) (0 : Int32) (own_low c0)) (own_sp (own_low c0)) (own_low c1)) (own_sp (own_low c1)) (own_low c2)) (own_sp (own_low c2)) (own_low c3)) (own_sp (own_low c3)) (own_low c4)) (8 : Int32) T174.heap n0 Z174 H0 O175 F183 F184 E185 A186 Q174_0 (own_nx_ob (own_nx_ob (own_nx_ob (own_nx_ob (own_nx_ob (own_olc ⟨by decide, by decide⟩ (own_olc ⟨by decide, by decide⟩ (own_olc ⟨by decide, by decide⟩ own_oln))) (own_low_ob H8)) (own_low_ob H9)) (own_low_ob H10)) (own_low_ob H11)) (own_low_ob H12)) (by decide) (by decide)) e195 hml pd_oLjava_lang_StringsaCIIcZ (y at_378) (fun v196 T196 L196 hQ196 X196 => ?_)
  obtain ⟨rfl, N196a, eh196⟩ := hQ196
  have N196 := Fr.app N195 N196a
  have e196 : T196.heap = T174.heap := eh196
  refine og2 X196 hx (fun j _ k => o_ifNo j (y at_381) (by decide) <| o_aload j (y at_384) rfl rfl <| o_aload j (y at_386) rfl rfl <| o_iload j (y at_388) rfl <| o_bipushV j 9 (y at_390) rfl <| k) ?_
  refine cS [(.ref r_58), (.ref a68), (.int (own_ln (own_nx (own_nx (own_nx (own_nx (own_nx ([(105 : Int32), (102 : Int32), (95 : Int32)]) (0 : Int32) (own_low c0)) (own_sp (own_low c0)) (own_low c1)) (own_sp (own_low c1)) (own_low c2)) (own_sp (own_low c2)) (own_low c3)) (own_sp (own_low c3)) (own_low c4)))), (.int 9)] [] 0 X196 hx hZ hown (w 200 rfl) (w 201 rfl) (w 194 rfl) (w 202 rfl) (rmEQ l Z a0 hw [] cs fm lo bl la lb li r_58 rb_58 rbk_58 a68 kc68 (own_nx (own_nx (own_nx (own_nx (own_nx ([(105 : Int32), (102 : Int32), (95 : Int32)]) (0 : Int32) (own_low c0)) (own_sp (own_low c0)) (own_low c1)) (own_sp (own_low c1)) (own_low c2)) (own_sp (own_low c2)) (own_low c3)) (own_sp (own_low c3)) (own_low c4)) (9 : Int32) T174.heap n0 Z174 H0 O175 F183 F184 E185 A186 Q174_0 (own_nx_ob (own_nx_ob (own_nx_ob (own_nx_ob (own_nx_ob (own_olc ⟨by decide, by decide⟩ (own_olc ⟨by decide, by decide⟩ (own_olc ⟨by decide, by decide⟩ own_oln))) (own_low_ob H8)) (own_low_ob H9)) (own_low_ob H10)) (own_low_ob H11)) (own_low_ob H12)) (by decide) (by decide)) e196 hml pd_oLjava_lang_StringsaCIIcZ (y at_392) (fun v197 T197 L197 hQ197 X197 => ?_)
  obtain ⟨rfl, N197a, eh197⟩ := hQ197
  have N197 := Fr.app N196 N197a
  have e197 : T197.heap = T174.heap := eh197
  refine og2 X197 hx (fun j _ k => o_ifNo j (y at_395) (by decide) <| o_aload j (y at_398) rfl rfl <| o_aload j (y at_400) rfl rfl <| o_iload j (y at_402) rfl <| o_bipushV j 10 (y at_404) rfl <| k) ?_
  refine cS [(.ref r_58), (.ref a68), (.int (own_ln (own_nx (own_nx (own_nx (own_nx (own_nx ([(105 : Int32), (102 : Int32), (95 : Int32)]) (0 : Int32) (own_low c0)) (own_sp (own_low c0)) (own_low c1)) (own_sp (own_low c1)) (own_low c2)) (own_sp (own_low c2)) (own_low c3)) (own_sp (own_low c3)) (own_low c4)))), (.int 10)] [] 0 X197 hx hZ hown (w 200 rfl) (w 201 rfl) (w 194 rfl) (w 202 rfl) (rmEQ l Z a0 hw [] cs fm lo bl la lb li r_58 rb_58 rbk_58 a68 kc68 (own_nx (own_nx (own_nx (own_nx (own_nx ([(105 : Int32), (102 : Int32), (95 : Int32)]) (0 : Int32) (own_low c0)) (own_sp (own_low c0)) (own_low c1)) (own_sp (own_low c1)) (own_low c2)) (own_sp (own_low c2)) (own_low c3)) (own_sp (own_low c3)) (own_low c4)) (10 : Int32) T174.heap n0 Z174 H0 O175 F183 F184 E185 A186 Q174_0 (own_nx_ob (own_nx_ob (own_nx_ob (own_nx_ob (own_nx_ob (own_olc ⟨by decide, by decide⟩ (own_olc ⟨by decide, by decide⟩ (own_olc ⟨by decide, by decide⟩ own_oln))) (own_low_ob H8)) (own_low_ob H9)) (own_low_ob H10)) (own_low_ob H11)) (own_low_ob H12)) (by decide) (by decide)) e197 hml pd_oLjava_lang_StringsaCIIcZ (y at_406) (fun v198 T198 L198 hQ198 X198 => ?_)
  obtain ⟨rfl, N198a, eh198⟩ := hQ198
  have N198 := Fr.app N197 N198a
  have e198 : T198.heap = T174.heap := eh198
  refine og2 X198 hx (fun j _ k => o_ifNo j (y at_409) (by decide) <| o_aload j (y at_412) rfl rfl <| o_aload j (y at_414) rfl rfl <| o_iload j (y at_416) rfl <| o_bipushV j 11 (y at_418) rfl <| k) ?_
  refine cS [(.ref r_58), (.ref a68), (.int (own_ln (own_nx (own_nx (own_nx (own_nx (own_nx ([(105 : Int32), (102 : Int32), (95 : Int32)]) (0 : Int32) (own_low c0)) (own_sp (own_low c0)) (own_low c1)) (own_sp (own_low c1)) (own_low c2)) (own_sp (own_low c2)) (own_low c3)) (own_sp (own_low c3)) (own_low c4)))), (.int 11)] [] 0 X198 hx hZ hown (w 200 rfl) (w 201 rfl) (w 194 rfl) (w 202 rfl) (rmEQ l Z a0 hw [] cs fm lo bl la lb li r_58 rb_58 rbk_58 a68 kc68 (own_nx (own_nx (own_nx (own_nx (own_nx ([(105 : Int32), (102 : Int32), (95 : Int32)]) (0 : Int32) (own_low c0)) (own_sp (own_low c0)) (own_low c1)) (own_sp (own_low c1)) (own_low c2)) (own_sp (own_low c2)) (own_low c3)) (own_sp (own_low c3)) (own_low c4)) (11 : Int32) T174.heap n0 Z174 H0 O175 F183 F184 E185 A186 Q174_0 (own_nx_ob (own_nx_ob (own_nx_ob (own_nx_ob (own_nx_ob (own_olc ⟨by decide, by decide⟩ (own_olc ⟨by decide, by decide⟩ (own_olc ⟨by decide, by decide⟩ own_oln))) (own_low_ob H8)) (own_low_ob H9)) (own_low_ob H10)) (own_low_ob H11)) (own_low_ob H12)) (by decide) (by decide)) e198 hml pd_oLjava_lang_StringsaCIIcZ (y at_420) (fun v199 T199 L199 hQ199 X199 => ?_)
  obtain ⟨rfl, N199a, eh199⟩ := hQ199
  have N199 := Fr.app N198 N199a
  have e199 : T199.heap = T174.heap := eh199
  refine og2 X199 hx (fun j _ k => o_ifNo j (y at_423) (by decide) <| o_aload j (y at_426) rfl rfl <| o_aload j (y at_428) rfl rfl <| o_iload j (y at_430) rfl <| o_bipushV j 12 (y at_432) rfl <| k) ?_
  refine cS [(.ref r_58), (.ref a68), (.int (own_ln (own_nx (own_nx (own_nx (own_nx (own_nx ([(105 : Int32), (102 : Int32), (95 : Int32)]) (0 : Int32) (own_low c0)) (own_sp (own_low c0)) (own_low c1)) (own_sp (own_low c1)) (own_low c2)) (own_sp (own_low c2)) (own_low c3)) (own_sp (own_low c3)) (own_low c4)))), (.int 12)] [] 0 X199 hx hZ hown (w 200 rfl) (w 201 rfl) (w 194 rfl) (w 202 rfl) (rmEQ l Z a0 hw [] cs fm lo bl la lb li r_58 rb_58 rbk_58 a68 kc68 (own_nx (own_nx (own_nx (own_nx (own_nx ([(105 : Int32), (102 : Int32), (95 : Int32)]) (0 : Int32) (own_low c0)) (own_sp (own_low c0)) (own_low c1)) (own_sp (own_low c1)) (own_low c2)) (own_sp (own_low c2)) (own_low c3)) (own_sp (own_low c3)) (own_low c4)) (12 : Int32) T174.heap n0 Z174 H0 O175 F183 F184 E185 A186 Q174_0 (own_nx_ob (own_nx_ob (own_nx_ob (own_nx_ob (own_nx_ob (own_olc ⟨by decide, by decide⟩ (own_olc ⟨by decide, by decide⟩ (own_olc ⟨by decide, by decide⟩ own_oln))) (own_low_ob H8)) (own_low_ob H9)) (own_low_ob H10)) (own_low_ob H11)) (own_low_ob H12)) (by decide) (by decide)) e199 hml pd_oLjava_lang_StringsaCIIcZ (y at_434) (fun v200 T200 L200 hQ200 X200 => ?_)
  obtain ⟨rfl, N200a, eh200⟩ := hQ200
  have N200 := Fr.app N199 N200a
  have e200 : T200.heap = T174.heap := eh200
  refine og2 X200 hx (fun j _ k => o_ifNo j (y at_437) (by decide) <| o_iconstV j 1 (y at_440) rfl <| o_goto j (pc' := 445) (y at_441) <| k) ?_
  exact rNW (v := (1 : Int32)) X200 hx Bd hS (Nat.le_trans (Nat.le_trans (Nat.le_trans (Nat.le_trans (Nat.le_trans (Nat.le_trans (Nat.le_trans (Nat.le_trans (Nat.le_trans hkS E68.1) (Nat.le_of_eq W82.size.symm)) (Nat.le_of_eq W95.size.symm)) (Nat.le_of_eq W108.size.symm)) K122.1) K135.1) K148.1) K161.1) K174.1) (by simp) rfl (y at_445) e200 ⟨rfl, N200⟩

def Q0 (Z : State) (cs : Int32) (fm : Value) (lo : Addr) (bl : Addr) (la : Addr) (lb : Addr) (li : Addr) (p1 : Int32) (p2 : Int32) (p3 : Int32) (p4 : Int32) (p5 : Int32) (p6 : Int32) (h0 : Heap) (n0 : Nat) (v : Option Value) (h : Heap) (L : List Loc) : Prop := v = some (.int 1) ∧ Fr n0 L
theorem rm0 (l : Launch) (Z : State) (a0 : Array Value) (hw : HW a0 Z) (ws : List Jvm.Cond) (cs : Int32) (fm : Value) (lo : Addr) (bl : Addr) (la : Addr) (lb : Addr) (li : Addr) (p1 : Int32) (p2 : Int32) (p3 : Int32) (p4 : Int32) (p5 : Int32) (p6 : Int32) (h0 : Heap) (n0 : Nat) (Z0 : n0 ≤ h0.size) (H0 : OSt Z cs fm lo bl la lb li) (pr1 : Old Z n0 h0) :
    MetFree l x (head1 (Jvm.Cond.code x code maxLocals ret :: ws) room_1) (fun a U => a = #[(.int p1), (.int p2), (.int p3), (.int p4), (.int p5), (.int p6)] ∧ Z.Warmed39 U.vm ∧ U.heap = h0 ∧ CHv Z own_EL U.vm h0) (fun _ _ _ _ _ => True) (fun _ U o U' => ∃ v L, o = .returned v ∧ Q0 Z cs fm lo bl la lb li p1 p2 p3 p4 p5 p6 h0 n0 v U'.heap L ∧ ReturnedEndW U o U' L room_1.cells room_1.slots) := by
  rcases own_len6 p6 with h | h | h | h | h | h
  · exact rm0v0 l Z a0 hw ws cs fm lo bl la lb li p1 p2 p3 p4 p5 p6 (own_i2c (p1 &&& 255)) (own_i2c (p2 &&& 255)) (own_i2c (p3 &&& 255)) (own_i2c (p4 &&& 255)) (own_i2c (p5 &&& 255)) h0 n0 Z0 H0 pr1 rfl rfl rfl rfl rfl h (own_obm _) (own_obm _) (own_obm _) (own_obm _) (own_obm _)
  · exact rm0v1 l Z a0 hw ws cs fm lo bl la lb li p1 p2 p3 p4 p5 p6 (own_i2c (p1 &&& 255)) (own_i2c (p2 &&& 255)) (own_i2c (p3 &&& 255)) (own_i2c (p4 &&& 255)) (own_i2c (p5 &&& 255)) h0 n0 Z0 H0 pr1 rfl rfl rfl rfl rfl h (own_obm _) (own_obm _) (own_obm _) (own_obm _) (own_obm _)
  · exact rm0v2 l Z a0 hw ws cs fm lo bl la lb li p1 p2 p3 p4 p5 p6 (own_i2c (p1 &&& 255)) (own_i2c (p2 &&& 255)) (own_i2c (p3 &&& 255)) (own_i2c (p4 &&& 255)) (own_i2c (p5 &&& 255)) h0 n0 Z0 H0 pr1 rfl rfl rfl rfl rfl h (own_obm _) (own_obm _) (own_obm _) (own_obm _) (own_obm _)
  · exact rm0v3 l Z a0 hw ws cs fm lo bl la lb li p1 p2 p3 p4 p5 p6 (own_i2c (p1 &&& 255)) (own_i2c (p2 &&& 255)) (own_i2c (p3 &&& 255)) (own_i2c (p4 &&& 255)) (own_i2c (p5 &&& 255)) h0 n0 Z0 H0 pr1 rfl rfl rfl rfl rfl h (own_obm _) (own_obm _) (own_obm _) (own_obm _) (own_obm _)
  · exact rm0v4 l Z a0 hw ws cs fm lo bl la lb li p1 p2 p3 p4 p5 p6 (own_i2c (p1 &&& 255)) (own_i2c (p2 &&& 255)) (own_i2c (p3 &&& 255)) (own_i2c (p4 &&& 255)) (own_i2c (p5 &&& 255)) h0 n0 Z0 H0 pr1 rfl rfl rfl rfl rfl h (own_obm _) (own_obm _) (own_obm _) (own_obm _) (own_obm _)
  · exact rm0v5 l Z a0 hw ws cs fm lo bl la lb li p1 p2 p3 p4 p5 p6 (own_i2c (p1 &&& 255)) (own_i2c (p2 &&& 255)) (own_i2c (p3 &&& 255)) (own_i2c (p4 &&& 255)) (own_i2c (p5 &&& 255)) h0 n0 Z0 H0 pr1 rfl rfl rfl rfl rfl h (own_obm _) (own_obm _) (own_obm _) (own_obm _) (own_obm _)

theorem own_sint {args : Array Value} {s : State} {t : Jvm.Term} {k : Int32} (h : (Jvm.Cond.eq t (Jvm.Term.int k)).value args s none s [] = some true) : t.eval args s none [] s = some (.int k) := by
  obtain ⟨X, Y, e1, e2, -, k2⟩ := cmp_v (Or.inl h)
  have q : Y = .int k := by simpa [Term.eval] using e2.symm
  subst q
  obtain ⟨z, rfl⟩ := k2
  have q := gotT (Cond.eq_ints e1 (Term.int_eval k)) h
  subst q
  exact e1
theorem own_fldE {args : Array Value} {s : State} {t : Jvm.Term} {C n d : String} {a : Addr} {v : Value} (ht : t.eval args s none [] s = some (.ref a)) (h : (Jvm.Term.field t C n d).eval args s none [] s = some v) : Fld s s.heap a C n d v := Fld.start (by simpa [Term.eval, ht] using h)
theorem own_arrAt {s : State} {a : Addr} {c : Cell} (h : s.arrayAt? a = some c) : s.heap[a]? = some c := by
  unfold State.arrayAt? at h
  cases hc : s.heap[a]? with
  | none => simp [hc] at h
  | some c' =>
    cases hk : s.vm.classes[c'.cls]? with
    | none => simp [hc, hk] at h
    | some k =>
      simp only [hc, hk, Option.bind_eq_bind, Option.bind_some] at h
      split at h
      · cases h
      · split at h
        · rw [Option.some.inj h]
        · cases h
theorem own_ost {args : Array Value} {s : State} (hs : ∀ d ∈ jdkStatics_1, d.before args s = true) : ∃ cs fm lo bl la lb li, OSt s cs fm lo bl la lb li := by
  have w : ∀ (i : Nat) {d : Jvm.Cond}, jdkStatics_1[i]? = some d → d.before args s = true := fun i d q => hs _ (List.mem_of_getElem? q)
  obtain ⟨cs, e1⟩ := is_v (Cond.before_iff.mp (w 1 rfl))
  have n1 := not_v (Cond.before_iff.mp (w 2 rfl))
  obtain ⟨fm, e2, r2⟩ := isR_v (Cond.before_iff.mp (w 8 rfl))
  obtain ⟨lo, e3⟩ := exa_v (Cond.before_iff.mp (w 11 rfl))
  obtain ⟨bl, e4⟩ := exa_v (Cond.before_iff.mp (w 12 rfl))
  obtain ⟨la, e5⟩ := exa_v (Cond.before_iff.mp (w 13 rfl))
  obtain ⟨lb, e6⟩ := arr_v (Cond.before_iff.mp (w 15 rfl))
  obtain ⟨lb2, cell, e7, e8, e9⟩ := Term.length_spec (own_sint (Cond.before_iff.mp (w 17 rfl)))
  cases e6.symm.trans e7
  obtain ⟨li, e10⟩ := exa_v (Cond.before_iff.mp (w 20 rfl))
  refine ⟨cs, fm, lo, bl, la, lb, li, Sta.start e1 (Or.inl (w 0 rfl)), gotF (Cond.eq_ints e1 (Term.int_eval 0)) n1, Sta.start e2 (Or.inl (w 7 rfl)), r2, Sta.start e3 (Or.inl (w 10 rfl)), Exa.start e3 (Cond.before_iff.mp (w 11 rfl)), own_fldE e3 e4, Exa.start e4 (Cond.before_iff.mp (w 12 rfl)), own_fldE e4 e5, own_fldE e5 e6, ⟨cell, ?_, ?_⟩, Sta.start e10 (Or.inl (w 19 rfl)), Exa.start e10 (Cond.before_iff.mp (w 20 rfl))⟩
  · exact own_arrAt e8
  · injection e9 with e9
    exact e9.symm

theorem own_ELc : ∀ p ∈ own_EL, p ∈ consts_1 := by decide +kernel

theorem comes_1 {Post : Tables → Env → Array Value → State → Outcome → State → Prop} (hpost : ∀ tb e args s v u, (limb_1_1.after args s (.returned v) u = true ∧ limb_1_2.after args s (.returned v) u = true ∧ True) → ReturnedEndW s (.returned v) u (Jvm.fieldLocs frame_1_writes args s ++ Jvm.arrayLocs frame_1_arrays args s ++ Jvm.staticLocs frame_1_statics s) 48 6400 → Post tb e args s (.returned v) u) :
    ArmFor flags0 classFile x code maxLocals ret World_1 tables_1 room_1 Calls_1 rest_1 Pre_1 Post := by
  intro l hfl _ _ p e ha hc hk s m args below hf hA hF happ hP
  obtain ⟨hcalls, hrest, hpre⟩ := hP
  obtain ⟨-, -, -, hnamed, -, -, -, hat⟩ := (Spec.applies_iff hf).mp happ
  obtain ⟨hg, hn⟩ := and_e (Cond.before_iff.mp (show (Jvm.Cond.and given_1 narrow_1).before args s = true from hpre))
  obtain ⟨hcount, hr0⟩ := and_e hg
  obtain ⟨g0, hr1⟩ := and_e hr0
  obtain ⟨g1, hr2⟩ := and_e hr1
  obtain ⟨g2, hr3⟩ := and_e hr2
  obtain ⟨g3, hr4⟩ := and_e hr3
  obtain ⟨g4, hr5⟩ := and_e hr4
  have g5 := hr5
  obtain ⟨w0, w1, w2, w3, w4, w5, rfl⟩ : ∃ w0 w1 w2 w3 w4 w5 : Value, args = #[w0, w1, w2, w3, w4, w5] := by
    have hs : args.size = 6 := by simpa [Cond.value, given_1] using hcount
    obtain ⟨L⟩ := args
    match L, hs with
    | [w0, w1, w2, w3, w4, w5], _ => exact ⟨w0, w1, w2, w3, w4, w5, rfl⟩
  have hw := fun d (hd : d ∈ tables_1) => atoms_spec (ws := Jvm.Cond.code x code maxLocals ret :: tables_1) hat d (List.mem_cons_of_mem _ hd)
  have hfit : Fit s := fun {y c} hc i hi => by
    obtain ⟨ha, rfl⟩ := Array.getElem?_eq_some_iff.mp hc
    have q := List.all_eq_true.mp ((Array.all_eq_true_iff_forall_mem.mp hF) _ (Array.getElem_mem ha)) i (List.mem_range.mpr hi)
    simpa [Array.getElem?_eq_getElem hi] using q
  obtain ⟨i0, e0⟩ := is_v g0
  obtain rfl : w0 = (.int i0) := Option.some.inj e0
  obtain ⟨i1, e1⟩ := is_v g1
  obtain rfl : w1 = (.int i1) := Option.some.inj e1
  obtain ⟨i2, e2⟩ := is_v g2
  obtain rfl : w2 = (.int i2) := Option.some.inj e2
  obtain ⟨i3, e3⟩ := is_v g3
  obtain rfl : w3 = (.int i3) := Option.some.inj e3
  obtain ⟨i4, e4⟩ := is_v g4
  obtain rfl : w4 = (.int i4) := Option.some.inj e4
  obtain ⟨i5, e5⟩ := is_v g5
  obtain rfl : w5 = (.int i5) := Option.some.inj e5
  obtain ⟨hsets, -⟩ := atoms_of _ (rest_1_c_eq ▸ (show rest_1_c.before _ s = true from hrest))
  obtain ⟨cs, fm, lo, bl, la, lb, li, hO⟩ := own_ost hsets
  have hCH : CHv s own_EL s.vm s.heap := CHv.start (own_EW hw) (fun p hp => hcalls.1 p (own_ELc p hp)) (hsets _ (List.mem_of_getElem? (i := 2) rfl)) (hw _ (List.mem_of_getElem? (i := 19) rfl)) (hw _ (List.mem_of_getElem? (i := 2) rfl))
  obtain ⟨n, o, h1, h2, h3, _, L, rfl, ⟨rfl, N⟩, hq⟩ := rm0 l s _ hw tables_1 cs fm lo bl la lb li i0 i1 i2 i3 i4 i5 s.heap s.heap.size (Nat.le_refl _) hO (Old.start s) p e ha hc hk s m _ below hf ((Spec.applies_iff_loose hf).mp happ).1 ⟨rfl, State.Warmed39.refl s, rfl, hCH⟩ trivial
  refine ⟨n, _, h1, h2, h3, hpost _ _ _ _ _ _ ⟨Cond.after_iff.mpr rfl, Cond.after_iff.mpr (eq_i res_at (Term.int_eval (1)) rfl), trivial⟩ ⟨hq.1, hq.2.1, hq.2.2.1, (hq.2.2.2.sift fun y hy => Or.inr (N y hy)).mono (by decide) (by decide)⟩⟩
theorem main_1_1 : Claimed_1_1 := comes_1 fun _ _ _ _ _ _ h hF => ⟨h.1, hF⟩
theorem main_1_2 : Claimed_1_2 := comes_1 fun _ _ _ _ _ _ h hF => ⟨h.2.1, hF⟩
end Jvm.Pilot.@@N@@
namespace Jvm.Pilot.@@N@@
open Jvm Jvm.ClassFile Sem Op Lib Jvm.Free Jvm.Stand Jvm.Pilot.@@N@@.Jvm.D
/-! MADE BY PROGRAM (witnessworld.py) out of the Statement's table words and the real class files: 31 classes; the members and pool entries that the words name. The judged class is class 1, her method 1. -/
namespace start1
open Jvm.ClassFile
def u (s : String) : CpInfo := .utf8 (stringToUtf16 s)
/-- a pool by its gaps: so many unusable entries, then the entry; so many at the end -/
def gap : Nat → List CpInfo → List CpInfo
  | 0, r => r
  | n + 1, r => .unusable :: gap n r
def poolList (es : List (Nat × CpInfo)) (last : Nat) : List CpInfo := es.foldr (fun e r => gap e.1 (e.2 :: r)) (gap last [])
def pool (es : List (Nat × CpInfo)) (last : Nat) : Array CpInfo := ⟨poolList es last⟩
def fileOf (pool : Array CpInfo) (this : Nat) (attrs : Array Attribute := #[]) (ms : Array MethodInfo := #[]) (fl : Nat := 33) (sup : Nat := 0) (ifs : Array Nat := #[]) (fds : Array FieldInfo := #[]) : ClassFile where
  minorVersion := 0
  majorVersion := 65
  constantPool := pool
  accessFlags := fl
  thisClass := this
  superClass := sup
  interfaces := ifs
  fields := fds
  methods := ms
  attributes := attrs
def plain (name : String) (sup : Option ClassId) : Class where
  name := name
  kind := .ordinary
  loader := none
  accessFlags := 33
  super := sup
  interfaces := #[]
  cf := none
  fields := #[]
  methods := #[]
  instanceTypes := #[]
  staticTypes := #[]
  resolved := #[]
  callSites := []
  init := .initialized
  statics := none
  mirror := none

def pool0 : Array CpInfo := pool [(5, u "<init>"), (0, u "()V"), (1, .class_ 10), (1, u "java/lang/Object"), (85, u "clone"), (0, u "()Ljava/lang/Object;")] 26

def k0c0 : Code := { maxStack := 0, maxLocals := 1, code := object_method_1_code, exceptionTable := #[], attributes := #[] }
def k0m0 : Method := { name := "<init>", desc := "()V", sig := { parameters := [], returnType := none }, accessFlags := 1, code := some k0c0 }
def k0m1 : Method := { name := "clone", desc := "()Ljava/lang/Object;", sig := { parameters := [], returnType := some (.object "java/lang/Object") }, accessFlags := 260, code := none }
/-- java/lang/Object -/
def k0 : Class := { plain "java/lang/Object" none with
  accessFlags := 33
  interfaces := #[]
  cf := some (fileOf pool0 8 #[] #[{ accessFlags := 1, nameIndex := 5, descriptorIndex := 6, attributes := #[] }, { accessFlags := 260, nameIndex := 96, descriptorIndex := 97, attributes := #[] }] 33 0 #[] #[])
  fields := #[]
  methods := #[k0m0, k0m1]
  instanceTypes := #[]
  staticTypes := #[]
  resolved := Array.replicate 124 none
  statics := none }

def pool1 : Array CpInfo := pool [(2, .class_ 4), (1, u "java/lang/Object"), (0, u "<init>"), (0, u "()V"), (0, .class_ 8), (0, u "java/lang/String"), (0, .methodref 7 10), (0, .nameAndType 5 11), (0, u "([C)V"), (0, .methodref 13 14), (0, .class_ 15), (0, .nameAndType 16 17), (0, u "com/example/obieg/obieg/ChoiceId"), (0, u "of"), (0, u "(Ljava/lang/String;)Ljava/lang/String;"), (0, .methodref 19 20), (0, .class_ 21), (0, .nameAndType 22 23), (0, u "com/example/obieg/obieg/ChoiceIdOfPinLaw"), (0, u "put"), (0, u "([CII[CI)I"), (0, .methodref 7 25), (0, .nameAndType 26 27), (0, u "length"), (0, u "()I"), (0, .methodref 19 29), (0, .nameAndType 30 31), (0, u "eq"), (0, u "(Ljava/lang/String;[CII)Z"), (0, .methodref 19 33), (0, .nameAndType 34 35), (0, u "kept"), (0, u "(C)Z"), (0, .methodref 19 37), (0, .nameAndType 38 39), (0, u "lower"), (0, u "(C)C"), (0, .methodref 7 41), (0, .nameAndType 42 43), (0, u "charAt"), (0, u "(I)C"), (2, u "law"), (0, u "(IIIIII)Z")] 5

def k1m0 : Method := { name := "<init>", desc := "()V", sig := { parameters := [], returnType := none }, accessFlags := 2, code := none }
def k1c1 : Code := { maxStack := 5, maxLocals := 12, code := code, exceptionTable := #[], attributes := #[] }
def k1m1 : Method := { name := "law", desc := "(IIIIII)Z", sig := { parameters := [.int, .int, .int, .int, .int, .int], returnType := some .boolean }, accessFlags := 9, code := some k1c1 }
def k1c2 : Code := { maxStack := 2, maxLocals := 1, code := method_3_code, exceptionTable := #[], attributes := #[] }
def k1m2 : Method := { name := "kept", desc := "(C)Z", sig := { parameters := [.char], returnType := some .boolean }, accessFlags := 10, code := some k1c2 }
def k1c3 : Code := { maxStack := 2, maxLocals := 1, code := method_4_code, exceptionTable := #[], attributes := #[] }
def k1m3 : Method := { name := "lower", desc := "(C)C", sig := { parameters := [.char], returnType := some .char }, accessFlags := 10, code := some k1c3 }
def k1c4 : Code := { maxStack := 4, maxLocals := 6, code := method_5_code, exceptionTable := #[], attributes := #[] }
def k1m4 : Method := { name := "put", desc := "([CII[CI)I", sig := { parameters := [(.array .char), .int, .int, (.array .char), .int], returnType := some .int }, accessFlags := 10, code := some k1c4 }
def k1c5 : Code := { maxStack := 3, maxLocals := 4, code := method_6_code, exceptionTable := #[], attributes := #[] }
def k1m5 : Method := { name := "eq", desc := "(Ljava/lang/String;[CII)Z", sig := { parameters := [(.object "java/lang/String"), (.array .char), .int, .int], returnType := some .boolean }, accessFlags := 10, code := some k1c5 }
/-- com/example/obieg/obieg/ChoiceIdOfPinLaw -/
def k1 : Class := { plain "com/example/obieg/obieg/ChoiceIdOfPinLaw" (some 0) with
  accessFlags := 49
  interfaces := #[]
  cf := some (fileOf pool1 19 #[] #[{ accessFlags := 2, nameIndex := 5, descriptorIndex := 6, attributes := #[] }, { accessFlags := 9, nameIndex := 46, descriptorIndex := 47, attributes := #[] }, { accessFlags := 10, nameIndex := 34, descriptorIndex := 35, attributes := #[] }, { accessFlags := 10, nameIndex := 38, descriptorIndex := 39, attributes := #[] }, { accessFlags := 10, nameIndex := 22, descriptorIndex := 23, attributes := #[] }, { accessFlags := 10, nameIndex := 30, descriptorIndex := 31, attributes := #[] }] 49 2 #[] #[])
  fields := #[]
  methods := #[k1m0, k1m1, k1m2, k1m3, k1m4, k1m5]
  instanceTypes := #[]
  staticTypes := #[]
  resolved := Array.replicate 53 none
  statics := none }

def pool2 : Array CpInfo := pool [(1, .class_ 2), (0, u "java/io/Serializable"), (0, .class_ 4), (0, u "java/lang/Object")] 2

/-- java/io/Serializable -/
def k2 : Class := { plain "java/io/Serializable" (some 0) with
  accessFlags := 1537
  interfaces := #[]
  cf := some (fileOf pool2 1 #[] #[] 1537 3 #[] #[])
  fields := #[]
  methods := #[]
  instanceTypes := #[]
  staticTypes := #[]
  resolved := Array.replicate 7 none
  statics := none }

def pool3 : Array CpInfo := pool [(1, .class_ 2), (0, u "java/lang/Comparable"), (0, .class_ 4), (0, u "java/lang/Object")] 7

/-- java/lang/Comparable -/
def k3 : Class := { plain "java/lang/Comparable" (some 0) with
  accessFlags := 1537
  interfaces := #[]
  cf := some (fileOf pool3 1 #[] #[] 1537 3 #[] #[])
  fields := #[]
  methods := #[]
  instanceTypes := #[]
  staticTypes := #[]
  resolved := Array.replicate 12 none
  statics := none }

def pool4 : Array CpInfo := pool [(2, .class_ 4), (1, u "java/lang/CharSequence"), (42, .class_ 48), (0, u "java/lang/CharSequence$1CodePointIterator"), (10, .class_ 60), (0, u "java/lang/CharSequence$1CharIterator"), (5, .class_ 67), (0, u "java/lang/Object")] 63

/-- java/lang/CharSequence -/
def k4 : Class := { plain "java/lang/CharSequence" (some 0) with
  accessFlags := 1537
  interfaces := #[]
  cf := some (fileOf pool4 2 #[.nestMembers #[47, 59]] #[] 1537 66 #[] #[])
  fields := #[]
  methods := #[]
  instanceTypes := #[]
  staticTypes := #[]
  resolved := Array.replicate 131 none
  statics := none }

def pool5 : Array CpInfo := pool [(1, .class_ 2), (0, u "java/lang/constant/Constable"), (0, .class_ 4), (0, u "java/lang/Object")] 6

/-- java/lang/constant/Constable -/
def k5 : Class := { plain "java/lang/constant/Constable" (some 0) with
  accessFlags := 1537
  interfaces := #[]
  cf := some (fileOf pool5 1 #[] #[] 1537 3 #[] #[])
  fields := #[]
  methods := #[]
  instanceTypes := #[]
  staticTypes := #[]
  resolved := Array.replicate 11 none
  statics := none }

def pool6 : Array CpInfo := pool [(1, .class_ 2), (0, u "java/lang/constant/ConstantDesc"), (0, .class_ 4), (0, u "java/lang/Object")] 32

/-- java/lang/constant/ConstantDesc -/
def k6 : Class := { plain "java/lang/constant/ConstantDesc" (some 0) with
  accessFlags := 1537
  interfaces := #[]
  cf := some (fileOf pool6 1 #[] #[] 1537 3 #[] #[])
  fields := #[]
  methods := #[]
  instanceTypes := #[]
  staticTypes := #[]
  resolved := Array.replicate 37 none
  statics := none }

def pool7 : Array CpInfo := pool [(1, .methodref 2 3), (0, .class_ 4), (0, .nameAndType 5 6), (0, u "java/lang/Object"), (0, u "<init>"), (0, u "()V"), (0, .string 8), (0, u ""), (0, .fieldref 10 11), (0, .class_ 12), (0, .nameAndType 13 14), (0, u "java/lang/String"), (0, u "value"), (0, u "[B"), (0, .fieldref 10 16), (0, .nameAndType 17 18), (0, u "coder"), (0, u "B"), (2, u "hash"), (0, u "I"), (2, u "hashIsZero"), (0, u "Z"), (0, .methodref 10 28), (0, .nameAndType 5 29), (0, u "([CIILjava/lang/Void;)V"), (8, .fieldref 10 39), (0, .nameAndType 40 26), (0, u "COMPACT_STRINGS"), (1, .class_ 44), (1, u "java/lang/StringUTF16"), (0, u "compress"), (1, .methodref 42 48), (0, .nameAndType 49 50), (0, u "coderFromArrayLen"), (0, u "([BI)B"), (3, .methodref 55 56), (0, .class_ 57), (0, .nameAndType 58 59), (0, u "java/util/Arrays"), (0, u "copyOfRange"), (0, u "([BII)[B"), (47, .class_ 109), (1, u "java/lang/StringLatin1"), (32, u "()Z"), (34, .methodref 42 178), (0, .nameAndType 45 179), (0, u "([CII)[B"), (13, .class_ 195), (1, u "java/lang/System"), (15, u "([BB)V"), (0, .methodref 193 213), (0, .nameAndType 214 215), (0, u "arraycopy"), (0, u "(Ljava/lang/Object;ILjava/lang/Object;II)V"), (118, u "()I"), (0, .methodref 10 336), (0, .nameAndType 17 337), (0, u "()B"), (2, u "()[B"), (22, u "([BI)C"), (27, u "(II)V"), (35, u "(I)C"), (61, .methodref 10 490), (0, .nameAndType 5 491), (0, u "(Ljava/lang/AbstractStringBuilder;Ljava/lang/Void;)V"), (0, .methodref 10 493), (0, .nameAndType 494 142), (0, u "isLatin1"), (0, .methodref 107 496), (0, .nameAndType 497 363), (0, u "charAt"), (3, u "checkIndex"), (4, .nameAndType 507 334), (0, u "length"), (24, u "getBytes"), (16, .methodref 550 506), (0, .class_ 551), (0, u "java/lang/AbstractStringBuilder"), (0, .methodref 550 553), (0, .nameAndType 554 340), (0, u "getValue"), (20, .class_ 576), (0, u "java/lang/CharSequence"), (22, u "CASE_INSENSITIVE_ORDER"), (0, u "Ljava/util/Comparator;"), (220, u "([BIB)V"), (17, .methodref 107 840), (0, .nameAndType 841 842), (0, u "toLowerCase"), (0, u "(Ljava/lang/String;[BLjava/util/Locale;)Ljava/lang/String;"), (9, u "(Ljava/util/Locale;)Ljava/lang/String;"), (157, u "([C)V"), (36, .methodref 550 493), (5, .fieldref 1054 1055), (0, .class_ 1056), (0, .nameAndType 1057 1058), (0, u "jdk/internal/util/Preconditions"), (0, u "SIOOBE_FORMATTER"), (0, u "Ljava/util/function/BiFunction;"), (0, .methodref 1054 1060), (0, .nameAndType 501 1061), (0, u "(IILjava/util/function/BiFunction;)I"), (39, u "serialPersistentFields"), (0, u "[Ljava/io/ObjectStreamField;"), (0, .class_ 1104), (0, u "java/lang/String$CaseInsensitiveComparator"), (1, .class_ 1107), (0, u "java/io/Serializable"), (0, .class_ 1109), (0, u "java/lang/Comparable"), (0, .class_ 1111), (0, u "java/lang/constant/Constable"), (0, .class_ 1113), (0, u "java/lang/constant/ConstantDesc"), (2, u "serialVersionUID"), (0, u "J"), (3, u "REPL"), (0, u "C"), (2, u "LATIN1"), (1, u "UTF16"), (105, u "(Ljava/lang/StringBuilder;)V")] 217

def k7m0 : Method := { name := "<init>", desc := "()V", sig := { parameters := [], returnType := none }, accessFlags := 1, code := none }
def k7c1 : Code := { maxStack := 5, maxLocals := 2, code := jdk_42_method_3_code, exceptionTable := #[], attributes := #[] }
def k7m1 : Method := { name := "<init>", desc := "([C)V", sig := { parameters := [(.array .char)], returnType := none }, accessFlags := 1, code := some k7c1 }
def k7c2 : Code := { maxStack := 3, maxLocals := 2, code := jdk_42_method_53_code, exceptionTable := #[], attributes := #[] }
def k7m2 : Method := { name := "<init>", desc := "(Ljava/lang/StringBuilder;)V", sig := { parameters := [(.object "java/lang/StringBuilder")], returnType := none }, accessFlags := 1, code := some k7c2 }
def k7c3 : Code := { maxStack := 2, maxLocals := 1, code := jdk_42_method_54_code, exceptionTable := #[], attributes := #[] }
def k7m3 : Method := { name := "length", desc := "()I", sig := { parameters := [], returnType := some .int }, accessFlags := 1, code := some k7c3 }
def k7c4 : Code := { maxStack := 2, maxLocals := 2, code := jdk_42_method_56_code, exceptionTable := #[], attributes := #[] }
def k7m4 : Method := { name := "charAt", desc := "(I)C", sig := { parameters := [.int], returnType := some .char }, accessFlags := 1, code := some k7c4 }
def k7c5 : Code := { maxStack := 3, maxLocals := 2, code := jdk_42_method_109_code, exceptionTable := #[], attributes := #[] }
def k7m5 : Method := { name := "toLowerCase", desc := "(Ljava/util/Locale;)Ljava/lang/String;", sig := { parameters := [(.object "java/util/Locale")], returnType := some (.object "java/lang/String") }, accessFlags := 1, code := some k7c5 }
def k7c6 : Code := { maxStack := 5, maxLocals := 4, code := jdk_42_method_147_code, exceptionTable := #[], attributes := #[] }
def k7m6 : Method := { name := "getBytes", desc := "([BIB)V", sig := { parameters := [(.array .byte), .int, .byte], returnType := none }, accessFlags := 0, code := some k7c6 }
def k7c7 : Code := { maxStack := 4, maxLocals := 6, code := jdk_42_method_149_code, exceptionTable := #[], attributes := #[] }
def k7m7 : Method := { name := "<init>", desc := "([CIILjava/lang/Void;)V", sig := { parameters := [(.array .char), .int, .int, (.object "java/lang/Void")], returnType := none }, accessFlags := 2, code := some k7c7 }
def k7c8 : Code := { maxStack := 5, maxLocals := 5, code := jdk_42_method_150_code, exceptionTable := #[], attributes := #[] }
def k7m8 : Method := { name := "<init>", desc := "(Ljava/lang/AbstractStringBuilder;Ljava/lang/Void;)V", sig := { parameters := [(.object "java/lang/AbstractStringBuilder"), (.object "java/lang/Void")], returnType := none }, accessFlags := 0, code := some k7c8 }
def k7c9 : Code := { maxStack := 2, maxLocals := 3, code := jdk_42_method_151_code, exceptionTable := #[], attributes := #[] }
def k7m9 : Method := { name := "<init>", desc := "([BB)V", sig := { parameters := [(.array .byte), .byte], returnType := none }, accessFlags := 0, code := some k7c9 }
def k7c10 : Code := { maxStack := 1, maxLocals := 1, code := jdk_42_method_152_code, exceptionTable := #[], attributes := #[] }
def k7m10 : Method := { name := "coder", desc := "()B", sig := { parameters := [], returnType := some .byte }, accessFlags := 0, code := some k7c10 }
def k7c11 : Code := { maxStack := 1, maxLocals := 1, code := jdk_42_method_154_code, exceptionTable := #[], attributes := #[] }
def k7m11 : Method := { name := "isLatin1", desc := "()Z", sig := { parameters := [], returnType := some .boolean }, accessFlags := 0, code := some k7c11 }
def k7c12 : Code := { maxStack := 3, maxLocals := 2, code := jdk_42_method_155_code, exceptionTable := #[], attributes := #[] }
def k7m12 : Method := { name := "checkIndex", desc := "(II)V", sig := { parameters := [.int, .int], returnType := none }, accessFlags := 8, code := some k7c12 }
/-- java/lang/String -/
def k7 : Class := { plain "java/lang/String" (some 0) with
  accessFlags := 49
  interfaces := #[2, 3, 4, 5, 6]
  cf := some (fileOf pool7 10 #[.nestMembers #[1103]] #[{ accessFlags := 1, nameIndex := 5, descriptorIndex := 6, attributes := #[] }, { accessFlags := 1, nameIndex := 5, descriptorIndex := 1010, attributes := #[] }, { accessFlags := 1, nameIndex := 5, descriptorIndex := 1233, attributes := #[] }, { accessFlags := 1, nameIndex := 507, descriptorIndex := 334, attributes := #[] }, { accessFlags := 1, nameIndex := 497, descriptorIndex := 427, attributes := #[] }, { accessFlags := 1, nameIndex := 841, descriptorIndex := 852, attributes := #[] }, { accessFlags := 0, nameIndex := 532, descriptorIndex := 821, attributes := #[] }, { accessFlags := 2, nameIndex := 5, descriptorIndex := 29, attributes := #[] }, { accessFlags := 0, nameIndex := 5, descriptorIndex := 491, attributes := #[] }, { accessFlags := 0, nameIndex := 5, descriptorIndex := 211, attributes := #[] }, { accessFlags := 0, nameIndex := 17, descriptorIndex := 337, attributes := #[] }, { accessFlags := 0, nameIndex := 494, descriptorIndex := 142, attributes := #[] }, { accessFlags := 8, nameIndex := 501, descriptorIndex := 391, attributes := #[] }] 49 2 #[1106, 1108, 575, 1110, 1112] #[{ accessFlags := 18, nameIndex := 13, descriptorIndex := 14, attributes := #[] }, { accessFlags := 18, nameIndex := 17, descriptorIndex := 18, attributes := #[] }, { accessFlags := 2, nameIndex := 21, descriptorIndex := 22, attributes := #[] }, { accessFlags := 2, nameIndex := 25, descriptorIndex := 26, attributes := #[] }, { accessFlags := 26, nameIndex := 1116, descriptorIndex := 1117, attributes := #[] }, { accessFlags := 24, nameIndex := 40, descriptorIndex := 26, attributes := #[] }, { accessFlags := 26, nameIndex := 1101, descriptorIndex := 1102, attributes := #[] }, { accessFlags := 26, nameIndex := 1121, descriptorIndex := 1122, attributes := #[] }, { accessFlags := 25, nameIndex := 599, descriptorIndex := 600, attributes := #[] }, { accessFlags := 24, nameIndex := 1125, descriptorIndex := 18, attributes := #[] }, { accessFlags := 24, nameIndex := 1127, descriptorIndex := 18, attributes := #[] }])
  fields := #[{ name := "value", type := (.array .byte), accessFlags := 18, slot := 0, constantValue := 0 }, { name := "coder", type := .byte, accessFlags := 18, slot := 1, constantValue := 0 }, { name := "hash", type := .int, accessFlags := 2, slot := 2, constantValue := 0 }, { name := "hashIsZero", type := .boolean, accessFlags := 2, slot := 3, constantValue := 0 }, { name := "serialVersionUID", type := .long, accessFlags := 26, slot := 0, constantValue := 0 }, { name := "COMPACT_STRINGS", type := .boolean, accessFlags := 24, slot := 1, constantValue := 0 }, { name := "serialPersistentFields", type := (.array (.object "java/io/ObjectStreamField")), accessFlags := 26, slot := 2, constantValue := 0 }, { name := "REPL", type := .char, accessFlags := 26, slot := 3, constantValue := 0 }, { name := "CASE_INSENSITIVE_ORDER", type := (.object "java/util/Comparator"), accessFlags := 25, slot := 4, constantValue := 0 }, { name := "LATIN1", type := .byte, accessFlags := 24, slot := 5, constantValue := 0 }, { name := "UTF16", type := .byte, accessFlags := 24, slot := 6, constantValue := 0 }]
  methods := #[k7m0, k7m1, k7m2, k7m3, k7m4, k7m5, k7m6, k7m7, k7m8, k7m9, k7m10, k7m11, k7m12]
  instanceTypes := #[(.array .byte), .byte, .int, .boolean]
  staticTypes := #[.long, .boolean, (.array (.object "java/io/ObjectStreamField")), .char, (.object "java/util/Comparator"), .byte, .byte]
  resolved := Array.replicate 1451 none
  statics := some 0 }

def pool8 : Array CpInfo := pool [(6, .class_ 8), (1, u "java/lang/Object"), (0, u "<init>"), (0, u "()V"), (1, .class_ 14), (1, u "java/lang/StringUTF16"), (31, u "$assertionsDisabled"), (0, u "Z"), (13, u "HI_BYTE_SHIFT"), (0, u "I"), (2, u "LO_BYTE_SHIFT"), (49, .methodref 12 116), (0, .nameAndType 117 118), (0, u "compress"), (0, u "([CI[BII)I"), (3, u "([CII)[B"), (138, u "coderFromArrayLen"), (0, u "([BI)B"), (106, .class_ 371), (1, u "java/lang/StringUTF16$LinesSpliterator"), (58, u "MAX_LENGTH"), (196, .class_ 628), (0, u "java/lang/StringUTF16$CodePointsSpliterator"), (0, .class_ 630), (0, u "java/lang/StringUTF16$CharsSpliterator")] 4

def k8m0 : Method := { name := "<init>", desc := "()V", sig := { parameters := [], returnType := none }, accessFlags := 0, code := none }
def k8c1 : Code := { maxStack := 2, maxLocals := 2, code := jdk_52_method_15_code, exceptionTable := #[], attributes := #[] }
def k8m1 : Method := { name := "coderFromArrayLen", desc := "([BI)B", sig := { parameters := [(.array .byte), .int], returnType := some .byte }, accessFlags := 8, code := some k8c1 }
def k8c2 : Code := { maxStack := 5, maxLocals := 6, code := jdk_52_method_16_code, exceptionTable := #[], attributes := #[] }
def k8m2 : Method := { name := "compress", desc := "([CII)[B", sig := { parameters := [(.array .char), .int, .int], returnType := some (.array .byte) }, accessFlags := 9, code := some k8c2 }
def k8c3 : Code := { maxStack := 3, maxLocals := 7, code := jdk_52_method_21_code, exceptionTable := #[], attributes := #[] }
def k8m3 : Method := { name := "compress", desc := "([CI[BII)I", sig := { parameters := [(.array .char), .int, (.array .byte), .int, .int], returnType := some .int }, accessFlags := 9, code := some k8c3 }
/-- java/lang/StringUTF16 -/
def k8 : Class := { plain "java/lang/StringUTF16" (some 0) with
  accessFlags := 48
  interfaces := #[]
  cf := some (fileOf pool8 12 #[.nestMembers #[627, 629, 369]] #[{ accessFlags := 0, nameIndex := 9, descriptorIndex := 10, attributes := #[] }, { accessFlags := 8, nameIndex := 261, descriptorIndex := 262, attributes := #[] }, { accessFlags := 9, nameIndex := 117, descriptorIndex := 122, attributes := #[] }, { accessFlags := 9, nameIndex := 117, descriptorIndex := 118, attributes := #[] }] 48 6 #[] #[{ accessFlags := 26, nameIndex := 61, descriptorIndex := 62, attributes := #[] }, { accessFlags := 26, nameIndex := 65, descriptorIndex := 62, attributes := #[] }, { accessFlags := 24, nameIndex := 430, descriptorIndex := 62, attributes := #[] }, { accessFlags := 4120, nameIndex := 46, descriptorIndex := 47, attributes := #[] }])
  fields := #[{ name := "HI_BYTE_SHIFT", type := .int, accessFlags := 26, slot := 0, constantValue := 0 }, { name := "LO_BYTE_SHIFT", type := .int, accessFlags := 26, slot := 1, constantValue := 0 }, { name := "MAX_LENGTH", type := .int, accessFlags := 24, slot := 2, constantValue := 0 }, { name := "$assertionsDisabled", type := .boolean, accessFlags := 4120, slot := 3, constantValue := 0 }]
  methods := #[k8m0, k8m1, k8m2, k8m3]
  instanceTypes := #[]
  staticTypes := #[.int, .int, .int, .boolean]
  resolved := Array.replicate 635 none
  statics := none }

def pool9 : Array CpInfo := pool [(2, .class_ 4), (1, u "java/lang/Object"), (0, u "<init>"), (0, u "()V"), (0, .string 8), (0, u "description of the condition"), (0, .methodref 10 11), (0, .class_ 12), (0, .nameAndType 13 14), (0, u "java/util/Objects"), (0, u "requireNonNull"), (0, u "(Ljava/lang/Object;Ljava/lang/String;)Ljava/lang/Object;"), (0, .fieldref 16 17), (0, .class_ 18), (0, .nameAndType 19 20), (0, u "java/util/Locale"), (0, u "ROOT"), (0, u "Ljava/util/Locale;"), (0, .methodref 22 23), (0, .class_ 24), (0, .nameAndType 25 26), (0, u "java/lang/String"), (0, u "toLowerCase"), (0, u "(Ljava/util/Locale;)Ljava/lang/String;"), (0, .class_ 28), (0, u "java/lang/StringBuilder"), (0, .class_ 30), (0, u "com/example/obieg/obieg/ChoiceId"), (0, .string 32), (0, u "if_"), (0, .methodref 22 34), (0, .nameAndType 35 36), (0, u "length"), (0, u "()I"), (0, .methodref 27 38), (0, .nameAndType 5 39), (0, u "(I)V"), (0, .methodref 27 41), (0, .nameAndType 42 43), (0, u "append"), (0, u "(Ljava/lang/String;)Ljava/lang/StringBuilder;"), (0, .methodref 22 45), (0, .nameAndType 46 47), (0, u "charAt"), (0, u "(I)C"), (0, .methodref 27 34), (0, .methodref 27 50), (0, .nameAndType 42 51), (0, u "(C)Ljava/lang/StringBuilder;"), (0, .methodref 27 53), (0, .nameAndType 54 55), (0, u "toString"), (0, u "()Ljava/lang/String;"), (0, u "PREFIX"), (0, u "Ljava/lang/String;"), (3, u "of"), (0, u "(Ljava/lang/String;)Ljava/lang/String;")] 3

def k9m0 : Method := { name := "<init>", desc := "()V", sig := { parameters := [], returnType := none }, accessFlags := 2, code := none }
def k9c1 : Code := { maxStack := 4, maxLocals := 6, code := prog_3_method_2_code, exceptionTable := #[], attributes := #[] }
def k9m1 : Method := { name := "of", desc := "(Ljava/lang/String;)Ljava/lang/String;", sig := { parameters := [(.object "java/lang/String")], returnType := some (.object "java/lang/String") }, accessFlags := 8, code := some k9c1 }
/-- com/example/obieg/obieg/ChoiceId -/
def k9 : Class := { plain "com/example/obieg/obieg/ChoiceId" (some 0) with
  accessFlags := 48
  interfaces := #[]
  cf := some (fileOf pool9 29 #[] #[{ accessFlags := 2, nameIndex := 5, descriptorIndex := 6, attributes := #[] }, { accessFlags := 8, nameIndex := 61, descriptorIndex := 62, attributes := #[] }] 48 2 #[] #[{ accessFlags := 26, nameIndex := 56, descriptorIndex := 57, attributes := #[] }])
  fields := #[{ name := "PREFIX", type := (.object "java/lang/String"), accessFlags := 26, slot := 0, constantValue := 0 }]
  methods := #[k9m0, k9m1]
  instanceTypes := #[]
  staticTypes := #[(.object "java/lang/String")]
  resolved := Array.replicate 66 none
  statics := none }

def pool10 : Array CpInfo := pool [(2, .class_ 4), (1, u "java/lang/Object"), (0, u "<init>"), (0, u "()V"), (35, .class_ 44), (1, u "java/util/Objects"), (0, u "requireNonNull"), (48, u "(Ljava/lang/Object;Ljava/lang/String;)Ljava/lang/Object;")] 89

def k10m0 : Method := { name := "<init>", desc := "()V", sig := { parameters := [], returnType := none }, accessFlags := 2, code := none }
def k10c1 : Code := { maxStack := 3, maxLocals := 2, code := jdk_31_method_11_code, exceptionTable := #[], attributes := #[] }
def k10m1 : Method := { name := "requireNonNull", desc := "(Ljava/lang/Object;Ljava/lang/String;)Ljava/lang/Object;", sig := { parameters := [(.object "java/lang/Object"), (.object "java/lang/String")], returnType := some (.object "java/lang/Object") }, accessFlags := 9, code := some k10c1 }
/-- java/util/Objects -/
def k10 : Class := { plain "java/util/Objects" (some 0) with
  accessFlags := 49
  interfaces := #[]
  cf := some (fileOf pool10 42 #[] #[{ accessFlags := 2, nameIndex := 5, descriptorIndex := 6, attributes := #[] }, { accessFlags := 9, nameIndex := 45, descriptorIndex := 94, attributes := #[] }] 49 2 #[] #[])
  fields := #[]
  methods := #[k10m0, k10m1]
  instanceTypes := #[]
  staticTypes := #[]
  resolved := Array.replicate 184 none
  statics := none }

def pool11 : Array CpInfo := pool [(1, .class_ 2), (0, u "java/lang/Cloneable"), (0, .class_ 4), (0, u "java/lang/Object")] 2

/-- java/lang/Cloneable -/
def k11 : Class := { plain "java/lang/Cloneable" (some 0) with
  accessFlags := 1537
  interfaces := #[]
  cf := some (fileOf pool11 1 #[] #[] 1537 3 #[] #[])
  fields := #[]
  methods := #[]
  instanceTypes := #[]
  staticTypes := #[]
  resolved := Array.replicate 7 none
  statics := none }

def pool12 : Array CpInfo := pool [(2, .class_ 4), (1, u "sun/util/locale/BaseLocale"), (2, .class_ 8), (0, u "java/util/Locale"), (6, u "CONSTANT_LOCALES"), (0, u "Ljava/util/Map;"), (7, .class_ 26), (1, u "java/lang/Object"), (1, .fieldref 7 29), (0, .nameAndType 30 31), (0, u "baseLocale"), (0, u "Lsun/util/locale/BaseLocale;"), (2, u "localeExtensions"), (0, u "Lsun/util/locale/LocaleExtensions;"), (31, .class_ 69), (1, u "java/util/Locale$Cache"), (3, .class_ 74), (0, u "java/util/Locale$LocaleKey"), (3, u "defaultLocale"), (0, u "Ljava/util/Locale;"), (6, .class_ 88), (1, u "java/util/Locale$Category"), (4, u "defaultDisplayLocale"), (6, u "$assertionsDisabled"), (0, u "Z"), (12, u "defaultFormatLocale"), (12, u "Ljava/lang/String;"), (131, u "isoCountries"), (0, u "[Ljava/lang/String;"), (15, .class_ 278), (1, u "java/util/Locale$IsoCountryCode"), (4, u "isoLanguages"), (9, .methodref 2 294), (0, .nameAndType 295 296), (0, u "getLanguage"), (0, u "()Ljava/lang/String;"), (78, u "languageTag"), (114, .class_ 492), (1, u "java/util/Locale$LocaleNameGetter"), (125, u "hashCodeValue"), (0, u "I"), (29, u "ROOT"), (129, .class_ 781), (1, u "java/util/Locale$FilteringMode"), (39, u "ENGLISH"), (2, u "FRENCH"), (2, u "GERMAN"), (2, u "ITALIAN"), (2, u "JAPANESE"), (2, u "KOREAN"), (2, u "CHINESE"), (2, u "SIMPLIFIED_CHINESE"), (2, u "TRADITIONAL_CHINESE"), (2, u "FRANCE"), (2, u "GERMANY"), (2, u "ITALY"), (2, u "JAPAN"), (2, u "KOREA"), (2, u "UK"), (2, u "US"), (2, u "CANADA"), (2, u "CANADA_FRENCH"), (2, u "CHINA"), (2, u "PRC"), (2, u "TAIWAN"), (13, u "serialPersistentFields"), (0, u "[Ljava/io/ObjectStreamField;"), (0, .class_ 898), (0, u "java/lang/Cloneable"), (0, .class_ 900), (0, u "java/io/Serializable"), (2, u "PRIVATE_USE_EXTENSION"), (0, u "C"), (2, u "UNICODE_LOCALE_EXTENSION"), (1, u "serialVersionUID"), (0, u "J"), (2, u "DISPLAY_LANGUAGE"), (1, u "DISPLAY_COUNTRY"), (1, u "DISPLAY_VARIANT"), (1, u "DISPLAY_SCRIPT"), (1, u "DISPLAY_UEXT_KEY"), (1, u "DISPLAY_UEXT_TYPE"), (174, .class_ 1099), (0, u "java/util/Locale$LanguageRange"), (0, .class_ 1101), (0, u "java/util/Locale$Builder"), (0, .class_ 1103), (0, u "java/util/Locale$IsoCountryCode$3"), (0, .class_ 1105), (0, u "java/util/Locale$IsoCountryCode$2"), (0, .class_ 1107), (0, u "java/util/Locale$IsoCountryCode$1")] 46

def k12c0 : Code := { maxStack := 1, maxLocals := 1, code := jdk_2628_method_27_code, exceptionTable := #[], attributes := #[] }
def k12m0 : Method := { name := "getLanguage", desc := "()Ljava/lang/String;", sig := { parameters := [], returnType := some (.object "java/lang/String") }, accessFlags := 1, code := some k12c0 }
/-- java/util/Locale -/
def k12 : Class := { plain "java/util/Locale" (some 0) with
  accessFlags := 49
  interfaces := #[11, 2]
  cf := some (fileOf pool12 7 #[.nestMembers #[1098, 779, 1100, 86, 490, 73, 67, 276, 1102, 1104, 1106]] #[{ accessFlags := 1, nameIndex := 295, descriptorIndex := 296, attributes := #[] }] 49 24 #[897, 899] #[{ accessFlags := 25, nameIndex := 821, descriptorIndex := 79, attributes := #[] }, { accessFlags := 25, nameIndex := 824, descriptorIndex := 79, attributes := #[] }, { accessFlags := 25, nameIndex := 827, descriptorIndex := 79, attributes := #[] }, { accessFlags := 25, nameIndex := 830, descriptorIndex := 79, attributes := #[] }, { accessFlags := 25, nameIndex := 833, descriptorIndex := 79, attributes := #[] }, { accessFlags := 25, nameIndex := 836, descriptorIndex := 79, attributes := #[] }, { accessFlags := 25, nameIndex := 839, descriptorIndex := 79, attributes := #[] }, { accessFlags := 25, nameIndex := 842, descriptorIndex := 79, attributes := #[] }, { accessFlags := 25, nameIndex := 845, descriptorIndex := 79, attributes := #[] }, { accessFlags := 25, nameIndex := 848, descriptorIndex := 79, attributes := #[] }, { accessFlags := 25, nameIndex := 851, descriptorIndex := 79, attributes := #[] }, { accessFlags := 25, nameIndex := 854, descriptorIndex := 79, attributes := #[] }, { accessFlags := 25, nameIndex := 857, descriptorIndex := 79, attributes := #[] }, { accessFlags := 25, nameIndex := 860, descriptorIndex := 79, attributes := #[] }, { accessFlags := 25, nameIndex := 863, descriptorIndex := 79, attributes := #[] }, { accessFlags := 25, nameIndex := 866, descriptorIndex := 79, attributes := #[] }, { accessFlags := 25, nameIndex := 869, descriptorIndex := 79, attributes := #[] }, { accessFlags := 25, nameIndex := 872, descriptorIndex := 79, attributes := #[] }, { accessFlags := 25, nameIndex := 649, descriptorIndex := 79, attributes := #[] }, { accessFlags := 26, nameIndex := 15, descriptorIndex := 16, attributes := #[] }, { accessFlags := 25, nameIndex := 875, descriptorIndex := 79, attributes := #[] }, { accessFlags := 25, nameIndex := 878, descriptorIndex := 79, attributes := #[] }, { accessFlags := 25, nameIndex := 881, descriptorIndex := 79, attributes := #[] }, { accessFlags := 25, nameIndex := 903, descriptorIndex := 904, attributes := #[] }, { accessFlags := 25, nameIndex := 907, descriptorIndex := 904, attributes := #[] }, { accessFlags := 24, nameIndex := 909, descriptorIndex := 910, attributes := #[] }, { accessFlags := 26, nameIndex := 913, descriptorIndex := 619, attributes := #[] }, { accessFlags := 26, nameIndex := 915, descriptorIndex := 619, attributes := #[] }, { accessFlags := 26, nameIndex := 917, descriptorIndex := 619, attributes := #[] }, { accessFlags := 26, nameIndex := 919, descriptorIndex := 619, attributes := #[] }, { accessFlags := 26, nameIndex := 921, descriptorIndex := 619, attributes := #[] }, { accessFlags := 26, nameIndex := 923, descriptorIndex := 619, attributes := #[] }, { accessFlags := 130, nameIndex := 30, descriptorIndex := 31, attributes := #[] }, { accessFlags := 130, nameIndex := 34, descriptorIndex := 35, attributes := #[] }, { accessFlags := 130, nameIndex := 618, descriptorIndex := 619, attributes := #[] }, { accessFlags := 74, nameIndex := 78, descriptorIndex := 79, attributes := #[] }, { accessFlags := 74, nameIndex := 93, descriptorIndex := 79, attributes := #[] }, { accessFlags := 74, nameIndex := 114, descriptorIndex := 79, attributes := #[] }, { accessFlags := 194, nameIndex := 375, descriptorIndex := 127, attributes := #[] }, { accessFlags := 26, nameIndex := 895, descriptorIndex := 896, attributes := #[] }, { accessFlags := 74, nameIndex := 283, descriptorIndex := 260, attributes := #[] }, { accessFlags := 74, nameIndex := 259, descriptorIndex := 260, attributes := #[] }, { accessFlags := 4120, nameIndex := 100, descriptorIndex := 101, attributes := #[] }])
  fields := #[{ name := "ENGLISH", type := (.object "java/util/Locale"), accessFlags := 25, slot := 0, constantValue := 0 }, { name := "FRENCH", type := (.object "java/util/Locale"), accessFlags := 25, slot := 1, constantValue := 0 }, { name := "GERMAN", type := (.object "java/util/Locale"), accessFlags := 25, slot := 2, constantValue := 0 }, { name := "ITALIAN", type := (.object "java/util/Locale"), accessFlags := 25, slot := 3, constantValue := 0 }, { name := "JAPANESE", type := (.object "java/util/Locale"), accessFlags := 25, slot := 4, constantValue := 0 }, { name := "KOREAN", type := (.object "java/util/Locale"), accessFlags := 25, slot := 5, constantValue := 0 }, { name := "CHINESE", type := (.object "java/util/Locale"), accessFlags := 25, slot := 6, constantValue := 0 }, { name := "SIMPLIFIED_CHINESE", type := (.object "java/util/Locale"), accessFlags := 25, slot := 7, constantValue := 0 }, { name := "TRADITIONAL_CHINESE", type := (.object "java/util/Locale"), accessFlags := 25, slot := 8, constantValue := 0 }, { name := "FRANCE", type := (.object "java/util/Locale"), accessFlags := 25, slot := 9, constantValue := 0 }, { name := "GERMANY", type := (.object "java/util/Locale"), accessFlags := 25, slot := 10, constantValue := 0 }, { name := "ITALY", type := (.object "java/util/Locale"), accessFlags := 25, slot := 11, constantValue := 0 }, { name := "JAPAN", type := (.object "java/util/Locale"), accessFlags := 25, slot := 12, constantValue := 0 }, { name := "KOREA", type := (.object "java/util/Locale"), accessFlags := 25, slot := 13, constantValue := 0 }, { name := "UK", type := (.object "java/util/Locale"), accessFlags := 25, slot := 14, constantValue := 0 }, { name := "US", type := (.object "java/util/Locale"), accessFlags := 25, slot := 15, constantValue := 0 }, { name := "CANADA", type := (.object "java/util/Locale"), accessFlags := 25, slot := 16, constantValue := 0 }, { name := "CANADA_FRENCH", type := (.object "java/util/Locale"), accessFlags := 25, slot := 17, constantValue := 0 }, { name := "ROOT", type := (.object "java/util/Locale"), accessFlags := 25, slot := 18, constantValue := 0 }, { name := "CONSTANT_LOCALES", type := (.object "java/util/Map"), accessFlags := 26, slot := 19, constantValue := 0 }, { name := "CHINA", type := (.object "java/util/Locale"), accessFlags := 25, slot := 20, constantValue := 0 }, { name := "PRC", type := (.object "java/util/Locale"), accessFlags := 25, slot := 21, constantValue := 0 }, { name := "TAIWAN", type := (.object "java/util/Locale"), accessFlags := 25, slot := 22, constantValue := 0 }, { name := "PRIVATE_USE_EXTENSION", type := .char, accessFlags := 25, slot := 23, constantValue := 0 }, { name := "UNICODE_LOCALE_EXTENSION", type := .char, accessFlags := 25, slot := 24, constantValue := 0 }, { name := "serialVersionUID", type := .long, accessFlags := 24, slot := 25, constantValue := 0 }, { name := "DISPLAY_LANGUAGE", type := .int, accessFlags := 26, slot := 26, constantValue := 0 }, { name := "DISPLAY_COUNTRY", type := .int, accessFlags := 26, slot := 27, constantValue := 0 }, { name := "DISPLAY_VARIANT", type := .int, accessFlags := 26, slot := 28, constantValue := 0 }, { name := "DISPLAY_SCRIPT", type := .int, accessFlags := 26, slot := 29, constantValue := 0 }, { name := "DISPLAY_UEXT_KEY", type := .int, accessFlags := 26, slot := 30, constantValue := 0 }, { name := "DISPLAY_UEXT_TYPE", type := .int, accessFlags := 26, slot := 31, constantValue := 0 }, { name := "baseLocale", type := (.object "sun/util/locale/BaseLocale"), accessFlags := 130, slot := 0, constantValue := 0 }, { name := "localeExtensions", type := (.object "sun/util/locale/LocaleExtensions"), accessFlags := 130, slot := 1, constantValue := 0 }, { name := "hashCodeValue", type := .int, accessFlags := 130, slot := 2, constantValue := 0 }, { name := "defaultLocale", type := (.object "java/util/Locale"), accessFlags := 74, slot := 32, constantValue := 0 }, { name := "defaultDisplayLocale", type := (.object "java/util/Locale"), accessFlags := 74, slot := 33, constantValue := 0 }, { name := "defaultFormatLocale", type := (.object "java/util/Locale"), accessFlags := 74, slot := 34, constantValue := 0 }, { name := "languageTag", type := (.object "java/lang/String"), accessFlags := 194, slot := 3, constantValue := 0 }, { name := "serialPersistentFields", type := (.array (.object "java/io/ObjectStreamField")), accessFlags := 26, slot := 35, constantValue := 0 }, { name := "isoLanguages", type := (.array (.object "java/lang/String")), accessFlags := 74, slot := 36, constantValue := 0 }, { name := "isoCountries", type := (.array (.object "java/lang/String")), accessFlags := 74, slot := 37, constantValue := 0 }, { name := "$assertionsDisabled", type := .boolean, accessFlags := 4120, slot := 38, constantValue := 0 }]
  methods := #[k12m0]
  instanceTypes := #[(.object "sun/util/locale/BaseLocale"), (.object "sun/util/locale/LocaleExtensions"), .int, (.object "java/lang/String")]
  staticTypes := #[(.object "java/util/Locale"), (.object "java/util/Locale"), (.object "java/util/Locale"), (.object "java/util/Locale"), (.object "java/util/Locale"), (.object "java/util/Locale"), (.object "java/util/Locale"), (.object "java/util/Locale"), (.object "java/util/Locale"), (.object "java/util/Locale"), (.object "java/util/Locale"), (.object "java/util/Locale"), (.object "java/util/Locale"), (.object "java/util/Locale"), (.object "java/util/Locale"), (.object "java/util/Locale"), (.object "java/util/Locale"), (.object "java/util/Locale"), (.object "java/util/Locale"), (.object "java/util/Map"), (.object "java/util/Locale"), (.object "java/util/Locale"), (.object "java/util/Locale"), .char, .char, .long, .int, .int, .int, .int, .int, .int, (.object "java/util/Locale"), (.object "java/util/Locale"), (.object "java/util/Locale"), (.array (.object "java/io/ObjectStreamField")), (.array (.object "java/lang/String")), (.array (.object "java/lang/String")), .boolean]
  resolved := Array.replicate 1154 none
  statics := some 1 }

def pool13 : Array CpInfo := pool [(1, .class_ 2), (0, u "java/lang/String"), (1, .class_ 6), (1, u "java/lang/Object"), (0, u "<init>"), (0, u "()V"), (0, .methodref 1 10), (0, .nameAndType 11 12), (0, u "checkIndex"), (0, u "(II)V"), (1, .class_ 16), (1, u "java/lang/StringLatin1"), (11, .methodref 29 30), (0, .class_ 31), (0, .nameAndType 32 33), (0, u "java/lang/System"), (0, u "arraycopy"), (0, u "(Ljava/lang/Object;ILjava/lang/Object;II)V"), (19, u "([BI)C"), (12, .fieldref 67 68), (0, .class_ 69), (0, .nameAndType 70 71), (0, u "java/lang/CharacterDataLatin1"), (0, u "instance"), (0, u "Ljava/lang/CharacterDataLatin1;"), (3, u "(I)I"), (4, u "toLowerCase"), (7, .methodref 14 89), (0, .nameAndType 90 91), (0, u "canEncode"), (0, u "(I)Z"), (13, u "(C)Z"), (6, .methodref 1 113), (0, .nameAndType 7 114), (0, u "([BB)V"), (6, u "$assertionsDisabled"), (0, u "Z"), (37, .methodref 67 161), (0, .nameAndType 80 75), (0, .methodref 163 164), (0, .class_ 165), (0, .nameAndType 166 167), (0, u "java/util/Locale"), (0, u "getLanguage"), (0, u "()Ljava/lang/String;"), (0, .string 169), (0, u "tr"), (0, .string 171), (0, u "az"), (0, .string 173), (0, u "lt"), (47, .class_ 223), (1, u "java/lang/StringLatin1$LinesSpliterator"), (28, u "charAt"), (97, u "(Ljava/lang/String;[BLjava/util/Locale;)Ljava/lang/String;"), (39, .class_ 391), (0, u "java/lang/StringLatin1$CharsSpliterator")] 3

def k13m0 : Method := { name := "<init>", desc := "()V", sig := { parameters := [], returnType := none }, accessFlags := 0, code := none }
def k13c1 : Code := { maxStack := 2, maxLocals := 2, code := jdk_43_method_2_code, exceptionTable := #[], attributes := #[] }
def k13m1 : Method := { name := "charAt", desc := "([BI)C", sig := { parameters := [(.array .byte), .int], returnType := some .char }, accessFlags := 9, code := some k13c1 }
def k13c2 : Code := { maxStack := 2, maxLocals := 1, code := jdk_43_method_3_code, exceptionTable := #[], attributes := #[] }
def k13m2 : Method := { name := "canEncode", desc := "(C)Z", sig := { parameters := [.char], returnType := some .boolean }, accessFlags := 9, code := some k13c2 }
def k13c3 : Code := { maxStack := 2, maxLocals := 1, code := jdk_43_method_4_code, exceptionTable := #[], attributes := #[] }
def k13m3 : Method := { name := "canEncode", desc := "(I)Z", sig := { parameters := [.int], returnType := some .boolean }, accessFlags := 9, code := some k13c3 }
def k13c4 : Code := { maxStack := 5, maxLocals := 9, code := jdk_43_method_32_code, exceptionTable := #[], attributes := #[] }
def k13m4 : Method := { name := "toLowerCase", desc := "(Ljava/lang/String;[BLjava/util/Locale;)Ljava/lang/String;", sig := { parameters := [(.object "java/lang/String"), (.array .byte), (.object "java/util/Locale")], returnType := some (.object "java/lang/String") }, accessFlags := 9, code := some k13c4 }
/-- java/lang/StringLatin1 -/
def k13 : Class := { plain "java/lang/StringLatin1" (some 0) with
  accessFlags := 48
  interfaces := #[]
  cf := some (fileOf pool13 14 #[.nestMembers #[390, 221]] #[{ accessFlags := 0, nameIndex := 7, descriptorIndex := 8, attributes := #[] }, { accessFlags := 9, nameIndex := 252, descriptorIndex := 53, attributes := #[] }, { accessFlags := 9, nameIndex := 90, descriptorIndex := 105, attributes := #[] }, { accessFlags := 9, nameIndex := 90, descriptorIndex := 91, attributes := #[] }, { accessFlags := 9, nameIndex := 80, descriptorIndex := 350, attributes := #[] }] 48 4 #[] #[{ accessFlags := 4120, nameIndex := 121, descriptorIndex := 122, attributes := #[] }])
  fields := #[{ name := "$assertionsDisabled", type := .boolean, accessFlags := 4120, slot := 0, constantValue := 0 }]
  methods := #[k13m0, k13m1, k13m2, k13m3, k13m4]
  instanceTypes := #[]
  staticTypes := #[.boolean]
  resolved := Array.replicate 395 none
  statics := none }

def pool14 : Array CpInfo := pool [(2, .class_ 4), (1, u "java/lang/Object"), (0, u "<init>"), (0, u "()V"), (1, .class_ 10), (1, u "java/lang/CharacterData")] 75

def k14m0 : Method := { name := "<init>", desc := "()V", sig := { parameters := [], returnType := none }, accessFlags := 0, code := none }
/-- java/lang/CharacterData -/
def k14 : Class := { plain "java/lang/CharacterData" (some 0) with
  accessFlags := 1056
  interfaces := #[]
  cf := some (fileOf pool14 8 #[] #[{ accessFlags := 0, nameIndex := 5, descriptorIndex := 6, attributes := #[] }] 1056 2 #[] #[])
  fields := #[]
  methods := #[k14m0]
  instanceTypes := #[]
  staticTypes := #[]
  resolved := Array.replicate 86 none
  statics := none }

def pool15 : Array CpInfo := pool [(2, .class_ 4), (1, u "java/lang/CharacterDataLatin1"), (0, u "A"), (0, u "[I"), (2, u "B"), (0, u "[C"), (3, u "(I)I"), (12, u "DIGITS"), (0, u "[B"), (8, u "sharpsMap"), (1, .class_ 41), (1, u "java/lang/CharacterData"), (0, u "<init>"), (0, u "()V"), (3, u "instance"), (0, u "Ljava/lang/CharacterDataLatin1;"), (63, u "toLowerCase")] 28

def k15c0 : Code := { maxStack := 2, maxLocals := 3, code := jdk_116_method_20_code, exceptionTable := #[], attributes := #[] }
def k15m0 : Method := { name := "toLowerCase", desc := "(I)I", sig := { parameters := [.int], returnType := some .int }, accessFlags := 0, code := some k15c0 }
def k15m1 : Method := { name := "<init>", desc := "()V", sig := { parameters := [], returnType := none }, accessFlags := 2, code := none }
/-- java/lang/CharacterDataLatin1 -/
def k15 : Class := { plain "java/lang/CharacterDataLatin1" (some 14) with
  accessFlags := 32
  interfaces := #[]
  cf := some (fileOf pool15 2 #[] #[{ accessFlags := 0, nameIndex := 112, descriptorIndex := 14, attributes := #[] }, { accessFlags := 2, nameIndex := 42, descriptorIndex := 43, attributes := #[] }] 32 39 #[] #[{ accessFlags := 26, nameIndex := 27, descriptorIndex := 28, attributes := #[] }, { accessFlags := 8, nameIndex := 37, descriptorIndex := 10, attributes := #[] }, { accessFlags := 24, nameIndex := 47, descriptorIndex := 48, attributes := #[] }, { accessFlags := 24, nameIndex := 5, descriptorIndex := 6, attributes := #[] }, { accessFlags := 24, nameIndex := 9, descriptorIndex := 10, attributes := #[] }])
  fields := #[{ name := "DIGITS", type := (.array .byte), accessFlags := 26, slot := 0, constantValue := 0 }, { name := "sharpsMap", type := (.array .char), accessFlags := 8, slot := 1, constantValue := 0 }, { name := "instance", type := (.object "java/lang/CharacterDataLatin1"), accessFlags := 24, slot := 2, constantValue := 0 }, { name := "A", type := (.array .int), accessFlags := 24, slot := 3, constantValue := 0 }, { name := "B", type := (.array .char), accessFlags := 24, slot := 4, constantValue := 0 }]
  methods := #[k15m0, k15m1]
  instanceTypes := #[]
  staticTypes := #[(.array .byte), (.array .char), (.object "java/lang/CharacterDataLatin1"), (.array .int), (.array .char)]
  resolved := Array.replicate 141 none
  statics := some 2 }

def pool16 : Array CpInfo := pool [(1, .class_ 2), (0, u "java/lang/Appendable"), (0, .class_ 4), (0, u "java/lang/Object")] 9

/-- java/lang/Appendable -/
def k16 : Class := { plain "java/lang/Appendable" (some 0) with
  accessFlags := 1537
  interfaces := #[]
  cf := some (fileOf pool16 1 #[] #[] 1537 3 #[] #[])
  fields := #[]
  methods := #[]
  instanceTypes := #[]
  staticTypes := #[]
  resolved := Array.replicate 14 none
  statics := none }

def pool17 : Array CpInfo := pool [(1, .class_ 2), (0, u "java/lang/String"), (0, .methodref 4 5), (0, .class_ 6), (0, .nameAndType 7 8), (0, u "java/lang/Object"), (0, u "<init>"), (0, u "()V"), (1, .class_ 12), (1, u "java/lang/AbstractStringBuilder"), (0, u "EMPTYVALUE"), (0, u "[B"), (0, .fieldref 10 16), (0, .nameAndType 17 14), (0, u "value"), (0, .fieldref 1 19), (0, .nameAndType 20 21), (0, u "COMPACT_STRINGS"), (0, u "Z"), (0, .fieldref 10 23), (0, .nameAndType 24 25), (0, u "coder"), (0, u "B"), (6, .methodref 1 33), (0, .nameAndType 34 35), (0, u "length"), (0, u "()I"), (4, .methodref 1 41), (0, .nameAndType 24 42), (0, u "()B"), (2, u "append"), (0, u "(Ljava/lang/String;)Ljava/lang/AbstractStringBuilder;"), (1, .class_ 49), (0, u "java/lang/CharSequence"), (19, u "(Ljava/lang/String;)V"), (5, u "maybeLatin1"), (3, .fieldref 10 80), (0, .nameAndType 81 82), (0, u "count"), (0, u "I"), (0, .methodref 10 84), (0, .nameAndType 85 86), (0, u "isLatin1"), (0, u "()Z"), (1, .class_ 90), (1, u "java/lang/StringLatin1"), (9, .methodref 10 101), (0, .nameAndType 102 103), (0, u "ensureCapacityInternal"), (0, u "(I)V"), (87, .methodref 88 192), (0, .nameAndType 193 194), (0, u "canEncode"), (0, u "(C)Z"), (13, .methodref 10 209), (0, .nameAndType 210 211), (0, u "putStringAt"), (0, u "(ILjava/lang/String;)V"), (5, u "inflateIfNeededFor"), (2, .nameAndType 221 222), (0, u "getBytes"), (0, u "([BIB)V"), (69, u "(C)Ljava/lang/AbstractStringBuilder;"), (104, .methodref 10 398), (0, .nameAndType 217 69), (0, .methodref 1 220), (3, u "()[B"), (40, .class_ 445), (0, u "java/lang/Appendable"), (106, u "getValue")] 56

def k17m0 : Method := { name := "<init>", desc := "()V", sig := { parameters := [], returnType := none }, accessFlags := 0, code := none }
def k17c1 : Code := { maxStack := 2, maxLocals := 2, code := jdk_68_method_2_code, exceptionTable := #[], attributes := #[] }
def k17m1 : Method := { name := "<init>", desc := "(I)V", sig := { parameters := [.int], returnType := none }, accessFlags := 0, code := some k17c1 }
def k17c2 : Code := { maxStack := 1, maxLocals := 1, code := jdk_68_method_6_code, exceptionTable := #[], attributes := #[] }
def k17m2 : Method := { name := "length", desc := "()I", sig := { parameters := [], returnType := some .int }, accessFlags := 1, code := some k17c2 }
def k17c3 : Code := { maxStack := 4, maxLocals := 3, code := jdk_68_method_9_code, exceptionTable := #[], attributes := #[] }
def k17m3 : Method := { name := "ensureCapacityInternal", desc := "(I)V", sig := { parameters := [.int], returnType := none }, accessFlags := 2, code := some k17c3 }
def k17c4 : Code := { maxStack := 3, maxLocals := 3, code := jdk_68_method_22_code, exceptionTable := #[], attributes := #[] }
def k17m4 : Method := { name := "append", desc := "(Ljava/lang/String;)Ljava/lang/AbstractStringBuilder;", sig := { parameters := [(.object "java/lang/String")], returnType := some (.object "java/lang/AbstractStringBuilder") }, accessFlags := 1, code := some k17c4 }
def k17c5 : Code := { maxStack := 5, maxLocals := 2, code := jdk_68_method_31_code, exceptionTable := #[], attributes := #[] }
def k17m5 : Method := { name := "append", desc := "(C)Ljava/lang/AbstractStringBuilder;", sig := { parameters := [.char], returnType := some (.object "java/lang/AbstractStringBuilder") }, accessFlags := 1, code := some k17c5 }
def k17c6 : Code := { maxStack := 1, maxLocals := 1, code := jdk_68_method_64_code, exceptionTable := #[], attributes := #[] }
def k17m6 : Method := { name := "getValue", desc := "()[B", sig := { parameters := [], returnType := some (.array .byte) }, accessFlags := 16, code := some k17c6 }
def k17c7 : Code := { maxStack := 1, maxLocals := 1, code := jdk_68_method_68_code, exceptionTable := #[], attributes := #[] }
def k17m7 : Method := { name := "isLatin1", desc := "()Z", sig := { parameters := [], returnType := some .boolean }, accessFlags := 16, code := some k17c7 }
def k17c8 : Code := { maxStack := 2, maxLocals := 2, code := jdk_68_method_71_code, exceptionTable := #[], attributes := #[] }
def k17m8 : Method := { name := "inflateIfNeededFor", desc := "(Ljava/lang/String;)V", sig := { parameters := [(.object "java/lang/String")], returnType := none }, accessFlags := 2, code := some k17c8 }
def k17c9 : Code := { maxStack := 4, maxLocals := 3, code := jdk_68_method_73_code, exceptionTable := #[], attributes := #[] }
def k17m9 : Method := { name := "putStringAt", desc := "(ILjava/lang/String;)V", sig := { parameters := [.int, (.object "java/lang/String")], returnType := none }, accessFlags := 2, code := some k17c9 }
/-- java/lang/AbstractStringBuilder -/
def k17 : Class := { plain "java/lang/AbstractStringBuilder" (some 0) with
  accessFlags := 1056
  interfaces := #[16, 4]
  cf := some (fileOf pool17 10 #[] #[{ accessFlags := 0, nameIndex := 7, descriptorIndex := 8, attributes := #[] }, { accessFlags := 0, nameIndex := 7, descriptorIndex := 103, attributes := #[] }, { accessFlags := 1, nameIndex := 34, descriptorIndex := 35, attributes := #[] }, { accessFlags := 2, nameIndex := 102, descriptorIndex := 103, attributes := #[] }, { accessFlags := 1, nameIndex := 45, descriptorIndex := 46, attributes := #[] }, { accessFlags := 1, nameIndex := 45, descriptorIndex := 292, attributes := #[] }, { accessFlags := 16, nameIndex := 552, descriptorIndex := 403, attributes := #[] }, { accessFlags := 16, nameIndex := 85, descriptorIndex := 86, attributes := #[] }, { accessFlags := 2, nameIndex := 217, descriptorIndex := 69, attributes := #[] }, { accessFlags := 2, nameIndex := 210, descriptorIndex := 211, attributes := #[] }] 1056 4 #[444, 48] #[{ accessFlags := 0, nameIndex := 17, descriptorIndex := 14, attributes := #[] }, { accessFlags := 0, nameIndex := 24, descriptorIndex := 25, attributes := #[] }, { accessFlags := 0, nameIndex := 75, descriptorIndex := 21, attributes := #[] }, { accessFlags := 0, nameIndex := 81, descriptorIndex := 82, attributes := #[] }, { accessFlags := 26, nameIndex := 13, descriptorIndex := 14, attributes := #[] }])
  fields := #[{ name := "value", type := (.array .byte), accessFlags := 0, slot := 0, constantValue := 0 }, { name := "coder", type := .byte, accessFlags := 0, slot := 1, constantValue := 0 }, { name := "maybeLatin1", type := .boolean, accessFlags := 0, slot := 2, constantValue := 0 }, { name := "count", type := .int, accessFlags := 0, slot := 3, constantValue := 0 }, { name := "EMPTYVALUE", type := (.array .byte), accessFlags := 26, slot := 0, constantValue := 0 }]
  methods := #[k17m0, k17m1, k17m2, k17m3, k17m4, k17m5, k17m6, k17m7, k17m8, k17m9]
  instanceTypes := #[(.array .byte), .byte, .boolean, .int]
  staticTypes := #[(.array .byte)]
  resolved := Array.replicate 609 none
  statics := none }

def pool18 : Array CpInfo := pool [(1, .methodref 2 3), (0, .class_ 4), (0, .nameAndType 5 6), (0, u "java/lang/AbstractStringBuilder"), (0, u "<init>"), (0, u "(I)V"), (11, .class_ 20), (1, u "java/lang/String"), (3, .class_ 26), (1, u "java/lang/StringBuilder"), (0, u "append"), (0, u "(Ljava/lang/String;)Ljava/lang/StringBuilder;"), (0, .methodref 2 30), (0, .nameAndType 27 31), (0, u "(Ljava/lang/String;)Ljava/lang/AbstractStringBuilder;"), (18, .methodref 2 51), (0, .nameAndType 27 52), (0, u "(C)Ljava/lang/AbstractStringBuilder;"), (84, .methodref 18 138), (0, .nameAndType 5 139), (0, u "(Ljava/lang/StringBuilder;)V"), (5, u "()V"), (10, u "()I"), (129, u "(C)Ljava/lang/StringBuilder;"), (56, .methodref 2 344), (0, .nameAndType 345 156), (0, u "length"), (3, .class_ 350), (0, u "java/lang/Appendable"), (0, .class_ 352), (0, u "java/io/Serializable"), (0, .class_ 354), (0, u "java/lang/Comparable"), (0, .class_ 356), (0, u "java/lang/CharSequence"), (0, u "serialVersionUID"), (0, u "J"), (40, u "toString"), (0, u "()Ljava/lang/String;")] 21

def k18m0 : Method := { name := "<init>", desc := "()V", sig := { parameters := [], returnType := none }, accessFlags := 1, code := none }
def k18c1 : Code := { maxStack := 2, maxLocals := 2, code := jdk_67_method_2_code, exceptionTable := #[], attributes := #[] }
def k18m1 : Method := { name := "<init>", desc := "(I)V", sig := { parameters := [.int], returnType := none }, accessFlags := 1, code := some k18c1 }
def k18c2 : Code := { maxStack := 2, maxLocals := 2, code := jdk_67_method_7_code, exceptionTable := #[], attributes := #[] }
def k18m2 : Method := { name := "append", desc := "(Ljava/lang/String;)Ljava/lang/StringBuilder;", sig := { parameters := [(.object "java/lang/String")], returnType := some (.object "java/lang/StringBuilder") }, accessFlags := 1, code := some k18c2 }
def k18c3 : Code := { maxStack := 2, maxLocals := 2, code := jdk_67_method_14_code, exceptionTable := #[], attributes := #[] }
def k18m3 : Method := { name := "append", desc := "(C)Ljava/lang/StringBuilder;", sig := { parameters := [.char], returnType := some (.object "java/lang/StringBuilder") }, accessFlags := 1, code := some k18c3 }
def k18c4 : Code := { maxStack := 3, maxLocals := 1, code := jdk_67_method_42_code, exceptionTable := #[], attributes := #[] }
def k18m4 : Method := { name := "toString", desc := "()Ljava/lang/String;", sig := { parameters := [], returnType := some (.object "java/lang/String") }, accessFlags := 1, code := some k18c4 }
def k18c5 : Code := { maxStack := 1, maxLocals := 1, code := jdk_67_method_93_code, exceptionTable := #[], attributes := #[] }
def k18m5 : Method := { name := "length", desc := "()I", sig := { parameters := [], returnType := some .int }, accessFlags := 4161, code := some k18c5 }
/-- java/lang/StringBuilder -/
def k18 : Class := { plain "java/lang/StringBuilder" (some 17) with
  accessFlags := 49
  interfaces := #[16, 2, 3, 4]
  cf := some (fileOf pool18 24 #[] #[{ accessFlags := 1, nameIndex := 5, descriptorIndex := 145, attributes := #[] }, { accessFlags := 1, nameIndex := 5, descriptorIndex := 6, attributes := #[] }, { accessFlags := 1, nameIndex := 27, descriptorIndex := 28, attributes := #[] }, { accessFlags := 1, nameIndex := 27, descriptorIndex := 286, attributes := #[] }, { accessFlags := 1, nameIndex := 399, descriptorIndex := 400, attributes := #[] }, { accessFlags := 4161, nameIndex := 345, descriptorIndex := 156, attributes := #[] }] 49 2 #[349, 351, 353, 355] #[{ accessFlags := 24, nameIndex := 357, descriptorIndex := 358, attributes := #[] }])
  fields := #[{ name := "serialVersionUID", type := .long, accessFlags := 24, slot := 0, constantValue := 0 }]
  methods := #[k18m0, k18m1, k18m2, k18m3, k18m4, k18m5]
  instanceTypes := #[(.array .byte), .byte, .boolean, .int]
  staticTypes := #[.long]
  resolved := Array.replicate 422 none
  statics := none }

def pool19 : Array CpInfo := pool [(2, .class_ 4), (1, u "java/lang/Object"), (0, u "<init>"), (0, u "()V"), (1, .class_ 10), (1, u "java/lang/System"), (0, u "allowSecurityManager"), (0, u "I"), (16, u "cons"), (0, u "Ljava/io/Console;"), (77, .class_ 110), (1, u "java/lang/System$CallersHolder"), (43, u "initialErrStream"), (0, u "Ljava/io/PrintStream;"), (19, u "security"), (0, u "Ljava/lang/SecurityManager;"), (31, .class_ 209), (0, u "java/lang/System$1"), (7, u "props"), (0, u "Ljava/util/Properties;"), (2, u "lineSeparator"), (0, u "Ljava/lang/String;"), (96, .class_ 321), (1, u "java/lang/System$LoggerFinder"), (5, .class_ 328), (0, u "java/lang/System$Logger"), (67, u "err"), (2, u "out"), (91, u "notSupportedJnuEncoding"), (15, u "in"), (17, u "initialIn"), (0, u "Ljava/io/InputStream;"), (35, u "bootLayer"), (0, u "Ljava/lang/ModuleLayer;"), (99, .class_ 664), (0, u "java/lang/System$2"), (9, u "NEVER"), (2, u "MAYBE"), (49, u "arraycopy"), (0, u "(Ljava/lang/Object;ILjava/lang/Object;II)V"), (72, .class_ 802), (0, u "java/lang/System$Logger$Level")] 31

def k19m0 : Method := { name := "<init>", desc := "()V", sig := { parameters := [], returnType := none }, accessFlags := 2, code := none }
def k19m1 : Method := { name := "arraycopy", desc := "(Ljava/lang/Object;ILjava/lang/Object;II)V", sig := { parameters := [(.object "java/lang/Object"), .int, (.object "java/lang/Object"), .int, .int], returnType := none }, accessFlags := 265, code := none }
/-- java/lang/System -/
def k19 : Class := { plain "java/lang/System" (some 0) with
  accessFlags := 49
  interfaces := #[]
  cf := some (fileOf pool19 8 #[.nestMembers #[319, 327, 801, 108, 663, 208]] #[{ accessFlags := 2, nameIndex := 5, descriptorIndex := 6, attributes := #[] }, { accessFlags := 265, nameIndex := 727, descriptorIndex := 728, attributes := #[] }] 49 2 #[] #[{ accessFlags := 25, nameIndex := 507, descriptorIndex := 526, attributes := #[] }, { accessFlags := 25, nameIndex := 399, descriptorIndex := 155, attributes := #[] }, { accessFlags := 25, nameIndex := 396, descriptorIndex := 155, attributes := #[] }, { accessFlags := 10, nameIndex := 525, descriptorIndex := 526, attributes := #[] }, { accessFlags := 26, nameIndex := 674, descriptorIndex := 12, attributes := #[] }, { accessFlags := 26, nameIndex := 677, descriptorIndex := 12, attributes := #[] }, { accessFlags := 10, nameIndex := 11, descriptorIndex := 12, attributes := #[] }, { accessFlags := 74, nameIndex := 175, descriptorIndex := 176, attributes := #[] }, { accessFlags := 10, nameIndex := 491, descriptorIndex := 222, attributes := #[] }, { accessFlags := 74, nameIndex := 29, descriptorIndex := 30, attributes := #[] }, { accessFlags := 74, nameIndex := 154, descriptorIndex := 155, attributes := #[] }, { accessFlags := 10, nameIndex := 217, descriptorIndex := 218, attributes := #[] }, { accessFlags := 10, nameIndex := 221, descriptorIndex := 222, attributes := #[] }, { accessFlags := 8, nameIndex := 562, descriptorIndex := 563, attributes := #[] }])
  fields := #[{ name := "in", type := (.object "java/io/InputStream"), accessFlags := 25, slot := 0, constantValue := 0 }, { name := "out", type := (.object "java/io/PrintStream"), accessFlags := 25, slot := 1, constantValue := 0 }, { name := "err", type := (.object "java/io/PrintStream"), accessFlags := 25, slot := 2, constantValue := 0 }, { name := "initialIn", type := (.object "java/io/InputStream"), accessFlags := 10, slot := 3, constantValue := 0 }, { name := "NEVER", type := .int, accessFlags := 26, slot := 4, constantValue := 0 }, { name := "MAYBE", type := .int, accessFlags := 26, slot := 5, constantValue := 0 }, { name := "allowSecurityManager", type := .int, accessFlags := 10, slot := 6, constantValue := 0 }, { name := "security", type := (.object "java/lang/SecurityManager"), accessFlags := 74, slot := 7, constantValue := 0 }, { name := "notSupportedJnuEncoding", type := (.object "java/lang/String"), accessFlags := 10, slot := 8, constantValue := 0 }, { name := "cons", type := (.object "java/io/Console"), accessFlags := 74, slot := 9, constantValue := 0 }, { name := "initialErrStream", type := (.object "java/io/PrintStream"), accessFlags := 74, slot := 10, constantValue := 0 }, { name := "props", type := (.object "java/util/Properties"), accessFlags := 10, slot := 11, constantValue := 0 }, { name := "lineSeparator", type := (.object "java/lang/String"), accessFlags := 10, slot := 12, constantValue := 0 }, { name := "bootLayer", type := (.object "java/lang/ModuleLayer"), accessFlags := 8, slot := 13, constantValue := 0 }]
  methods := #[k19m0, k19m1]
  instanceTypes := #[]
  staticTypes := #[(.object "java/io/InputStream"), (.object "java/io/PrintStream"), (.object "java/io/PrintStream"), (.object "java/io/InputStream"), .int, .int, .int, (.object "java/lang/SecurityManager"), (.object "java/lang/String"), (.object "java/io/Console"), (.object "java/io/PrintStream"), (.object "java/util/Properties"), (.object "java/lang/String"), (.object "java/lang/ModuleLayer")]
  resolved := Array.replicate 834 none
  statics := none }

def pool20 : Array CpInfo := pool [(2, .class_ 4), (1, u "java/lang/Object"), (0, u "<init>"), (0, u "()V"), (17, .class_ 26), (1, u "jdk/internal/util/Preconditions"), (6, u "checkIndex"), (21, .class_ 56), (0, u "jdk/internal/util/Preconditions$4"), (57, .class_ 115), (0, u "jdk/internal/util/Preconditions$1"), (7, u "SIOOBE_FORMATTER"), (0, u "Ljava/util/function/BiFunction;"), (0, .class_ 126), (0, u "jdk/internal/util/Preconditions$2"), (3, u "AIOOBE_FORMATTER"), (0, .class_ 132), (0, u "jdk/internal/util/Preconditions$3"), (3, u "IOOBE_FORMATTER"), (41, u "(IILjava/util/function/BiFunction;)I")] 15

def k20m0 : Method := { name := "<init>", desc := "()V", sig := { parameters := [], returnType := none }, accessFlags := 1, code := none }
def k20c1 : Code := { maxStack := 3, maxLocals := 3, code := jdk_41_method_11_code, exceptionTable := #[], attributes := #[] }
def k20m1 : Method := { name := "checkIndex", desc := "(IILjava/util/function/BiFunction;)I", sig := { parameters := [.int, .int, (.object "java/util/function/BiFunction")], returnType := some .int }, accessFlags := 9, code := some k20c1 }
/-- jdk/internal/util/Preconditions -/
def k20 : Class := { plain "jdk/internal/util/Preconditions" (some 0) with
  accessFlags := 33
  interfaces := #[]
  cf := some (fileOf pool20 24 #[.nestMembers #[55, 131, 125, 114]] #[{ accessFlags := 1, nameIndex := 5, descriptorIndex := 6, attributes := #[] }, { accessFlags := 9, nameIndex := 33, descriptorIndex := 178, attributes := #[] }] 33 2 #[] #[{ accessFlags := 25, nameIndex := 123, descriptorIndex := 124, attributes := #[] }, { accessFlags := 25, nameIndex := 130, descriptorIndex := 124, attributes := #[] }, { accessFlags := 25, nameIndex := 136, descriptorIndex := 124, attributes := #[] }])
  fields := #[{ name := "SIOOBE_FORMATTER", type := (.object "java/util/function/BiFunction"), accessFlags := 25, slot := 0, constantValue := 0 }, { name := "AIOOBE_FORMATTER", type := (.object "java/util/function/BiFunction"), accessFlags := 25, slot := 1, constantValue := 0 }, { name := "IOOBE_FORMATTER", type := (.object "java/util/function/BiFunction"), accessFlags := 25, slot := 2, constantValue := 0 }]
  methods := #[k20m0, k20m1]
  instanceTypes := #[]
  staticTypes := #[(.object "java/util/function/BiFunction"), (.object "java/util/function/BiFunction"), (.object "java/util/function/BiFunction")]
  resolved := Array.replicate 194 none
  statics := some 3 }

def pool21 : Array CpInfo := pool [(2, .class_ 4), (1, u "java/lang/Object"), (0, u "<init>"), (0, u "()V"), (7, .class_ 16), (1, u "java/util/Arrays"), (57, .class_ 76), (1, u "java/util/Arrays$NaturalOrder"), (32, u "()Ljava/lang/Object;"), (3, .class_ 115), (1, u "java/util/Arrays$LegacyMergeSort"), (1, u "Z"), (10, .nameAndType 129 109), (0, u "clone"), (9, u "copyOfRange"), (10, .methodref 151 152), (0, .class_ 153), (0, .nameAndType 154 155), (0, u "java/lang/System"), (0, u "arraycopy"), (0, u "(Ljava/lang/Object;ILjava/lang/Object;II)V"), (148, .methodref 305 306), (0, .class_ 307), (0, .nameAndType 308 309), (0, u "java/lang/Math"), (0, u "min"), (0, u "(II)I"), (0, .methodref 311 128), (0, .class_ 312), (0, u "[B"), (26, .methodref 14 340), (0, .nameAndType 341 342), (0, u "copyOfRangeByte"), (0, u "([BII)[B"), (0, .methodref 14 344), (0, .nameAndType 345 346), (0, u "checkLength"), (0, u "(II)V"), (28, .class_ 376), (0, u "java/util/Arrays$ArrayList"), (68, u "$assertionsDisabled"), (269, u "MIN_ARRAY_SORT_GRAN"), (0, u "I"), (2, u "INSERTIONSORT_THRESHOLD"), (255, .class_ 976), (0, u "java/util/Arrays$ArrayItr")] 52

def k21m0 : Method := { name := "<init>", desc := "()V", sig := { parameters := [], returnType := none }, accessFlags := 2, code := none }
def k21c1 : Code := { maxStack := 4, maxLocals := 2, code := jdk_65_method_131_code, exceptionTable := #[], attributes := #[] }
def k21m1 : Method := { name := "checkLength", desc := "(II)V", sig := { parameters := [.int, .int], returnType := none }, accessFlags := 10, code := some k21c1 }
def k21c2 : Code := { maxStack := 3, maxLocals := 3, code := jdk_65_method_132_code, exceptionTable := #[], attributes := #[] }
def k21m2 : Method := { name := "copyOfRange", desc := "([BII)[B", sig := { parameters := [(.array .byte), .int, .int], returnType := some (.array .byte) }, accessFlags := 9, code := some k21c2 }
def k21c3 : Code := { maxStack := 6, maxLocals := 5, code := jdk_65_method_133_code, exceptionTable := #[], attributes := #[] }
def k21m3 : Method := { name := "copyOfRangeByte", desc := "([BII)[B", sig := { parameters := [(.array .byte), .int, .int], returnType := some (.array .byte) }, accessFlags := 10, code := some k21c3 }
/-- java/util/Arrays -/
def k21 : Class := { plain "java/util/Arrays" (some 0) with
  accessFlags := 49
  interfaces := #[]
  cf := some (fileOf pool21 14 #[.nestMembers #[975, 375, 113, 74]] #[{ accessFlags := 2, nameIndex := 5, descriptorIndex := 6, attributes := #[] }, { accessFlags := 10, nameIndex := 345, descriptorIndex := 346, attributes := #[] }, { accessFlags := 9, nameIndex := 139, descriptorIndex := 342, attributes := #[] }, { accessFlags := 10, nameIndex := 341, descriptorIndex := 342, attributes := #[] }] 49 2 #[] #[{ accessFlags := 26, nameIndex := 715, descriptorIndex := 716, attributes := #[] }, { accessFlags := 26, nameIndex := 719, descriptorIndex := 716, attributes := #[] }, { accessFlags := 4120, nameIndex := 445, descriptorIndex := 117, attributes := #[] }])
  fields := #[{ name := "MIN_ARRAY_SORT_GRAN", type := .int, accessFlags := 26, slot := 0, constantValue := 0 }, { name := "INSERTIONSORT_THRESHOLD", type := .int, accessFlags := 26, slot := 1, constantValue := 0 }, { name := "$assertionsDisabled", type := .boolean, accessFlags := 4120, slot := 2, constantValue := 0 }]
  methods := #[k21m0, k21m1, k21m2, k21m3]
  instanceTypes := #[]
  staticTypes := #[.int, .int, .boolean]
  resolved := Array.replicate 1029 none
  statics := none }

def pool22 : Array CpInfo := pool [(1, .class_ 2), (0, u "java/lang/Math"), (1, .class_ 6), (1, u "java/lang/Object"), (0, u "<init>"), (0, u "()V"), (89, .class_ 100), (1, u "java/lang/Math$RandomNumberGeneratorHolder"), (71, u "negativeZeroFloatBits"), (0, u "J"), (2, u "negativeZeroDoubleBits"), (24, u "min"), (43, u "$assertionsDisabled"), (0, u "Z"), (88, u "(II)I"), (2, u "twoToTheDoubleScaleDown"), (0, u "D"), (4, u "twoToTheDoubleScaleUp"), (9, u "E"), (3, u "PI"), (2, u "TAU"), (2, u "DEGREES_TO_RADIANS"), (0, u "RADIANS_TO_DEGREES")] 94

def k22m0 : Method := { name := "<init>", desc := "()V", sig := { parameters := [], returnType := none }, accessFlags := 2, code := none }
def k22c1 : Code := { maxStack := 2, maxLocals := 2, code := jdk_29_method_69_code, exceptionTable := #[], attributes := #[] }
def k22m1 : Method := { name := "min", desc := "(II)I", sig := { parameters := [.int, .int], returnType := some .int }, accessFlags := 9, code := some k22c1 }
/-- java/lang/Math -/
def k22 : Class := { plain "java/lang/Math" (some 0) with
  accessFlags := 49
  interfaces := #[]
  cf := some (fileOf pool22 1 #[.nestMembers #[98]] #[{ accessFlags := 2, nameIndex := 7, descriptorIndex := 8, attributes := #[] }, { accessFlags := 9, nameIndex := 201, descriptorIndex := 335, attributes := #[] }] 49 4 #[] #[{ accessFlags := 25, nameIndex := 354, descriptorIndex := 339, attributes := #[] }, { accessFlags := 25, nameIndex := 358, descriptorIndex := 339, attributes := #[] }, { accessFlags := 25, nameIndex := 361, descriptorIndex := 339, attributes := #[] }, { accessFlags := 26, nameIndex := 364, descriptorIndex := 339, attributes := #[] }, { accessFlags := 26, nameIndex := 365, descriptorIndex := 339, attributes := #[] }, { accessFlags := 26, nameIndex := 172, descriptorIndex := 173, attributes := #[] }, { accessFlags := 26, nameIndex := 176, descriptorIndex := 173, attributes := #[] }, { accessFlags := 8, nameIndex := 344, descriptorIndex := 339, attributes := #[] }, { accessFlags := 8, nameIndex := 338, descriptorIndex := 339, attributes := #[] }, { accessFlags := 4120, nameIndex := 245, descriptorIndex := 246, attributes := #[] }])
  fields := #[{ name := "E", type := .double, accessFlags := 25, slot := 0, constantValue := 0 }, { name := "PI", type := .double, accessFlags := 25, slot := 1, constantValue := 0 }, { name := "TAU", type := .double, accessFlags := 25, slot := 2, constantValue := 0 }, { name := "DEGREES_TO_RADIANS", type := .double, accessFlags := 26, slot := 3, constantValue := 0 }, { name := "RADIANS_TO_DEGREES", type := .double, accessFlags := 26, slot := 4, constantValue := 0 }, { name := "negativeZeroFloatBits", type := .long, accessFlags := 26, slot := 5, constantValue := 0 }, { name := "negativeZeroDoubleBits", type := .long, accessFlags := 26, slot := 6, constantValue := 0 }, { name := "twoToTheDoubleScaleUp", type := .double, accessFlags := 8, slot := 7, constantValue := 0 }, { name := "twoToTheDoubleScaleDown", type := .double, accessFlags := 8, slot := 8, constantValue := 0 }, { name := "$assertionsDisabled", type := .boolean, accessFlags := 4120, slot := 9, constantValue := 0 }]
  methods := #[k22m0, k22m1]
  instanceTypes := #[]
  staticTypes := #[.double, .double, .double, .double, .double, .long, .long, .double, .double, .boolean]
  resolved := Array.replicate 460 none
  statics := none }

def pool23 : Array CpInfo := pool [(2, .class_ 4), (1, u "java/lang/Object"), (13, u "()Ljava/lang/String;"), (0, .fieldref 20 21), (0, .class_ 22), (0, .nameAndType 23 24), (0, u "sun/util/locale/BaseLocale"), (0, u "language"), (0, u "Ljava/lang/String;"), (5, u "script"), (5, u "region"), (2, u "variant"), (11, u "constantBaseLocales"), (0, u "[Lsun/util/locale/BaseLocale;"), (2, u "getLanguage"), (10, .class_ 67), (0, u "sun/util/locale/BaseLocale$Key"), (2, .class_ 72), (1, u "sun/util/locale/BaseLocale$Cache"), (24, u "OLD_ISO_CODES"), (0, u "Z"), (32, u "hash"), (0, u "I"), (41, u "US"), (15, u "ENGLISH"), (0, u "B"), (2, u "FRENCH"), (1, u "GERMAN"), (1, u "ITALIAN"), (1, u "JAPANESE"), (1, u "KOREAN"), (1, u "CHINESE"), (1, u "SIMPLIFIED_CHINESE"), (1, u "TRADITIONAL_CHINESE"), (1, u "FRANCE"), (1, u "GERMANY"), (1, u "ITALY"), (1, u "JAPAN"), (1, u "KOREA"), (1, u "UK"), (2, u "CANADA"), (1, u "CANADA_FRENCH"), (1, u "ROOT"), (1, u "NUM_CONSTANTS"), (1, u "SEP")] 31

def k23c0 : Code := { maxStack := 1, maxLocals := 1, code := jdk_3003_method_5_code, exceptionTable := #[], attributes := #[] }
def k23m0 : Method := { name := "getLanguage", desc := "()Ljava/lang/String;", sig := { parameters := [], returnType := some (.object "java/lang/String") }, accessFlags := 1, code := some k23c0 }
/-- sun/util/locale/BaseLocale -/
def k23 : Class := { plain "sun/util/locale/BaseLocale" (some 0) with
  accessFlags := 49
  interfaces := #[]
  cf := some (fileOf pool23 20 #[.nestMembers #[70, 66]] #[{ accessFlags := 1, nameIndex := 55, descriptorIndex := 18, attributes := #[] }] 49 2 #[] #[{ accessFlags := 9, nameIndex := 51, descriptorIndex := 52, attributes := #[] }, { accessFlags := 25, nameIndex := 190, descriptorIndex := 191, attributes := #[] }, { accessFlags := 25, nameIndex := 194, descriptorIndex := 191, attributes := #[] }, { accessFlags := 25, nameIndex := 196, descriptorIndex := 191, attributes := #[] }, { accessFlags := 25, nameIndex := 198, descriptorIndex := 191, attributes := #[] }, { accessFlags := 25, nameIndex := 200, descriptorIndex := 191, attributes := #[] }, { accessFlags := 25, nameIndex := 202, descriptorIndex := 191, attributes := #[] }, { accessFlags := 25, nameIndex := 204, descriptorIndex := 191, attributes := #[] }, { accessFlags := 25, nameIndex := 206, descriptorIndex := 191, attributes := #[] }, { accessFlags := 25, nameIndex := 208, descriptorIndex := 191, attributes := #[] }, { accessFlags := 25, nameIndex := 210, descriptorIndex := 191, attributes := #[] }, { accessFlags := 25, nameIndex := 212, descriptorIndex := 191, attributes := #[] }, { accessFlags := 25, nameIndex := 214, descriptorIndex := 191, attributes := #[] }, { accessFlags := 25, nameIndex := 216, descriptorIndex := 191, attributes := #[] }, { accessFlags := 25, nameIndex := 218, descriptorIndex := 191, attributes := #[] }, { accessFlags := 25, nameIndex := 220, descriptorIndex := 191, attributes := #[] }, { accessFlags := 25, nameIndex := 174, descriptorIndex := 191, attributes := #[] }, { accessFlags := 25, nameIndex := 223, descriptorIndex := 191, attributes := #[] }, { accessFlags := 25, nameIndex := 225, descriptorIndex := 191, attributes := #[] }, { accessFlags := 25, nameIndex := 227, descriptorIndex := 191, attributes := #[] }, { accessFlags := 25, nameIndex := 229, descriptorIndex := 191, attributes := #[] }, { accessFlags := 25, nameIndex := 231, descriptorIndex := 24, attributes := #[] }, { accessFlags := 18, nameIndex := 23, descriptorIndex := 24, attributes := #[] }, { accessFlags := 18, nameIndex := 30, descriptorIndex := 24, attributes := #[] }, { accessFlags := 18, nameIndex := 36, descriptorIndex := 24, attributes := #[] }, { accessFlags := 18, nameIndex := 39, descriptorIndex := 24, attributes := #[] }, { accessFlags := 2, nameIndex := 131, descriptorIndex := 132, attributes := #[] }, { accessFlags := 26, nameIndex := 97, descriptorIndex := 98, attributes := #[] }])
  fields := #[{ name := "constantBaseLocales", type := (.array (.object "sun/util/locale/BaseLocale")), accessFlags := 9, slot := 0, constantValue := 0 }, { name := "ENGLISH", type := .byte, accessFlags := 25, slot := 1, constantValue := 0 }, { name := "FRENCH", type := .byte, accessFlags := 25, slot := 2, constantValue := 0 }, { name := "GERMAN", type := .byte, accessFlags := 25, slot := 3, constantValue := 0 }, { name := "ITALIAN", type := .byte, accessFlags := 25, slot := 4, constantValue := 0 }, { name := "JAPANESE", type := .byte, accessFlags := 25, slot := 5, constantValue := 0 }, { name := "KOREAN", type := .byte, accessFlags := 25, slot := 6, constantValue := 0 }, { name := "CHINESE", type := .byte, accessFlags := 25, slot := 7, constantValue := 0 }, { name := "SIMPLIFIED_CHINESE", type := .byte, accessFlags := 25, slot := 8, constantValue := 0 }, { name := "TRADITIONAL_CHINESE", type := .byte, accessFlags := 25, slot := 9, constantValue := 0 }, { name := "FRANCE", type := .byte, accessFlags := 25, slot := 10, constantValue := 0 }, { name := "GERMANY", type := .byte, accessFlags := 25, slot := 11, constantValue := 0 }, { name := "ITALY", type := .byte, accessFlags := 25, slot := 12, constantValue := 0 }, { name := "JAPAN", type := .byte, accessFlags := 25, slot := 13, constantValue := 0 }, { name := "KOREA", type := .byte, accessFlags := 25, slot := 14, constantValue := 0 }, { name := "UK", type := .byte, accessFlags := 25, slot := 15, constantValue := 0 }, { name := "US", type := .byte, accessFlags := 25, slot := 16, constantValue := 0 }, { name := "CANADA", type := .byte, accessFlags := 25, slot := 17, constantValue := 0 }, { name := "CANADA_FRENCH", type := .byte, accessFlags := 25, slot := 18, constantValue := 0 }, { name := "ROOT", type := .byte, accessFlags := 25, slot := 19, constantValue := 0 }, { name := "NUM_CONSTANTS", type := .byte, accessFlags := 25, slot := 20, constantValue := 0 }, { name := "SEP", type := (.object "java/lang/String"), accessFlags := 25, slot := 21, constantValue := 0 }, { name := "language", type := (.object "java/lang/String"), accessFlags := 18, slot := 0, constantValue := 0 }, { name := "script", type := (.object "java/lang/String"), accessFlags := 18, slot := 1, constantValue := 0 }, { name := "region", type := (.object "java/lang/String"), accessFlags := 18, slot := 2, constantValue := 0 }, { name := "variant", type := (.object "java/lang/String"), accessFlags := 18, slot := 3, constantValue := 0 }, { name := "hash", type := .int, accessFlags := 2, slot := 4, constantValue := 0 }, { name := "OLD_ISO_CODES", type := .boolean, accessFlags := 26, slot := 22, constantValue := 0 }]
  methods := #[k23m0]
  instanceTypes := #[(.object "java/lang/String"), (.object "java/lang/String"), (.object "java/lang/String"), (.object "java/lang/String"), .int]
  staticTypes := #[(.array (.object "sun/util/locale/BaseLocale")), .byte, .byte, .byte, .byte, .byte, .byte, .byte, .byte, .byte, .byte, .byte, .byte, .byte, .byte, .byte, .byte, .byte, .byte, .byte, .byte, (.object "java/lang/String"), .boolean]
  resolved := Array.replicate 263 none
  statics := none }

def pool24 : Array CpInfo := pool [(9, u "<init>"), (6, .class_ 18), (1, u "java/lang/Object"), (0, u "()V"), (1, .class_ 23), (1, u "jdk/internal/util/ArraysSupport"), (0, u "LOG2_ARRAY_LONG_INDEX_SCALE"), (0, u "I"), (2, u "U"), (0, u "Ljdk/internal/misc/Unsafe;"), (8, u "BIG_ENDIAN"), (0, u "Z"), (8, u "LOG2_BYTE_BIT_SIZE"), (4, u "LOG2_ARRAY_INT_INDEX_SCALE"), (54, u "JLA"), (0, u "Ljdk/internal/access/JavaLangAccess;"), (11, u "LOG2_ARRAY_BOOLEAN_INDEX_SCALE"), (9, u "LOG2_ARRAY_BYTE_INDEX_SCALE"), (5, u "LOG2_ARRAY_CHAR_INDEX_SCALE"), (5, u "LOG2_ARRAY_SHORT_INDEX_SCALE"), (18, u "LOG2_ARRAY_FLOAT_INDEX_SCALE"), (24, u "LOG2_ARRAY_DOUBLE_INDEX_SCALE"), (89, u "T_BOOLEAN"), (2, u "T_CHAR"), (1, u "T_FLOAT"), (1, u "T_DOUBLE"), (1, u "T_BYTE"), (1, u "T_SHORT"), (1, u "T_INT"), (1, u "T_LONG"), (1, u "SOFT_MAX_ARRAY_LENGTH")] 83

def k24m0 : Method := { name := "<init>", desc := "()V", sig := { parameters := [], returnType := none }, accessFlags := 2, code := none }
/-- jdk/internal/util/ArraysSupport -/
def k24 : Class := { plain "jdk/internal/util/ArraysSupport" (some 0) with
  accessFlags := 33
  interfaces := #[]
  cf := some (fileOf pool24 21 #[] #[{ accessFlags := 2, nameIndex := 9, descriptorIndex := 19, attributes := #[] }] 33 16 #[] #[{ accessFlags := 24, nameIndex := 28, descriptorIndex := 29, attributes := #[] }, { accessFlags := 26, nameIndex := 38, descriptorIndex := 39, attributes := #[] }, { accessFlags := 25, nameIndex := 121, descriptorIndex := 25, attributes := #[] }, { accessFlags := 25, nameIndex := 131, descriptorIndex := 25, attributes := #[] }, { accessFlags := 25, nameIndex := 137, descriptorIndex := 25, attributes := #[] }, { accessFlags := 25, nameIndex := 143, descriptorIndex := 25, attributes := #[] }, { accessFlags := 25, nameIndex := 53, descriptorIndex := 25, attributes := #[] }, { accessFlags := 25, nameIndex := 24, descriptorIndex := 25, attributes := #[] }, { accessFlags := 25, nameIndex := 162, descriptorIndex := 25, attributes := #[] }, { accessFlags := 25, nameIndex := 187, descriptorIndex := 25, attributes := #[] }, { accessFlags := 26, nameIndex := 48, descriptorIndex := 25, attributes := #[] }, { accessFlags := 25, nameIndex := 277, descriptorIndex := 25, attributes := #[] }, { accessFlags := 25, nameIndex := 280, descriptorIndex := 25, attributes := #[] }, { accessFlags := 25, nameIndex := 282, descriptorIndex := 25, attributes := #[] }, { accessFlags := 25, nameIndex := 284, descriptorIndex := 25, attributes := #[] }, { accessFlags := 25, nameIndex := 286, descriptorIndex := 25, attributes := #[] }, { accessFlags := 25, nameIndex := 288, descriptorIndex := 25, attributes := #[] }, { accessFlags := 25, nameIndex := 290, descriptorIndex := 25, attributes := #[] }, { accessFlags := 25, nameIndex := 292, descriptorIndex := 25, attributes := #[] }, { accessFlags := 26, nameIndex := 108, descriptorIndex := 109, attributes := #[] }, { accessFlags := 25, nameIndex := 294, descriptorIndex := 25, attributes := #[] }])
  fields := #[{ name := "U", type := (.object "jdk/internal/misc/Unsafe"), accessFlags := 24, slot := 0, constantValue := 0 }, { name := "BIG_ENDIAN", type := .boolean, accessFlags := 26, slot := 1, constantValue := 0 }, { name := "LOG2_ARRAY_BOOLEAN_INDEX_SCALE", type := .int, accessFlags := 25, slot := 2, constantValue := 0 }, { name := "LOG2_ARRAY_BYTE_INDEX_SCALE", type := .int, accessFlags := 25, slot := 3, constantValue := 0 }, { name := "LOG2_ARRAY_CHAR_INDEX_SCALE", type := .int, accessFlags := 25, slot := 4, constantValue := 0 }, { name := "LOG2_ARRAY_SHORT_INDEX_SCALE", type := .int, accessFlags := 25, slot := 5, constantValue := 0 }, { name := "LOG2_ARRAY_INT_INDEX_SCALE", type := .int, accessFlags := 25, slot := 6, constantValue := 0 }, { name := "LOG2_ARRAY_LONG_INDEX_SCALE", type := .int, accessFlags := 25, slot := 7, constantValue := 0 }, { name := "LOG2_ARRAY_FLOAT_INDEX_SCALE", type := .int, accessFlags := 25, slot := 8, constantValue := 0 }, { name := "LOG2_ARRAY_DOUBLE_INDEX_SCALE", type := .int, accessFlags := 25, slot := 9, constantValue := 0 }, { name := "LOG2_BYTE_BIT_SIZE", type := .int, accessFlags := 26, slot := 10, constantValue := 0 }, { name := "T_BOOLEAN", type := .int, accessFlags := 25, slot := 11, constantValue := 0 }, { name := "T_CHAR", type := .int, accessFlags := 25, slot := 12, constantValue := 0 }, { name := "T_FLOAT", type := .int, accessFlags := 25, slot := 13, constantValue := 0 }, { name := "T_DOUBLE", type := .int, accessFlags := 25, slot := 14, constantValue := 0 }, { name := "T_BYTE", type := .int, accessFlags := 25, slot := 15, constantValue := 0 }, { name := "T_SHORT", type := .int, accessFlags := 25, slot := 16, constantValue := 0 }, { name := "T_INT", type := .int, accessFlags := 25, slot := 17, constantValue := 0 }, { name := "T_LONG", type := .int, accessFlags := 25, slot := 18, constantValue := 0 }, { name := "JLA", type := (.object "jdk/internal/access/JavaLangAccess"), accessFlags := 26, slot := 19, constantValue := 0 }, { name := "SOFT_MAX_ARRAY_LENGTH", type := .int, accessFlags := 25, slot := 20, constantValue := 0 }]
  methods := #[k24m0]
  instanceTypes := #[]
  staticTypes := #[(.object "jdk/internal/misc/Unsafe"), .boolean, .int, .int, .int, .int, .int, .int, .int, .int, .int, .int, .int, .int, .int, .int, .int, .int, .int, (.object "jdk/internal/access/JavaLangAccess"), .int]
  resolved := Array.replicate 378 none
  statics := none }

/-- the primitive byte -/
def k25 : Class := { plain "byte" none with kind := .primitive 'B', accessFlags := 0x411 }
/-- [B -/
def k26 : Class := { plain "[B" (some 0) with kind := .array 25 .byte, interfaces := #[11, 2], accessFlags := 1041 }

/-- the primitive char -/
def k27 : Class := { plain "char" none with kind := .primitive 'C', accessFlags := 0x411 }
/-- [C -/
def k28 : Class := { plain "[C" (some 0) with kind := .array 27 .char, interfaces := #[11, 2], accessFlags := 1041 }

/-- the primitive int -/
def k29 : Class := { plain "int" none with kind := .primitive 'I', accessFlags := 0x411 }
/-- [I -/
def k30 : Class := { plain "[I" (some 0) with kind := .array 29 .int, interfaces := #[11, 2], accessFlags := 1041 }

def heap : Heap := #[{ cls := 7, slots := #[.long 0, .int 1, .null, .int 0, .null, .int 0, .int 0], vm := .statics 7 },
  { cls := 12, slots := #[.null, .null, .null, .null, .null, .null, .null, .null, .null, .null, .null, .null, .null, .null, .null, .null, .null, .null, .ref 4, .null, .null, .null, .null, .int 0, .int 0, .long 0, .int 0, .int 0, .int 0, .int 0, .int 0, .int 0, .null, .null, .null, .null, .null, .null, .int 0], vm := .statics 12 },
  { cls := 15, slots := #[.null, .null, .ref 8, .null, .null], vm := .statics 15 },
  { cls := 20, slots := #[.null, .null, .null], vm := .statics 20 },
  { cls := 12, slots := #[.ref 5, .null, .int 0, .null], vm := .none },
  { cls := 23, slots := #[.ref 6, .null, .null, .null, .int 0], vm := .none },
  { cls := 7, slots := #[.ref 7, .int 0, .int 0, .int 0], vm := .none },
  { cls := 26, slots := #[], vm := .none },
  { cls := 15, slots := #[], vm := .none }]
def classes : Array Class := #[k0, k1, k2, k3, k4, k5, k6, k7, k8, k9, k10, k11, k12, k13, k14, k15, k16, k17, k18, k19, k20, k21, k22, k23, k24, k25, k26, k27, k28, k29, k30]
def interned : List (Array UInt16 × Addr) := []
def slotsUsed : Nat := 67
def theMethod : MethodId := ⟨1, 1⟩
def args0 : Array Value := #[.int 65, .int 98, .int 99, .int 45, .int 48, .int 5]
def aboutOver (below : List Frame) : State where
  vm := { classes := classes, interned := interned.toArray }
  heap := heap
  slotsUsed := slotsUsed
  threads := #[{ frames := .invoking theMethod args0 :: below }]
def below0 : List Frame := [.native { method := ⟨0, 0⟩, args := #[] }]
def about1 : State := aboutOver below0
def p0 : Program := .bare "" "" ""
def e0 : Env := launch0.env 0 0 0
theorem w_frames : about1.frames = Frame.invoking theMethod args0 :: below0 := rfl
set_option maxRecDepth 65536 in
theorem w_args : argsFit about1.vm theMethod args0 = true := by decide +kernel
set_option maxRecDepth 65536 in
theorem w_heap : heapFits about1 = true := by decide +kernel
set_option maxRecDepth 65536 in
theorem w_runnable : about1.curStatus? = some .runnable := by decide +kernel
set_option maxRecDepth 65536 in
theorem w_alone : about1.alone = true := by decide +kernel
set_option maxRecDepth 65536 in
theorem w_named : about1.methodNamed? x = some theMethod := by decide +kernel
set_option maxRecDepth 65536 in
theorem w_hears : about1.hears theMethod below0 = true := by decide +kernel
set_option maxRecDepth 65536 in
theorem w_ripe : about1.ripe theMethod args0 below0 = true := by decide +kernel
theorem w_running : about1.status = .running := rfl
set_option maxRecDepth 65536 in
theorem w_room : about1.hasRoom e0.platform room_1 = true :=
  launch0.hasRoom_least _ room_1 (by decide +kernel) (by decide +kernel) (by decide +kernel) (by decide +kernel) (by decide +kernel) (by decide +kernel)
theorem allAtoms_all (ts : List Jvm.Cond) (a : Array Jvm.Value) (st : Jvm.State) : (allAtoms ts).before a st = ts.all (fun c => c.before a st) := by
  induction ts with
  | nil => rfl
  | cons c t ih =>
    show (Jvm.Cond.and c (allAtoms t)).before a st = _
    rw [Jvm.Cond.before_and, ih, List.all_cons]
def words1 : List Jvm.Cond := Jvm.Cond.code x code maxLocals ret :: tables_1
/-- a 'code' word, met by the world's own term for the bytes: nothing is compared byte by byte -/
theorem code_word {y : MethodName} {bytes : ByteArray} {mx : Nat} {rt : Option FieldType} {a : Array Value} {s : State} {m : MethodId} {meth : Method} {c : Code} (h1 : s.methodNamed? y = some m) (h2 : s.vm.method? m = some meth) (h3 : meth.code = some c) (h4 : c.code = bytes)
    (h5 : (c.maxLocals == mx && c.exceptionTable.isEmpty && decide (c.maxStack ≤ mostOperands) && decide (meth.sig.returnType = rt) && !meth.locks && decide (parseMethodDescriptor y.desc = some meth.sig)) = true) : (Jvm.Cond.code y bytes mx rt).before a s = true := by
  simp only [Bool.and_eq_true, beq_iff_eq, Bool.not_eq_true', decide_eq_true_eq] at h5
  obtain ⟨⟨⟨⟨⟨g1, g2⟩, g3⟩, g4⟩, g5⟩, g6⟩ := h5
  simp [Cond.before, Cond.holds, Cond.value, h1, h2, h3, h4, g1, g2, g3, g4, g5, g6]
def isCode : Jvm.Cond → Bool
  | .code _ _ _ _ => true
  | _ => false
theorem all_split {L : List Jvm.Cond} {P : Jvm.Cond → Bool} (h1 : L.all (fun c => isCode c || P c) = true) (h2 : ∀ c ∈ L.filter isCode, P c = true) : L.all P = true := by
  refine List.all_eq_true.mpr fun c hc => ?_
  have h := List.all_eq_true.mp h1 c hc
  rcases Bool.eq_false_or_eq_true (isCode c) with hi | hi
  · exact h2 c (List.mem_filter.mpr ⟨hc, hi⟩)
  · simpa [hi] using h
set_option maxRecDepth 65536 in
theorem w_c0 : (Jvm.Cond.code x code maxLocals ret).before args0 about1 = true := code_word (m := ⟨1, 1⟩) (meth := k1m1) (c := k1c1) (by decide +kernel) rfl rfl rfl (by decide +kernel)
set_option maxRecDepth 65536 in
theorem w_c1 : (Jvm.Cond.code ({ cls := "java/lang/String", name := "<init>", desc := "([C)V" } : Jvm.MethodName) jdk_42_method_3_code (2 : Nat) (Option.none : Option Jvm.ClassFile.FieldType)).before args0 about1 = true := code_word (m := ⟨7, 1⟩) (meth := k7m1) (c := k7c1) (by decide +kernel) rfl rfl rfl (by decide +kernel)
set_option maxRecDepth 65536 in
theorem w_c2 : (Jvm.Cond.code ({ cls := "java/lang/String", name := "<init>", desc := "([CIILjava/lang/Void;)V" } : Jvm.MethodName) jdk_42_method_149_code (6 : Nat) (Option.none : Option Jvm.ClassFile.FieldType)).before args0 about1 = true := code_word (m := ⟨7, 7⟩) (meth := k7m7) (c := k7c7) (by decide +kernel) rfl rfl rfl (by decide +kernel)
set_option maxRecDepth 65536 in
theorem w_c3 : (Jvm.Cond.code ({ cls := "java/lang/Object", name := "<init>", desc := "()V" } : Jvm.MethodName) object_method_1_code (1 : Nat) (Option.none : Option Jvm.ClassFile.FieldType)).before args0 about1 = true := code_word (m := ⟨0, 0⟩) (meth := k0m0) (c := k0c0) (by decide +kernel) rfl rfl rfl (by decide +kernel)
set_option maxRecDepth 65536 in
theorem w_c4 : (Jvm.Cond.code ({ cls := "java/lang/StringUTF16", name := "compress", desc := "([CII)[B" } : Jvm.MethodName) jdk_52_method_16_code (6 : Nat) (Option.some (Jvm.ClassFile.FieldType.array Jvm.ClassFile.FieldType.byte))).before args0 about1 = true := code_word (m := ⟨8, 2⟩) (meth := k8m2) (c := k8c2) (by decide +kernel) rfl rfl rfl (by decide +kernel)
set_option maxRecDepth 65536 in
theorem w_c5 : (Jvm.Cond.code ({ cls := "java/lang/StringUTF16", name := "compress", desc := "([CI[BII)I" } : Jvm.MethodName) jdk_52_method_21_code (7 : Nat) (Option.some Jvm.ClassFile.FieldType.int)).before args0 about1 = true := code_word (m := ⟨8, 3⟩) (meth := k8m3) (c := k8c3) (by decide +kernel) rfl rfl rfl (by decide +kernel)
set_option maxRecDepth 65536 in
theorem w_c6 : (Jvm.Cond.code ({ cls := "java/lang/StringUTF16", name := "coderFromArrayLen", desc := "([BI)B" } : Jvm.MethodName) jdk_52_method_15_code (2 : Nat) (Option.some Jvm.ClassFile.FieldType.byte)).before args0 about1 = true := code_word (m := ⟨8, 1⟩) (meth := k8m1) (c := k8c1) (by decide +kernel) rfl rfl rfl (by decide +kernel)
set_option maxRecDepth 65536 in
theorem w_c7 : (Jvm.Cond.code ({ cls := "com/example/obieg/obieg/ChoiceId", name := "of", desc := "(Ljava/lang/String;)Ljava/lang/String;" } : Jvm.MethodName) prog_3_method_2_code (6 : Nat) (Option.some (Jvm.ClassFile.FieldType.object "java/lang/String"))).before args0 about1 = true := code_word (m := ⟨9, 1⟩) (meth := k9m1) (c := k9c1) (by decide +kernel) rfl rfl rfl (by decide +kernel)
set_option maxRecDepth 65536 in
theorem w_c8 : (Jvm.Cond.code ({ cls := "java/util/Objects", name := "requireNonNull", desc := "(Ljava/lang/Object;Ljava/lang/String;)Ljava/lang/Object;" } : Jvm.MethodName) jdk_31_method_11_code (2 : Nat) (Option.some (Jvm.ClassFile.FieldType.object "java/lang/Object"))).before args0 about1 = true := code_word (m := ⟨10, 1⟩) (meth := k10m1) (c := k10c1) (by decide +kernel) rfl rfl rfl (by decide +kernel)
set_option maxRecDepth 65536 in
theorem w_c9 : (Jvm.Cond.code ({ cls := "java/lang/String", name := "toLowerCase", desc := "(Ljava/util/Locale;)Ljava/lang/String;" } : Jvm.MethodName) jdk_42_method_109_code (2 : Nat) (Option.some (Jvm.ClassFile.FieldType.object "java/lang/String"))).before args0 about1 = true := code_word (m := ⟨7, 5⟩) (meth := k7m5) (c := k7c5) (by decide +kernel) rfl rfl rfl (by decide +kernel)
set_option maxRecDepth 65536 in
theorem w_c10 : (Jvm.Cond.code ({ cls := "java/lang/String", name := "isLatin1", desc := "()Z" } : Jvm.MethodName) jdk_42_method_154_code (1 : Nat) (Option.some Jvm.ClassFile.FieldType.boolean)).before args0 about1 = true := code_word (m := ⟨7, 11⟩) (meth := k7m11) (c := k7c11) (by decide +kernel) rfl rfl rfl (by decide +kernel)
set_option maxRecDepth 65536 in
theorem w_c11 : (Jvm.Cond.code ({ cls := "java/lang/StringLatin1", name := "toLowerCase", desc := "(Ljava/lang/String;[BLjava/util/Locale;)Ljava/lang/String;" } : Jvm.MethodName) jdk_43_method_32_code (9 : Nat) (Option.some (Jvm.ClassFile.FieldType.object "java/lang/String"))).before args0 about1 = true := code_word (m := ⟨13, 4⟩) (meth := k13m4) (c := k13c4) (by decide +kernel) rfl rfl rfl (by decide +kernel)
set_option maxRecDepth 65536 in
theorem w_c12 : (Jvm.Cond.code ({ cls := "java/lang/CharacterDataLatin1", name := "toLowerCase", desc := "(I)I" } : Jvm.MethodName) jdk_116_method_20_code (3 : Nat) (Option.some Jvm.ClassFile.FieldType.int)).before args0 about1 = true := code_word (m := ⟨15, 0⟩) (meth := k15m0) (c := k15c0) (by decide +kernel) rfl rfl rfl (by decide +kernel)
set_option maxRecDepth 65536 in
theorem w_c13 : (Jvm.Cond.code ({ cls := "java/lang/String", name := "length", desc := "()I" } : Jvm.MethodName) jdk_42_method_54_code (1 : Nat) (Option.some Jvm.ClassFile.FieldType.int)).before args0 about1 = true := code_word (m := ⟨7, 3⟩) (meth := k7m3) (c := k7c3) (by decide +kernel) rfl rfl rfl (by decide +kernel)
set_option maxRecDepth 65536 in
theorem w_c14 : (Jvm.Cond.code ({ cls := "java/lang/String", name := "coder", desc := "()B" } : Jvm.MethodName) jdk_42_method_152_code (1 : Nat) (Option.some Jvm.ClassFile.FieldType.byte)).before args0 about1 = true := code_word (m := ⟨7, 10⟩) (meth := k7m10) (c := k7c10) (by decide +kernel) rfl rfl rfl (by decide +kernel)
set_option maxRecDepth 65536 in
theorem w_c15 : (Jvm.Cond.code ({ cls := "java/lang/StringBuilder", name := "<init>", desc := "(I)V" } : Jvm.MethodName) jdk_67_method_2_code (2 : Nat) (Option.none : Option Jvm.ClassFile.FieldType)).before args0 about1 = true := code_word (m := ⟨18, 1⟩) (meth := k18m1) (c := k18c1) (by decide +kernel) rfl rfl rfl (by decide +kernel)
set_option maxRecDepth 65536 in
theorem w_c16 : (Jvm.Cond.code ({ cls := "java/lang/AbstractStringBuilder", name := "<init>", desc := "(I)V" } : Jvm.MethodName) jdk_68_method_2_code (2 : Nat) (Option.none : Option Jvm.ClassFile.FieldType)).before args0 about1 = true := code_word (m := ⟨17, 1⟩) (meth := k17m1) (c := k17c1) (by decide +kernel) rfl rfl rfl (by decide +kernel)
set_option maxRecDepth 65536 in
theorem w_c17 : (Jvm.Cond.code ({ cls := "java/lang/StringBuilder", name := "append", desc := "(Ljava/lang/String;)Ljava/lang/StringBuilder;" } : Jvm.MethodName) jdk_67_method_7_code (2 : Nat) (Option.some (Jvm.ClassFile.FieldType.object "java/lang/StringBuilder"))).before args0 about1 = true := code_word (m := ⟨18, 2⟩) (meth := k18m2) (c := k18c2) (by decide +kernel) rfl rfl rfl (by decide +kernel)
set_option maxRecDepth 65536 in
theorem w_c18 : (Jvm.Cond.code ({ cls := "java/lang/AbstractStringBuilder", name := "append", desc := "(Ljava/lang/String;)Ljava/lang/AbstractStringBuilder;" } : Jvm.MethodName) jdk_68_method_22_code (3 : Nat) (Option.some (Jvm.ClassFile.FieldType.object "java/lang/AbstractStringBuilder"))).before args0 about1 = true := code_word (m := ⟨17, 4⟩) (meth := k17m4) (c := k17c4) (by decide +kernel) rfl rfl rfl (by decide +kernel)
set_option maxRecDepth 65536 in
theorem w_c19 : (Jvm.Cond.code ({ cls := "java/lang/AbstractStringBuilder", name := "ensureCapacityInternal", desc := "(I)V" } : Jvm.MethodName) jdk_68_method_9_code (3 : Nat) (Option.none : Option Jvm.ClassFile.FieldType)).before args0 about1 = true := code_word (m := ⟨17, 3⟩) (meth := k17m3) (c := k17c3) (by decide +kernel) rfl rfl rfl (by decide +kernel)
set_option maxRecDepth 65536 in
theorem w_c20 : (Jvm.Cond.code ({ cls := "java/lang/AbstractStringBuilder", name := "putStringAt", desc := "(ILjava/lang/String;)V" } : Jvm.MethodName) jdk_68_method_73_code (3 : Nat) (Option.none : Option Jvm.ClassFile.FieldType)).before args0 about1 = true := code_word (m := ⟨17, 9⟩) (meth := k17m9) (c := k17c9) (by decide +kernel) rfl rfl rfl (by decide +kernel)
set_option maxRecDepth 65536 in
theorem w_c21 : (Jvm.Cond.code ({ cls := "java/lang/AbstractStringBuilder", name := "inflateIfNeededFor", desc := "(Ljava/lang/String;)V" } : Jvm.MethodName) jdk_68_method_71_code (2 : Nat) (Option.none : Option Jvm.ClassFile.FieldType)).before args0 about1 = true := code_word (m := ⟨17, 8⟩) (meth := k17m8) (c := k17c8) (by decide +kernel) rfl rfl rfl (by decide +kernel)
set_option maxRecDepth 65536 in
theorem w_c22 : (Jvm.Cond.code ({ cls := "java/lang/String", name := "getBytes", desc := "([BIB)V" } : Jvm.MethodName) jdk_42_method_147_code (4 : Nat) (Option.none : Option Jvm.ClassFile.FieldType)).before args0 about1 = true := code_word (m := ⟨7, 6⟩) (meth := k7m6) (c := k7c6) (by decide +kernel) rfl rfl rfl (by decide +kernel)
set_option maxRecDepth 65536 in
theorem w_c23 : (Jvm.Cond.code ({ cls := "java/lang/String", name := "charAt", desc := "(I)C" } : Jvm.MethodName) jdk_42_method_56_code (2 : Nat) (Option.some Jvm.ClassFile.FieldType.char)).before args0 about1 = true := code_word (m := ⟨7, 4⟩) (meth := k7m4) (c := k7c4) (by decide +kernel) rfl rfl rfl (by decide +kernel)
set_option maxRecDepth 65536 in
theorem w_c24 : (Jvm.Cond.code ({ cls := "java/lang/StringLatin1", name := "charAt", desc := "([BI)C" } : Jvm.MethodName) jdk_43_method_2_code (2 : Nat) (Option.some Jvm.ClassFile.FieldType.char)).before args0 about1 = true := code_word (m := ⟨13, 1⟩) (meth := k13m1) (c := k13c1) (by decide +kernel) rfl rfl rfl (by decide +kernel)
set_option maxRecDepth 65536 in
theorem w_c25 : (Jvm.Cond.code ({ cls := "java/lang/String", name := "checkIndex", desc := "(II)V" } : Jvm.MethodName) jdk_42_method_155_code (2 : Nat) (Option.none : Option Jvm.ClassFile.FieldType)).before args0 about1 = true := code_word (m := ⟨7, 12⟩) (meth := k7m12) (c := k7c12) (by decide +kernel) rfl rfl rfl (by decide +kernel)
set_option maxRecDepth 65536 in
theorem w_c26 : (Jvm.Cond.code ({ cls := "jdk/internal/util/Preconditions", name := "checkIndex", desc := "(IILjava/util/function/BiFunction;)I" } : Jvm.MethodName) jdk_41_method_11_code (3 : Nat) (Option.some Jvm.ClassFile.FieldType.int)).before args0 about1 = true := code_word (m := ⟨20, 1⟩) (meth := k20m1) (c := k20c1) (by decide +kernel) rfl rfl rfl (by decide +kernel)
set_option maxRecDepth 65536 in
theorem w_c27 : (Jvm.Cond.code ({ cls := "java/lang/StringBuilder", name := "toString", desc := "()Ljava/lang/String;" } : Jvm.MethodName) jdk_67_method_42_code (1 : Nat) (Option.some (Jvm.ClassFile.FieldType.object "java/lang/String"))).before args0 about1 = true := code_word (m := ⟨18, 4⟩) (meth := k18m4) (c := k18c4) (by decide +kernel) rfl rfl rfl (by decide +kernel)
set_option maxRecDepth 65536 in
theorem w_c28 : (Jvm.Cond.code ({ cls := "java/lang/String", name := "<init>", desc := "(Ljava/lang/StringBuilder;)V" } : Jvm.MethodName) jdk_42_method_53_code (2 : Nat) (Option.none : Option Jvm.ClassFile.FieldType)).before args0 about1 = true := code_word (m := ⟨7, 2⟩) (meth := k7m2) (c := k7c2) (by decide +kernel) rfl rfl rfl (by decide +kernel)
set_option maxRecDepth 65536 in
theorem w_c29 : (Jvm.Cond.code ({ cls := "java/lang/String", name := "<init>", desc := "(Ljava/lang/AbstractStringBuilder;Ljava/lang/Void;)V" } : Jvm.MethodName) jdk_42_method_150_code (5 : Nat) (Option.none : Option Jvm.ClassFile.FieldType)).before args0 about1 = true := code_word (m := ⟨7, 8⟩) (meth := k7m8) (c := k7c8) (by decide +kernel) rfl rfl rfl (by decide +kernel)
set_option maxRecDepth 65536 in
theorem w_c30 : (Jvm.Cond.code ({ cls := "java/lang/AbstractStringBuilder", name := "getValue", desc := "()[B" } : Jvm.MethodName) jdk_68_method_64_code (1 : Nat) (Option.some (Jvm.ClassFile.FieldType.array Jvm.ClassFile.FieldType.byte))).before args0 about1 = true := code_word (m := ⟨17, 6⟩) (meth := k17m6) (c := k17c6) (by decide +kernel) rfl rfl rfl (by decide +kernel)
set_option maxRecDepth 65536 in
theorem w_c31 : (Jvm.Cond.code ({ cls := "java/lang/StringBuilder", name := "length", desc := "()I" } : Jvm.MethodName) jdk_67_method_93_code (1 : Nat) (Option.some Jvm.ClassFile.FieldType.int)).before args0 about1 = true := code_word (m := ⟨18, 5⟩) (meth := k18m5) (c := k18c5) (by decide +kernel) rfl rfl rfl (by decide +kernel)
set_option maxRecDepth 65536 in
theorem w_c32 : (Jvm.Cond.code ({ cls := "java/lang/AbstractStringBuilder", name := "length", desc := "()I" } : Jvm.MethodName) jdk_68_method_6_code (1 : Nat) (Option.some Jvm.ClassFile.FieldType.int)).before args0 about1 = true := code_word (m := ⟨17, 2⟩) (meth := k17m2) (c := k17c2) (by decide +kernel) rfl rfl rfl (by decide +kernel)
set_option maxRecDepth 65536 in
theorem w_c33 : (Jvm.Cond.code ({ cls := "java/lang/AbstractStringBuilder", name := "isLatin1", desc := "()Z" } : Jvm.MethodName) jdk_68_method_68_code (1 : Nat) (Option.some Jvm.ClassFile.FieldType.boolean)).before args0 about1 = true := code_word (m := ⟨17, 7⟩) (meth := k17m7) (c := k17c7) (by decide +kernel) rfl rfl rfl (by decide +kernel)
set_option maxRecDepth 65536 in
theorem w_c34 : (Jvm.Cond.code ({ cls := "java/util/Arrays", name := "copyOfRange", desc := "([BII)[B" } : Jvm.MethodName) jdk_65_method_132_code (3 : Nat) (Option.some (Jvm.ClassFile.FieldType.array Jvm.ClassFile.FieldType.byte))).before args0 about1 = true := code_word (m := ⟨21, 2⟩) (meth := k21m2) (c := k21c2) (by decide +kernel) rfl rfl rfl (by decide +kernel)
set_option maxRecDepth 65536 in
theorem w_c35 : (Jvm.Cond.code ({ cls := "java/util/Arrays", name := "copyOfRangeByte", desc := "([BII)[B" } : Jvm.MethodName) jdk_65_method_133_code (5 : Nat) (Option.some (Jvm.ClassFile.FieldType.array Jvm.ClassFile.FieldType.byte))).before args0 about1 = true := code_word (m := ⟨21, 3⟩) (meth := k21m3) (c := k21c3) (by decide +kernel) rfl rfl rfl (by decide +kernel)
set_option maxRecDepth 65536 in
theorem w_c36 : (Jvm.Cond.code ({ cls := "java/util/Arrays", name := "checkLength", desc := "(II)V" } : Jvm.MethodName) jdk_65_method_131_code (2 : Nat) (Option.none : Option Jvm.ClassFile.FieldType)).before args0 about1 = true := code_word (m := ⟨21, 1⟩) (meth := k21m1) (c := k21c1) (by decide +kernel) rfl rfl rfl (by decide +kernel)
set_option maxRecDepth 65536 in
theorem w_c37 : (Jvm.Cond.code ({ cls := "java/lang/Math", name := "min", desc := "(II)I" } : Jvm.MethodName) jdk_29_method_69_code (2 : Nat) (Option.some Jvm.ClassFile.FieldType.int)).before args0 about1 = true := code_word (m := ⟨22, 1⟩) (meth := k22m1) (c := k22c1) (by decide +kernel) rfl rfl rfl (by decide +kernel)
set_option maxRecDepth 65536 in
theorem w_c38 : (Jvm.Cond.code ({ cls := "com/example/obieg/obieg/ChoiceIdOfPinLaw", name := "put", desc := "([CII[CI)I" } : Jvm.MethodName) method_5_code (6 : Nat) (Option.some Jvm.ClassFile.FieldType.int)).before args0 about1 = true := code_word (m := ⟨1, 4⟩) (meth := k1m4) (c := k1c4) (by decide +kernel) rfl rfl rfl (by decide +kernel)
set_option maxRecDepth 65536 in
theorem w_c39 : (Jvm.Cond.code ({ cls := "com/example/obieg/obieg/ChoiceIdOfPinLaw", name := "kept", desc := "(C)Z" } : Jvm.MethodName) method_3_code (1 : Nat) (Option.some Jvm.ClassFile.FieldType.boolean)).before args0 about1 = true := code_word (m := ⟨1, 2⟩) (meth := k1m2) (c := k1c2) (by decide +kernel) rfl rfl rfl (by decide +kernel)
set_option maxRecDepth 65536 in
theorem w_c40 : (Jvm.Cond.code ({ cls := "com/example/obieg/obieg/ChoiceIdOfPinLaw", name := "eq", desc := "(Ljava/lang/String;[CII)Z" } : Jvm.MethodName) method_6_code (4 : Nat) (Option.some Jvm.ClassFile.FieldType.boolean)).before args0 about1 = true := code_word (m := ⟨1, 5⟩) (meth := k1m5) (c := k1c5) (by decide +kernel) rfl rfl rfl (by decide +kernel)
set_option maxRecDepth 65536 in
theorem w_c41 : (Jvm.Cond.code ({ cls := "java/lang/StringBuilder", name := "append", desc := "(C)Ljava/lang/StringBuilder;" } : Jvm.MethodName) jdk_67_method_14_code (2 : Nat) (Option.some (Jvm.ClassFile.FieldType.object "java/lang/StringBuilder"))).before args0 about1 = true := code_word (m := ⟨18, 3⟩) (meth := k18m3) (c := k18c3) (by decide +kernel) rfl rfl rfl (by decide +kernel)
set_option maxRecDepth 65536 in
theorem w_c42 : (Jvm.Cond.code ({ cls := "java/lang/AbstractStringBuilder", name := "append", desc := "(C)Ljava/lang/AbstractStringBuilder;" } : Jvm.MethodName) jdk_68_method_31_code (2 : Nat) (Option.some (Jvm.ClassFile.FieldType.object "java/lang/AbstractStringBuilder"))).before args0 about1 = true := code_word (m := ⟨17, 5⟩) (meth := k17m5) (c := k17c5) (by decide +kernel) rfl rfl rfl (by decide +kernel)
set_option maxRecDepth 65536 in
theorem w_c43 : (Jvm.Cond.code ({ cls := "java/lang/StringLatin1", name := "canEncode", desc := "(C)Z" } : Jvm.MethodName) jdk_43_method_3_code (1 : Nat) (Option.some Jvm.ClassFile.FieldType.boolean)).before args0 about1 = true := code_word (m := ⟨13, 2⟩) (meth := k13m2) (c := k13c2) (by decide +kernel) rfl rfl rfl (by decide +kernel)
set_option maxRecDepth 65536 in
theorem w_c44 : (Jvm.Cond.code ({ cls := "com/example/obieg/obieg/ChoiceIdOfPinLaw", name := "lower", desc := "(C)C" } : Jvm.MethodName) method_4_code (1 : Nat) (Option.some Jvm.ClassFile.FieldType.char)).before args0 about1 = true := code_word (m := ⟨1, 3⟩) (meth := k1m3) (c := k1c3) (by decide +kernel) rfl rfl rfl (by decide +kernel)
set_option maxRecDepth 65536 in
theorem w_c45 : (Jvm.Cond.code ({ cls := "java/util/Locale", name := "getLanguage", desc := "()Ljava/lang/String;" } : Jvm.MethodName) jdk_2628_method_27_code (1 : Nat) (Option.some (Jvm.ClassFile.FieldType.object "java/lang/String"))).before args0 about1 = true := code_word (m := ⟨12, 0⟩) (meth := k12m0) (c := k12c0) (by decide +kernel) rfl rfl rfl (by decide +kernel)
set_option maxRecDepth 65536 in
theorem w_c46 : (Jvm.Cond.code ({ cls := "sun/util/locale/BaseLocale", name := "getLanguage", desc := "()Ljava/lang/String;" } : Jvm.MethodName) jdk_3003_method_5_code (1 : Nat) (Option.some (Jvm.ClassFile.FieldType.object "java/lang/String"))).before args0 about1 = true := code_word (m := ⟨23, 0⟩) (meth := k23m0) (c := k23c0) (by decide +kernel) rfl rfl rfl (by decide +kernel)
set_option maxRecDepth 65536 in
theorem w_c47 : (Jvm.Cond.code ({ cls := "java/lang/StringLatin1", name := "canEncode", desc := "(I)Z" } : Jvm.MethodName) jdk_43_method_4_code (1 : Nat) (Option.some Jvm.ClassFile.FieldType.boolean)).before args0 about1 = true := code_word (m := ⟨13, 3⟩) (meth := k13m3) (c := k13c3) (by decide +kernel) rfl rfl rfl (by decide +kernel)
set_option maxRecDepth 65536 in
theorem w_c48 : (Jvm.Cond.code ({ cls := "java/lang/String", name := "<init>", desc := "([BB)V" } : Jvm.MethodName) jdk_42_method_151_code (3 : Nat) (Option.none : Option Jvm.ClassFile.FieldType)).before args0 about1 = true := code_word (m := ⟨7, 9⟩) (meth := k7m9) (c := k7c9) (by decide +kernel) rfl rfl rfl (by decide +kernel)
def codes1 : List Jvm.Cond := [Jvm.Cond.code x code maxLocals ret, Jvm.Cond.code ({ cls := "java/lang/String", name := "<init>", desc := "([C)V" } : Jvm.MethodName) jdk_42_method_3_code (2 : Nat) (Option.none : Option Jvm.ClassFile.FieldType), Jvm.Cond.code ({ cls := "java/lang/String", name := "<init>", desc := "([CIILjava/lang/Void;)V" } : Jvm.MethodName) jdk_42_method_149_code (6 : Nat) (Option.none : Option Jvm.ClassFile.FieldType), Jvm.Cond.code ({ cls := "java/lang/Object", name := "<init>", desc := "()V" } : Jvm.MethodName) object_method_1_code (1 : Nat) (Option.none : Option Jvm.ClassFile.FieldType), Jvm.Cond.code ({ cls := "java/lang/StringUTF16", name := "compress", desc := "([CII)[B" } : Jvm.MethodName) jdk_52_method_16_code (6 : Nat) (Option.some (Jvm.ClassFile.FieldType.array Jvm.ClassFile.FieldType.byte)), Jvm.Cond.code ({ cls := "java/lang/StringUTF16", name := "compress", desc := "([CI[BII)I" } : Jvm.MethodName) jdk_52_method_21_code (7 : Nat) (Option.some Jvm.ClassFile.FieldType.int), Jvm.Cond.code ({ cls := "java/lang/StringUTF16", name := "coderFromArrayLen", desc := "([BI)B" } : Jvm.MethodName) jdk_52_method_15_code (2 : Nat) (Option.some Jvm.ClassFile.FieldType.byte), Jvm.Cond.code ({ cls := "com/example/obieg/obieg/ChoiceId", name := "of", desc := "(Ljava/lang/String;)Ljava/lang/String;" } : Jvm.MethodName) prog_3_method_2_code (6 : Nat) (Option.some (Jvm.ClassFile.FieldType.object "java/lang/String")), Jvm.Cond.code ({ cls := "java/util/Objects", name := "requireNonNull", desc := "(Ljava/lang/Object;Ljava/lang/String;)Ljava/lang/Object;" } : Jvm.MethodName) jdk_31_method_11_code (2 : Nat) (Option.some (Jvm.ClassFile.FieldType.object "java/lang/Object")), Jvm.Cond.code ({ cls := "java/lang/String", name := "toLowerCase", desc := "(Ljava/util/Locale;)Ljava/lang/String;" } : Jvm.MethodName) jdk_42_method_109_code (2 : Nat) (Option.some (Jvm.ClassFile.FieldType.object "java/lang/String")), Jvm.Cond.code ({ cls := "java/lang/String", name := "isLatin1", desc := "()Z" } : Jvm.MethodName) jdk_42_method_154_code (1 : Nat) (Option.some Jvm.ClassFile.FieldType.boolean), Jvm.Cond.code ({ cls := "java/lang/StringLatin1", name := "toLowerCase", desc := "(Ljava/lang/String;[BLjava/util/Locale;)Ljava/lang/String;" } : Jvm.MethodName) jdk_43_method_32_code (9 : Nat) (Option.some (Jvm.ClassFile.FieldType.object "java/lang/String")), Jvm.Cond.code ({ cls := "java/lang/CharacterDataLatin1", name := "toLowerCase", desc := "(I)I" } : Jvm.MethodName) jdk_116_method_20_code (3 : Nat) (Option.some Jvm.ClassFile.FieldType.int), Jvm.Cond.code ({ cls := "java/lang/String", name := "length", desc := "()I" } : Jvm.MethodName) jdk_42_method_54_code (1 : Nat) (Option.some Jvm.ClassFile.FieldType.int), Jvm.Cond.code ({ cls := "java/lang/String", name := "coder", desc := "()B" } : Jvm.MethodName) jdk_42_method_152_code (1 : Nat) (Option.some Jvm.ClassFile.FieldType.byte), Jvm.Cond.code ({ cls := "java/lang/StringBuilder", name := "<init>", desc := "(I)V" } : Jvm.MethodName) jdk_67_method_2_code (2 : Nat) (Option.none : Option Jvm.ClassFile.FieldType), Jvm.Cond.code ({ cls := "java/lang/AbstractStringBuilder", name := "<init>", desc := "(I)V" } : Jvm.MethodName) jdk_68_method_2_code (2 : Nat) (Option.none : Option Jvm.ClassFile.FieldType), Jvm.Cond.code ({ cls := "java/lang/StringBuilder", name := "append", desc := "(Ljava/lang/String;)Ljava/lang/StringBuilder;" } : Jvm.MethodName) jdk_67_method_7_code (2 : Nat) (Option.some (Jvm.ClassFile.FieldType.object "java/lang/StringBuilder")), Jvm.Cond.code ({ cls := "java/lang/AbstractStringBuilder", name := "append", desc := "(Ljava/lang/String;)Ljava/lang/AbstractStringBuilder;" } : Jvm.MethodName) jdk_68_method_22_code (3 : Nat) (Option.some (Jvm.ClassFile.FieldType.object "java/lang/AbstractStringBuilder")), Jvm.Cond.code ({ cls := "java/lang/AbstractStringBuilder", name := "ensureCapacityInternal", desc := "(I)V" } : Jvm.MethodName) jdk_68_method_9_code (3 : Nat) (Option.none : Option Jvm.ClassFile.FieldType), Jvm.Cond.code ({ cls := "java/lang/AbstractStringBuilder", name := "putStringAt", desc := "(ILjava/lang/String;)V" } : Jvm.MethodName) jdk_68_method_73_code (3 : Nat) (Option.none : Option Jvm.ClassFile.FieldType), Jvm.Cond.code ({ cls := "java/lang/AbstractStringBuilder", name := "inflateIfNeededFor", desc := "(Ljava/lang/String;)V" } : Jvm.MethodName) jdk_68_method_71_code (2 : Nat) (Option.none : Option Jvm.ClassFile.FieldType), Jvm.Cond.code ({ cls := "java/lang/String", name := "getBytes", desc := "([BIB)V" } : Jvm.MethodName) jdk_42_method_147_code (4 : Nat) (Option.none : Option Jvm.ClassFile.FieldType), Jvm.Cond.code ({ cls := "java/lang/String", name := "charAt", desc := "(I)C" } : Jvm.MethodName) jdk_42_method_56_code (2 : Nat) (Option.some Jvm.ClassFile.FieldType.char), Jvm.Cond.code ({ cls := "java/lang/StringLatin1", name := "charAt", desc := "([BI)C" } : Jvm.MethodName) jdk_43_method_2_code (2 : Nat) (Option.some Jvm.ClassFile.FieldType.char), Jvm.Cond.code ({ cls := "java/lang/String", name := "checkIndex", desc := "(II)V" } : Jvm.MethodName) jdk_42_method_155_code (2 : Nat) (Option.none : Option Jvm.ClassFile.FieldType), Jvm.Cond.code ({ cls := "jdk/internal/util/Preconditions", name := "checkIndex", desc := "(IILjava/util/function/BiFunction;)I" } : Jvm.MethodName) jdk_41_method_11_code (3 : Nat) (Option.some Jvm.ClassFile.FieldType.int), Jvm.Cond.code ({ cls := "java/lang/StringBuilder", name := "toString", desc := "()Ljava/lang/String;" } : Jvm.MethodName) jdk_67_method_42_code (1 : Nat) (Option.some (Jvm.ClassFile.FieldType.object "java/lang/String")), Jvm.Cond.code ({ cls := "java/lang/String", name := "<init>", desc := "(Ljava/lang/StringBuilder;)V" } : Jvm.MethodName) jdk_42_method_53_code (2 : Nat) (Option.none : Option Jvm.ClassFile.FieldType), Jvm.Cond.code ({ cls := "java/lang/String", name := "<init>", desc := "(Ljava/lang/AbstractStringBuilder;Ljava/lang/Void;)V" } : Jvm.MethodName) jdk_42_method_150_code (5 : Nat) (Option.none : Option Jvm.ClassFile.FieldType), Jvm.Cond.code ({ cls := "java/lang/AbstractStringBuilder", name := "getValue", desc := "()[B" } : Jvm.MethodName) jdk_68_method_64_code (1 : Nat) (Option.some (Jvm.ClassFile.FieldType.array Jvm.ClassFile.FieldType.byte)), Jvm.Cond.code ({ cls := "java/lang/StringBuilder", name := "length", desc := "()I" } : Jvm.MethodName) jdk_67_method_93_code (1 : Nat) (Option.some Jvm.ClassFile.FieldType.int), Jvm.Cond.code ({ cls := "java/lang/AbstractStringBuilder", name := "length", desc := "()I" } : Jvm.MethodName) jdk_68_method_6_code (1 : Nat) (Option.some Jvm.ClassFile.FieldType.int), Jvm.Cond.code ({ cls := "java/lang/AbstractStringBuilder", name := "isLatin1", desc := "()Z" } : Jvm.MethodName) jdk_68_method_68_code (1 : Nat) (Option.some Jvm.ClassFile.FieldType.boolean), Jvm.Cond.code ({ cls := "java/util/Arrays", name := "copyOfRange", desc := "([BII)[B" } : Jvm.MethodName) jdk_65_method_132_code (3 : Nat) (Option.some (Jvm.ClassFile.FieldType.array Jvm.ClassFile.FieldType.byte)), Jvm.Cond.code ({ cls := "java/util/Arrays", name := "copyOfRangeByte", desc := "([BII)[B" } : Jvm.MethodName) jdk_65_method_133_code (5 : Nat) (Option.some (Jvm.ClassFile.FieldType.array Jvm.ClassFile.FieldType.byte)), Jvm.Cond.code ({ cls := "java/util/Arrays", name := "checkLength", desc := "(II)V" } : Jvm.MethodName) jdk_65_method_131_code (2 : Nat) (Option.none : Option Jvm.ClassFile.FieldType), Jvm.Cond.code ({ cls := "java/lang/Math", name := "min", desc := "(II)I" } : Jvm.MethodName) jdk_29_method_69_code (2 : Nat) (Option.some Jvm.ClassFile.FieldType.int), Jvm.Cond.code ({ cls := "com/example/obieg/obieg/ChoiceIdOfPinLaw", name := "put", desc := "([CII[CI)I" } : Jvm.MethodName) method_5_code (6 : Nat) (Option.some Jvm.ClassFile.FieldType.int), Jvm.Cond.code ({ cls := "com/example/obieg/obieg/ChoiceIdOfPinLaw", name := "kept", desc := "(C)Z" } : Jvm.MethodName) method_3_code (1 : Nat) (Option.some Jvm.ClassFile.FieldType.boolean), Jvm.Cond.code ({ cls := "com/example/obieg/obieg/ChoiceIdOfPinLaw", name := "eq", desc := "(Ljava/lang/String;[CII)Z" } : Jvm.MethodName) method_6_code (4 : Nat) (Option.some Jvm.ClassFile.FieldType.boolean), Jvm.Cond.code ({ cls := "java/lang/StringBuilder", name := "append", desc := "(C)Ljava/lang/StringBuilder;" } : Jvm.MethodName) jdk_67_method_14_code (2 : Nat) (Option.some (Jvm.ClassFile.FieldType.object "java/lang/StringBuilder")), Jvm.Cond.code ({ cls := "java/lang/AbstractStringBuilder", name := "append", desc := "(C)Ljava/lang/AbstractStringBuilder;" } : Jvm.MethodName) jdk_68_method_31_code (2 : Nat) (Option.some (Jvm.ClassFile.FieldType.object "java/lang/AbstractStringBuilder")), Jvm.Cond.code ({ cls := "java/lang/StringLatin1", name := "canEncode", desc := "(C)Z" } : Jvm.MethodName) jdk_43_method_3_code (1 : Nat) (Option.some Jvm.ClassFile.FieldType.boolean), Jvm.Cond.code ({ cls := "com/example/obieg/obieg/ChoiceIdOfPinLaw", name := "lower", desc := "(C)C" } : Jvm.MethodName) method_4_code (1 : Nat) (Option.some Jvm.ClassFile.FieldType.char), Jvm.Cond.code ({ cls := "java/util/Locale", name := "getLanguage", desc := "()Ljava/lang/String;" } : Jvm.MethodName) jdk_2628_method_27_code (1 : Nat) (Option.some (Jvm.ClassFile.FieldType.object "java/lang/String")), Jvm.Cond.code ({ cls := "sun/util/locale/BaseLocale", name := "getLanguage", desc := "()Ljava/lang/String;" } : Jvm.MethodName) jdk_3003_method_5_code (1 : Nat) (Option.some (Jvm.ClassFile.FieldType.object "java/lang/String")), Jvm.Cond.code ({ cls := "java/lang/StringLatin1", name := "canEncode", desc := "(I)Z" } : Jvm.MethodName) jdk_43_method_4_code (1 : Nat) (Option.some Jvm.ClassFile.FieldType.boolean), Jvm.Cond.code ({ cls := "java/lang/String", name := "<init>", desc := "([BB)V" } : Jvm.MethodName) jdk_42_method_151_code (3 : Nat) (Option.none : Option Jvm.ClassFile.FieldType)]
set_option maxRecDepth 65536 in
theorem codes_eq : words1.filter isCode = codes1 := rfl
theorem w_codes : ∀ c ∈ words1.filter isCode, c.before args0 about1 = true := by
  rw [codes_eq]
  intro c hc
  simp only [codes1, List.mem_cons, List.not_mem_nil, or_false] at hc
  rcases hc with rfl | rfl | rfl | rfl | rfl | rfl | rfl | rfl | rfl | rfl | rfl | rfl | rfl | rfl | rfl | rfl | rfl | rfl | rfl | rfl | rfl | rfl | rfl | rfl | rfl | rfl | rfl | rfl | rfl | rfl | rfl | rfl | rfl | rfl | rfl | rfl | rfl | rfl | rfl | rfl | rfl | rfl | rfl | rfl | rfl | rfl | rfl | rfl | rfl
  · exact w_c0
  · exact w_c1
  · exact w_c2
  · exact w_c3
  · exact w_c4
  · exact w_c5
  · exact w_c6
  · exact w_c7
  · exact w_c8
  · exact w_c9
  · exact w_c10
  · exact w_c11
  · exact w_c12
  · exact w_c13
  · exact w_c14
  · exact w_c15
  · exact w_c16
  · exact w_c17
  · exact w_c18
  · exact w_c19
  · exact w_c20
  · exact w_c21
  · exact w_c22
  · exact w_c23
  · exact w_c24
  · exact w_c25
  · exact w_c26
  · exact w_c27
  · exact w_c28
  · exact w_c29
  · exact w_c30
  · exact w_c31
  · exact w_c32
  · exact w_c33
  · exact w_c34
  · exact w_c35
  · exact w_c36
  · exact w_c37
  · exact w_c38
  · exact w_c39
  · exact w_c40
  · exact w_c41
  · exact w_c42
  · exact w_c43
  · exact w_c44
  · exact w_c45
  · exact w_c46
  · exact w_c47
  · exact w_c48
set_option maxRecDepth 65536 in
theorem w_t1 : (words1.take 24).all (fun c => isCode c || c.before args0 about1) = true := by decide +kernel
set_option maxRecDepth 65536 in
theorem w_t2 : ((words1.drop 24).take 24).all (fun c => isCode c || c.before args0 about1) = true := by decide +kernel
set_option maxRecDepth 65536 in
theorem w_t3 : (((words1.drop 24).drop 24).take 24).all (fun c => isCode c || c.before args0 about1) = true := by decide +kernel
set_option maxRecDepth 65536 in
theorem w_t4 : ((((words1.drop 24).drop 24).drop 24).take 24).all (fun c => isCode c || c.before args0 about1) = true := by decide +kernel
set_option maxRecDepth 65536 in
theorem w_t5 : (((((words1.drop 24).drop 24).drop 24).drop 24).take 24).all (fun c => isCode c || c.before args0 about1) = true := by decide +kernel
set_option maxRecDepth 65536 in
theorem w_t6 : ((((((words1.drop 24).drop 24).drop 24).drop 24).drop 24).take 24).all (fun c => isCode c || c.before args0 about1) = true := by decide +kernel
set_option maxRecDepth 65536 in
theorem w_t7 : (((((((words1.drop 24).drop 24).drop 24).drop 24).drop 24).drop 24).take 24).all (fun c => isCode c || c.before args0 about1) = true := by decide +kernel
set_option maxRecDepth 65536 in
theorem w_t8 : ((((((((words1.drop 24).drop 24).drop 24).drop 24).drop 24).drop 24).drop 24).take 24).all (fun c => isCode c || c.before args0 about1) = true := by decide +kernel
set_option maxRecDepth 65536 in
theorem w_t9 : (((((((((words1.drop 24).drop 24).drop 24).drop 24).drop 24).drop 24).drop 24).drop 24).take 24).all (fun c => isCode c || c.before args0 about1) = true := by decide +kernel
set_option maxRecDepth 65536 in
theorem w_t10 : ((((((((((words1.drop 24).drop 24).drop 24).drop 24).drop 24).drop 24).drop 24).drop 24).drop 24).take 24).all (fun c => isCode c || c.before args0 about1) = true := by decide +kernel
set_option maxRecDepth 65536 in
theorem w_t11 : ((((((((((words1.drop 24).drop 24).drop 24).drop 24).drop 24).drop 24).drop 24).drop 24).drop 24).drop 24).all (fun c => isCode c || c.before args0 about1) = true := by decide +kernel
theorem w_tables : (allAtoms (Jvm.Cond.code x code maxLocals ret :: tables_1)).before args0 about1 = true := by
  rw [allAtoms_all]
  show words1.all (fun c => c.before args0 about1) = true
  refine all_split ?_ w_codes
  rw [← List.take_append_drop 24 words1, List.all_append, w_t1, ← List.take_append_drop 24 (words1.drop 24), List.all_append, w_t2, ← List.take_append_drop 24 ((words1.drop 24).drop 24), List.all_append, w_t3, ← List.take_append_drop 24 (((words1.drop 24).drop 24).drop 24), List.all_append, w_t4, ← List.take_append_drop 24 ((((words1.drop 24).drop 24).drop 24).drop 24), List.all_append, w_t5, ← List.take_append_drop 24 (((((words1.drop 24).drop 24).drop 24).drop 24).drop 24), List.all_append, w_t6, ← List.take_append_drop 24 ((((((words1.drop 24).drop 24).drop 24).drop 24).drop 24).drop 24), List.all_append, w_t7, ← List.take_append_drop 24 (((((((words1.drop 24).drop 24).drop 24).drop 24).drop 24).drop 24).drop 24), List.all_append, w_t8, ← List.take_append_drop 24 ((((((((words1.drop 24).drop 24).drop 24).drop 24).drop 24).drop 24).drop 24).drop 24), List.all_append, w_t9, ← List.take_append_drop 24 (((((((((words1.drop 24).drop 24).drop 24).drop 24).drop 24).drop 24).drop 24).drop 24).drop 24), List.all_append, w_t10, w_t11]
  rfl
set_option maxRecDepth 65536 in
theorem w_rest : rest_1_c.before args0 about1 = true := by decide +kernel
set_option maxRecDepth 65536 in
theorem w_case : (Jvm.Cond.and given_1 narrow_1).before args0 about1 = true := by decide +kernel
set_option maxRecDepth 65536 in
theorem w_consts : constsHeld consts_1 about1 := Jvm.Lit.constsHeldB_iff.mp (by decide +kernel)
theorem w_applies : (headSpec (Jvm.Cond.code x code maxLocals ret :: tables_1) room_1).applies x e0.platform about1 = true :=
  (Spec.applies_iff w_frames).mpr ⟨w_running, w_runnable, w_alone, w_named, w_hears, w_ripe, w_room, w_tables⟩
theorem atStart : AtStart classFile x code maxLocals ret World_1 tables_1 room_1 Calls_1 rest_1 Pre_1 launch0 p0 e0 about1 theMethod args0 below0 :=
  ⟨lists_1, trivial, launch0.admits_env _ _ _, launch0.least_env, fairChoices_fair.cas, fairChoices_fair.clock, w_frames, w_args, w_heap, w_applies, ⟨w_consts, trivial⟩, w_rest, w_case⟩
end start1
theorem witness_1 : WitnessClaimed_1 := ⟨start1.p0, start1.e0, start1.about1, start1.theMethod, start1.args0, start1.below0, start1.atStart⟩
end Jvm.Pilot.@@N@@
