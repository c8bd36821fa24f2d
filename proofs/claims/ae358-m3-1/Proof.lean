import JvmDerived
import JvmDerived.Pilot.@@N@@Statement
import JvmDerived.Pilot.@@N@@Code
set_option linter.unusedVariables false
set_option linter.unusedSimpArgs false
namespace Jvm.RoadKit
open Sem ClassFile Op Lib Jvm.Stand Jvm.Free Jvm.LawKit
section New
variable {p : Program} {l : Launch} {e : Env} {R : Room} {s : State} {m : MethodId} {args : Array Value} {below : List Frame} {meth : Method} {c : Code} {T : State} {locs : List Loc} {cells slots : Nat}
theorem retI (X : Stand p l e R s m args below meth c T locs cells slots) (hx : p.tables.exec = Jvm.exec) {pc : Nat} {Ls : Array Slot} {z : Int32} {rest : List Value} (hret : meth.sig.returnType = some .int) (hd : decode c.code pc = .ok (.ireturn, 1)) {fs : List Frame}
    (hl : ∀ (f : JFrame) (acts : List Action), f.method = m → f.locked = none → f.entered = [] → (doReturn e (T.setTop f) acts (some (.int z))).1 = T.setFrames fs) : Steps p.tables e below (T.setTop (mkF m pc Ls (.int z :: rest))) (T.setFrames fs) := by
  have hm' : T.vm.method? m = some meth := X.method'
  have hn : narrow .int (.int z) = .int z := rfl
  show Steps p.tables e below (T.setTop { method := m, pc := pc, locals := Ls, stack := _ :: rest, locked := none }) _
  jvm_step X.here [X.here.top, hx, hd, hm', hret, hn]
  first | (intro acts; rw [hl _ acts rfl rfl rfl]) | rw [hl _ _ rfl rfl rfl]
  exact Steps.refl _
end New
end Jvm.RoadKit
namespace Jvm.Pilot.@@N@@
open Jvm Jvm.ClassFile Sem Op Lib Jvm.Free Jvm.Stand Jvm.LawKit Jvm.RoadKit Bundle Jvm.Pilot.@@N@@.Jvm.D
set_option maxRecDepth 65536
set_option maxHeartbeats 40000000
abbrev HW (a0 : Array Value) (Z : State) : Prop := ∀ d ∈ tables_1, d.before a0 Z = true
abbrev MF (l : Launch) (Z : State) (y : MethodName) (b : ByteArray) (n : Nat) (t : Option FieldType) (ws : List Jvm.Cond) (R : Room) (A : Array Value) (h0 : Heap) (Q : Option Value → Heap → List Loc → Prop) : Prop := MetFree l y (head1 (Jvm.Cond.code y b n t :: ws) R) (fun a U => a = A ∧ Z.Warmed39 U.vm ∧ U.heap = h0) (fun _ _ _ _ _ => True) (fun _ U o U' => ∃ v L, o = .returned v ∧ Q v U'.heap L ∧ FrameEnd U o U' L R.cells R.slots)
abbrev MW (l : Launch) (Z : State) (y : MethodName) (b : ByteArray) (n : Nat) (t : Option FieldType) (ws : List Jvm.Cond) (R : Room) (A : Array Value) (h0 : Heap) (Q : Option Value → Heap → List Loc → Prop) : Prop := MetFree l y (head1 (Jvm.Cond.code y b n t :: ws) R) (fun a U => a = A ∧ Z.Warmed39 U.vm ∧ U.heap = h0) (fun _ _ _ _ _ => True) (fun _ U o U' => ∃ v L, o = .returned v ∧ Q v U'.heap L ∧ ReturnedEndW U o U' L R.cells R.slots)
theorem o_iload {tb : Tables} [Ours tb] {e : Env} {below : List Frame} {T target : State} {m : MethodId} {c : Code} {pc : Nat} {ls : Array Slot} {st : List Value} {k : Nat} {v : Int32} (j : At T m c below ∧ tb.exec = Jvm.exec) (hd : decode c.code pc = .ok (.iload k, 2)) (hl : ls[k]? = some (.val (.int v))) (hr : Steps tb e below (T.setTop (mkF m (pc + 2) ls (.int v :: st))) target) : Steps tb e below (T.setTop (mkF m pc ls st)) target := XS.iload (g := mkF m pc ls st) j.1 j.2 rfl hd hl hr
theorem o_iloadN {tb : Tables} [Ours tb] {e : Env} {below : List Frame} {T target : State} {m : MethodId} {c : Code} {pc : Nat} {ls : Array Slot} {st : List Value} {k : Fin 4} {v : Int32} (j : At T m c below ∧ tb.exec = Jvm.exec) (hd : decode c.code pc = .ok (.iload_n k, 1)) (hl : ls[k.val]? = some (.val (.int v))) (hr : Steps tb e below (T.setTop (mkF m (pc + 1) ls (.int v :: st))) target) : Steps tb e below (T.setTop (mkF m pc ls st)) target := XS.iloadN (g := mkF m pc ls st) j.1 j.2 rfl hd hl hr
theorem o_istore {tb : Tables} [Ours tb] {e : Env} {below : List Frame} {T target : State} {m : MethodId} {c : Code} {pc : Nat} {ls : Array Slot} {st : List Value} {k : Nat} {x : Int32} {l' : Array Slot} (j : At T m c below ∧ tb.exec = Jvm.exec) (hd : decode c.code pc = .ok (.istore k, 2)) (hl : storeLocals ls k (.int x) = some l') (hr : Steps tb e below (T.setTop (mkF m (pc + 2) l' st)) target) : Steps tb e below (T.setTop (mkF m pc ls (.int x :: st))) target := XS.istore (g := mkF m pc ls (.int x :: st)) j.1 j.2 rfl hd rfl hl hr
theorem o_istoreN {tb : Tables} [Ours tb] {e : Env} {below : List Frame} {T target : State} {m : MethodId} {c : Code} {pc : Nat} {ls : Array Slot} {st : List Value} {k : Fin 4} {x : Int32} {l' : Array Slot} (j : At T m c below ∧ tb.exec = Jvm.exec) (hd : decode c.code pc = .ok (.istore_n k, 1)) (hl : storeLocals ls k.val (.int x) = some l') (hr : Steps tb e below (T.setTop (mkF m (pc + 1) l' st)) target) : Steps tb e below (T.setTop (mkF m pc ls (.int x :: st))) target := XS.istoreN (g := mkF m pc ls (.int x :: st)) j.1 j.2 rfl hd rfl hl hr
theorem o_aload {tb : Tables} [Ours tb] {e : Env} {below : List Frame} {T target : State} {m : MethodId} {c : Code} {pc : Nat} {ls : Array Slot} {st : List Value} {k : Nat} {v : Value} (j : At T m c below ∧ tb.exec = Jvm.exec) (hd : decode c.code pc = .ok (.aload k, 2)) (hl : ls[k]? = some (.val v)) (hv : v.isRef = true) (hr : Steps tb e below (T.setTop (mkF m (pc + 2) ls (v :: st))) target) : Steps tb e below (T.setTop (mkF m pc ls st)) target := XS.aload (g := mkF m pc ls st) j.1 j.2 rfl hd hl hv hr
theorem o_aloadN {tb : Tables} [Ours tb] {e : Env} {below : List Frame} {T target : State} {m : MethodId} {c : Code} {pc : Nat} {ls : Array Slot} {st : List Value} {k : Fin 4} {v : Value} (j : At T m c below ∧ tb.exec = Jvm.exec) (hd : decode c.code pc = .ok (.aload_n k, 1)) (hl : ls[k.val]? = some (.val v)) (hv : v.isRef = true) (hr : Steps tb e below (T.setTop (mkF m (pc + 1) ls (v :: st))) target) : Steps tb e below (T.setTop (mkF m pc ls st)) target := XS.aloadN (g := mkF m pc ls st) j.1 j.2 rfl hd hl hv hr
theorem o_astore {tb : Tables} [Ours tb] {e : Env} {below : List Frame} {T target : State} {m : MethodId} {c : Code} {pc : Nat} {ls : Array Slot} {st : List Value} {k : Nat} {x : Value} {l' : Array Slot} (j : At T m c below ∧ tb.exec = Jvm.exec) (hd : decode c.code pc = .ok (.astore k, 2)) (hv : x.isRef = true) (hl : storeLocals ls k x = some l') (hr : Steps tb e below (T.setTop (mkF m (pc + 2) l' st)) target) : Steps tb e below (T.setTop (mkF m pc ls (x :: st))) target := XS.astore (g := mkF m pc ls (x :: st)) j.1 j.2 rfl hd rfl hv hl hr
theorem o_astoreN {tb : Tables} [Ours tb] {e : Env} {below : List Frame} {T target : State} {m : MethodId} {c : Code} {pc : Nat} {ls : Array Slot} {st : List Value} {k : Fin 4} {x : Value} {l' : Array Slot} (j : At T m c below ∧ tb.exec = Jvm.exec) (hd : decode c.code pc = .ok (.astore_n k, 1)) (hv : x.isRef = true) (hl : storeLocals ls k.val x = some l') (hr : Steps tb e below (T.setTop (mkF m (pc + 1) l' st)) target) : Steps tb e below (T.setTop (mkF m pc ls (x :: st))) target := XS.astoreN (g := mkF m pc ls (x :: st)) j.1 j.2 rfl hd rfl hv hl hr
theorem o_iconstV {tb : Tables} [Ours tb] {e : Env} {below : List Frame} {T target : State} {m : MethodId} {c : Code} {pc : Nat} {ls : Array Slot} {st : List Value} {i : Int} (j : At T m c below ∧ tb.exec = Jvm.exec) (v : Int32) (hd : decode c.code pc = .ok (.iconst i, 1)) (hv : Int32.ofInt i = v) (hr : Steps tb e below (T.setTop (mkF m (pc + 1) ls (.int v :: st))) target) : Steps tb e below (T.setTop (mkF m pc ls st)) target := XT.iconstV (g := mkF m pc ls st) j.1 j.2 rfl v hd hv hr
theorem o_bipushV {tb : Tables} [Ours tb] {e : Env} {below : List Frame} {T target : State} {m : MethodId} {c : Code} {pc : Nat} {ls : Array Slot} {st : List Value} {i : Int} (j : At T m c below ∧ tb.exec = Jvm.exec) (v : Int32) (hd : decode c.code pc = .ok (.bipush i, 2)) (hv : (Int8.ofInt i).toInt32 = v) (hr : Steps tb e below (T.setTop (mkF m (pc + 2) ls (.int v :: st))) target) : Steps tb e below (T.setTop (mkF m pc ls st)) target := XT.bipushV (g := mkF m pc ls st) j.1 j.2 rfl v hd hv hr
theorem o_sipushV {tb : Tables} [Ours tb] {e : Env} {below : List Frame} {T target : State} {m : MethodId} {c : Code} {pc : Nat} {ls : Array Slot} {st : List Value} {i : Int} (j : At T m c below ∧ tb.exec = Jvm.exec) (v : Int32) (hd : decode c.code pc = .ok (.sipush i, 3)) (hv : (Int16.ofInt i).toInt32 = v) (hr : Steps tb e below (T.setTop (mkF m (pc + 3) ls (.int v :: st))) target) : Steps tb e below (T.setTop (mkF m pc ls st)) target := XT.sipushV (g := mkF m pc ls st) j.1 j.2 rfl v hd hv hr
theorem o_aconstNull {tb : Tables} [Ours tb] {e : Env} {below : List Frame} {T target : State} {m : MethodId} {c : Code} {pc : Nat} {ls : Array Slot} {st : List Value} (j : At T m c below ∧ tb.exec = Jvm.exec) (hd : decode c.code pc = .ok (.aconst_null, 1)) (hr : Steps tb e below (T.setTop (mkF m (pc + 1) ls (.null :: st))) target) : Steps tb e below (T.setTop (mkF m pc ls st)) target := XS.aconstNull (g := mkF m pc ls st) j.1 j.2 rfl hd hr
theorem o_iadd {tb : Tables} [Ours tb] {e : Env} {below : List Frame} {T target : State} {m : MethodId} {c : Code} {pc : Nat} {ls : Array Slot} {st : List Value} {x y : Int32} (j : At T m c below ∧ tb.exec = Jvm.exec) (hd : decode c.code pc = .ok (.iadd, 1)) (hr : Steps tb e below (T.setTop (mkF m (pc + 1) ls (.int (x + y) :: st))) target) : Steps tb e below (T.setTop (mkF m pc ls (.int y :: .int x :: st))) target := XS.iadd (g := mkF m pc ls (.int y :: .int x :: st)) j.1 j.2 rfl hd rfl hr
theorem o_isub {tb : Tables} [Ours tb] {e : Env} {below : List Frame} {T target : State} {m : MethodId} {c : Code} {pc : Nat} {ls : Array Slot} {st : List Value} {x y : Int32} (j : At T m c below ∧ tb.exec = Jvm.exec) (hd : decode c.code pc = .ok (.isub, 1)) (hr : Steps tb e below (T.setTop (mkF m (pc + 1) ls (.int (x - y) :: st))) target) : Steps tb e below (T.setTop (mkF m pc ls (.int y :: .int x :: st))) target := XS.isub (g := mkF m pc ls (.int y :: .int x :: st)) j.1 j.2 rfl hd rfl hr
theorem o_imul {tb : Tables} [Ours tb] {e : Env} {below : List Frame} {T target : State} {m : MethodId} {c : Code} {pc : Nat} {ls : Array Slot} {st : List Value} {x y : Int32} (j : At T m c below ∧ tb.exec = Jvm.exec) (hd : decode c.code pc = .ok (.imul, 1)) (hr : Steps tb e below (T.setTop (mkF m (pc + 1) ls (.int (x * y) :: st))) target) : Steps tb e below (T.setTop (mkF m pc ls (.int y :: .int x :: st))) target := XS.imul (g := mkF m pc ls (.int y :: .int x :: st)) j.1 j.2 rfl hd rfl hr
theorem o_iand {tb : Tables} [Ours tb] {e : Env} {below : List Frame} {T target : State} {m : MethodId} {c : Code} {pc : Nat} {ls : Array Slot} {st : List Value} {x y : Int32} (j : At T m c below ∧ tb.exec = Jvm.exec) (hd : decode c.code pc = .ok (.iand, 1)) (hr : Steps tb e below (T.setTop (mkF m (pc + 1) ls (.int (x &&& y) :: st))) target) : Steps tb e below (T.setTop (mkF m pc ls (.int y :: .int x :: st))) target := XS.iand (g := mkF m pc ls (.int y :: .int x :: st)) j.1 j.2 rfl hd rfl hr
theorem o_ior {tb : Tables} [Ours tb] {e : Env} {below : List Frame} {T target : State} {m : MethodId} {c : Code} {pc : Nat} {ls : Array Slot} {st : List Value} {x y : Int32} (j : At T m c below ∧ tb.exec = Jvm.exec) (hd : decode c.code pc = .ok (.ior, 1)) (hr : Steps tb e below (T.setTop (mkF m (pc + 1) ls (.int (x ||| y) :: st))) target) : Steps tb e below (T.setTop (mkF m pc ls (.int y :: .int x :: st))) target := XT.ior (g := mkF m pc ls (.int y :: .int x :: st)) j.1 j.2 rfl hd rfl hr
theorem o_ishl {tb : Tables} [Ours tb] {e : Env} {below : List Frame} {T target : State} {m : MethodId} {c : Code} {pc : Nat} {ls : Array Slot} {st : List Value} {x y : Int32} (j : At T m c below ∧ tb.exec = Jvm.exec) (hd : decode c.code pc = .ok (.ishl, 1)) (hr : Steps tb e below (T.setTop (mkF m (pc + 1) ls (.int (x <<< (y &&& 31)) :: st))) target) : Steps tb e below (T.setTop (mkF m pc ls (.int y :: .int x :: st))) target := XT.ishl (g := mkF m pc ls (.int y :: .int x :: st)) j.1 j.2 rfl hd rfl hr
theorem o_ishr {tb : Tables} [Ours tb] {e : Env} {below : List Frame} {T target : State} {m : MethodId} {c : Code} {pc : Nat} {ls : Array Slot} {st : List Value} {x y : Int32} (j : At T m c below ∧ tb.exec = Jvm.exec) (hd : decode c.code pc = .ok (.ishr, 1)) (hr : Steps tb e below (T.setTop (mkF m (pc + 1) ls (.int (x >>> (y &&& 31)) :: st))) target) : Steps tb e below (T.setTop (mkF m pc ls (.int y :: .int x :: st))) target := XT.ishr (g := mkF m pc ls (.int y :: .int x :: st)) j.1 j.2 rfl hd rfl hr
theorem o_iushr {tb : Tables} [Ours tb] {e : Env} {below : List Frame} {T target : State} {m : MethodId} {c : Code} {pc : Nat} {ls : Array Slot} {st : List Value} {x y : Int32} (j : At T m c below ∧ tb.exec = Jvm.exec) (hd : decode c.code pc = .ok (.iushr, 1)) (hr : Steps tb e below (T.setTop (mkF m (pc + 1) ls (.int (XT.ushr x y) :: st))) target) : Steps tb e below (T.setTop (mkF m pc ls (.int y :: .int x :: st))) target := XT.iushr (g := mkF m pc ls (.int y :: .int x :: st)) j.1 j.2 rfl hd rfl hr
theorem o_irem {tb : Tables} [Ours tb] {e : Env} {below : List Frame} {T target : State} {m : MethodId} {c : Code} {pc : Nat} {ls : Array Slot} {st : List Value} {x y : Int32} (j : At T m c below ∧ tb.exec = Jvm.exec) (hd : decode c.code pc = .ok (.irem, 1)) (hy : y ≠ 0) (hr : Steps tb e below (T.setTop (mkF m (pc + 1) ls (.int (x - (x / y) * y) :: st))) target) : Steps tb e below (T.setTop (mkF m pc ls (.int y :: .int x :: st))) target := XS.irem (g := mkF m pc ls (.int y :: .int x :: st)) j.1 j.2 rfl hd rfl hy hr
theorem o_i2b {tb : Tables} [Ours tb] {e : Env} {below : List Frame} {T target : State} {m : MethodId} {c : Code} {pc : Nat} {ls : Array Slot} {st : List Value} {x : Int32} (j : At T m c below ∧ tb.exec = Jvm.exec) (hd : decode c.code pc = .ok (.i2b, 1)) (hr : Steps tb e below (T.setTop (mkF m (pc + 1) ls (.int (x.toInt8.toInt32) :: st))) target) : Steps tb e below (T.setTop (mkF m pc ls (.int x :: st))) target := XT.i2b (g := mkF m pc ls (.int x :: st)) j.1 j.2 rfl hd rfl hr
theorem o_iincV {tb : Tables} [Ours tb] {e : Env} {below : List Frame} {T target : State} {m : MethodId} {c : Code} {pc : Nat} {ls : Array Slot} {st : List Value} {k : Nat} {cst : Int} {x : Int32} {l' : Array Slot} (j : At T m c below ∧ tb.exec = Jvm.exec) (v : Int32) (hd : decode c.code pc = .ok (.iinc k cst, 3)) (hv : Int32.ofInt cst = v) (hl : ls[k]? = some (.val (.int x))) (hl' : storeLocals ls k (.int (x + v)) = some l') (hr : Steps tb e below (T.setTop (mkF m (pc + 3) l' st)) target) : Steps tb e below (T.setTop (mkF m pc ls st)) target := XT.iincV (g := mkF m pc ls st) j.1 j.2 rfl v hd hv hl hl' hr
theorem o_dup {tb : Tables} [Ours tb] {e : Env} {below : List Frame} {T target : State} {m : MethodId} {c : Code} {pc : Nat} {ls : Array Slot} {st : List Value} {x : Value} (j : At T m c below ∧ tb.exec = Jvm.exec) (hd : decode c.code pc = .ok (.dup, 1)) (hc : x.category = 1) (hr : Steps tb e below (T.setTop (mkF m (pc + 1) ls (x :: x :: st))) target) : Steps tb e below (T.setTop (mkF m pc ls (x :: st))) target := XS.dup (g := mkF m pc ls (x :: st)) j.1 j.2 rfl hd rfl hc hr
theorem o_pop {tb : Tables} [Ours tb] {e : Env} {below : List Frame} {T target : State} {m : MethodId} {c : Code} {pc : Nat} {ls : Array Slot} {st : List Value} {x : Value} (j : At T m c below ∧ tb.exec = Jvm.exec) (hd : decode c.code pc = .ok (.pop, 1)) (hc : x.category = 1) (hr : Steps tb e below (T.setTop (mkF m (pc + 1) ls st)) target) : Steps tb e below (T.setTop (mkF m pc ls (x :: st))) target := XT.pop (g := mkF m pc ls (x :: st)) j.1 j.2 rfl hd rfl hc hr
theorem o_goto {tb : Tables} [Ours tb] {e : Env} {below : List Frame} {T target : State} {m : MethodId} {c : Code} {pc : Nat} {ls : Array Slot} {st : List Value} {o : Int} {pc' : Nat}  (j : At T m c below ∧ tb.exec = Jvm.exec) (hd : decode c.code pc = .ok (.goto o, 3)) (hr : Steps tb e below (T.setTop (mkF m pc' ls st)) target) (ho : 0 ≤ (pc : Int) + o := by decide) (hp : ((pc : Int) + o).toNat = pc' := by decide) : Steps tb e below (T.setTop (mkF m pc ls st)) target := XS.goto (g := mkF m pc ls st) j.1 j.2 rfl rfl hd ho hp hr
theorem o_ifYes {tb : Tables} [Ours tb] {e : Env} {below : List Frame} {T target : State} {m : MethodId} {c : Code} {pc : Nat} {ls : Array Slot} {st : List Value} {o : Int} {pc' : Nat} {cd : ClassFile.Cond} {x : Int32} (j : At T m c below ∧ tb.exec = Jvm.exec) (hd : decode c.code pc = .ok (.ifCond cd o, 3)) (hc : ifCond.holds cd x = true) (hr : Steps tb e below (T.setTop (mkF m pc' ls st)) target) (ho : 0 ≤ (pc : Int) + o := by decide) (hp : ((pc : Int) + o).toNat = pc' := by decide) : Steps tb e below (T.setTop (mkF m pc ls (.int x :: st))) target := XS.ifYes (g := mkF m pc ls (.int x :: st)) j.1 j.2 rfl rfl hd rfl hc ho hp hr
theorem o_ifNo {tb : Tables} [Ours tb] {e : Env} {below : List Frame} {T target : State} {m : MethodId} {c : Code} {pc : Nat} {ls : Array Slot} {st : List Value} {o : Int} {cd : ClassFile.Cond} {x : Int32} (j : At T m c below ∧ tb.exec = Jvm.exec) (hd : decode c.code pc = .ok (.ifCond cd o, 3)) (hc : ifCond.holds cd x = false) (hr : Steps tb e below (T.setTop (mkF m (pc + 3) ls st)) target) : Steps tb e below (T.setTop (mkF m pc ls (.int x :: st))) target := XS.ifNo (g := mkF m pc ls (.int x :: st)) j.1 j.2 rfl hd rfl hc hr
theorem o_icmpYes {tb : Tables} [Ours tb] {e : Env} {below : List Frame} {T target : State} {m : MethodId} {c : Code} {pc : Nat} {ls : Array Slot} {st : List Value} {o : Int} {pc' : Nat} {cd : ClassFile.Cond} {x y : Int32} (j : At T m c below ∧ tb.exec = Jvm.exec) (hd : decode c.code pc = .ok (.if_icmp cd o, 3)) (hc : if_icmp.holds cd x y = true) (hr : Steps tb e below (T.setTop (mkF m pc' ls st)) target) (ho : 0 ≤ (pc : Int) + o := by decide) (hp : ((pc : Int) + o).toNat = pc' := by decide) : Steps tb e below (T.setTop (mkF m pc ls (.int y :: .int x :: st))) target := XS.icmpYes (g := mkF m pc ls (.int y :: .int x :: st)) j.1 j.2 rfl rfl hd rfl hc ho hp hr
theorem o_icmpNo {tb : Tables} [Ours tb] {e : Env} {below : List Frame} {T target : State} {m : MethodId} {c : Code} {pc : Nat} {ls : Array Slot} {st : List Value} {o : Int} {cd : ClassFile.Cond} {x y : Int32} (j : At T m c below ∧ tb.exec = Jvm.exec) (hd : decode c.code pc = .ok (.if_icmp cd o, 3)) (hc : if_icmp.holds cd x y = false) (hr : Steps tb e below (T.setTop (mkF m (pc + 3) ls st)) target) : Steps tb e below (T.setTop (mkF m pc ls (.int y :: .int x :: st))) target := XS.icmpNo (g := mkF m pc ls (.int y :: .int x :: st)) j.1 j.2 rfl hd rfl hc hr
theorem o_ifnonnullYes {tb : Tables} [Ours tb] {e : Env} {below : List Frame} {T target : State} {m : MethodId} {c : Code} {pc : Nat} {ls : Array Slot} {st : List Value} {o : Int} {pc' : Nat} {b : Addr} (j : At T m c below ∧ tb.exec = Jvm.exec) (hd : decode c.code pc = .ok (.ifnonnull o, 3)) (hr : Steps tb e below (T.setTop (mkF m pc' ls st)) target) (ho : 0 ≤ (pc : Int) + o := by decide) (hp : ((pc : Int) + o).toNat = pc' := by decide) : Steps tb e below (T.setTop (mkF m pc ls (.ref b :: st))) target := XT.ifnonnullYes (g := mkF m pc ls (.ref b :: st)) j.1 j.2 rfl rfl hd rfl ho hp hr
theorem o_acmpNo {tb : Tables} [Ours tb] {e : Env} {below : List Frame} {T target : State} {m : MethodId} {c : Code} {pc : Nat} {ls : Array Slot} {st : List Value} {o : Int} {cd : ClassFile.ACond} {x y : Value} (j : At T m c below ∧ tb.exec = Jvm.exec) (hd : decode c.code pc = .ok (.if_acmp cd o, 3)) (hx' : x.isRef = true) (hy' : y.isRef = true) (hc : XT.acmp cd x y = false) (hr : Steps tb e below (T.setTop (mkF m (pc + 3) ls st)) target) : Steps tb e below (T.setTop (mkF m pc ls (y :: x :: st))) target := XT.acmpNo (g := mkF m pc ls (y :: x :: st)) j.1 j.2 rfl hd rfl hx' hy' hc hr
theorem own_irr (a : Int64) : ¬ a < a := by rw [Int64.lt_iff_toInt_lt]; omega
theorem own_asymm {a b : Int64} (h : a < b) : ¬ b < a := by
  rw [Int64.lt_iff_toInt_lt] at *; omega
theorem own_c3 (x : Int32) : x &&& 3 = 0 ∨ x &&& 3 = 1 ∨ x &&& 3 = 2 ∨ x &&& 3 = 3 := by
  have h := c_mask x 3 2 (by decide) (by decide)
  have e : ∀ k : Int32, (x &&& 3).toInt = k.toInt → x &&& 3 = k := fun k q => Int32.toInt_inj.mp q
  have h0 : (x &&& 3).toInt = 0 ∨ (x &&& 3).toInt = 1 ∨ (x &&& 3).toInt = 2 ∨ (x &&& 3).toInt = 3 := by omega
  rcases h0 with q | q | q | q
  · exact Or.inl (e 0 q)
  · exact Or.inr (Or.inl (e 1 q))
  · exact Or.inr (Or.inr (Or.inl (e 2 q)))
  · exact Or.inr (Or.inr (Or.inr (e 3 q)))
theorem own_strAtoms : ∀ d ∈ Bundle.stringAtoms, d ∈ tables_1 := by decide +kernel
def OCh (c : Int32) : Prop := 0 ≤ c.toInt ∧ c.toInt < 65536
def own_i2c (x : Int32) : Int32 := x.toUInt32.toUInt16.toUInt32.toInt32
theorem own_i2c_ch (x : Int32) : OCh (own_i2c x) := ⟨(c_i2c x).2.1, (c_i2c x).2.2⟩
theorem own_i2c_id {c : Int32} (h : OCh c) : c.toUInt32.toUInt16.toUInt32.toInt32 = c := by
  have q := c_i2c c
  obtain ⟨h1, h2⟩ := h
  exact Int32.toInt_inj.mp (by omega)
def own_pick (x m : Int32) : Int32 := if m = 1 then own_i2c (55296 ||| (x &&& 1023)) else if m = 2 then own_i2c (56320 ||| (x &&& 1023)) else own_i2c x
theorem own_pick_ch (x m : Int32) : OCh (own_pick x m) := by
  unfold own_pick; split
  · exact own_i2c_ch _
  · split
    · exact own_i2c_ch _
    · exact own_i2c_ch _
def own_b (x : Int32) : Int32 := x.toInt8.toInt32
theorem own_b_id (x : Int32) : (own_b x).toInt8.toInt32 = own_b x := by unfold own_b; simp
theorem own_b_neg {c : Int32} (h : OCh c) (g : ¬ (255 : Int32) < c) : (own_b c < 0) ↔ ¬ c < 128 := by
  have q := c_i2b c
  obtain ⟨h1, h2⟩ := h
  unfold own_b
  rw [Int32.lt_iff_toInt_lt] at g
  rw [Int32.lt_iff_toInt_lt, Int32.lt_iff_toInt_lt, show (0 : Int32).toInt = 0 from rfl, show (128 : Int32).toInt = 128 from rfl]
  rw [show (255 : Int32).toInt = 255 from rfl] at g
  omega
theorem own_b_255 {c : Int32} (h : OCh c) (g : ¬ (255 : Int32) < c) : own_b c &&& 255 = c := by
  have q := c_i2b c
  have r := c_mask (own_b c) 255 8 (by decide) (by decide)
  obtain ⟨h1, h2⟩ := h
  rw [Int32.lt_iff_toInt_lt, show (255 : Int32).toInt = 255 from rfl] at g
  refine Int32.toInt_inj.mp ?_
  unfold own_b at *
  omega
theorem own_b_63 (c : Int32) : own_b c &&& 63 = c &&& 63 := by
  have q := c_i2b c
  have r := c_mask (own_b c) 63 6 (by decide) (by decide)
  have t := c_mask c 63 6 (by decide) (by decide)
  refine Int32.toInt_inj.mp ?_
  unfold own_b at *
  omega
theorem own_b_small {c : Int32} (h : c < 128) (g : OCh c) : own_b c = c := by
  have q := c_i2b c
  obtain ⟨h1, h2⟩ := g
  rw [Int32.lt_iff_toInt_lt, show (128 : Int32).toInt = 128 from rfl] at h
  refine Int32.toInt_inj.mp ?_
  unfold own_b
  omega
def own_lo (c : Int32) : Int32 := own_b (c >>> ((0 : Int32) &&& 31))
def own_hi (c : Int32) : Int32 := own_b (c >>> ((8 : Int32) &&& 31))
theorem own_or {a b : Int32} (h1 : 0 ≤ a.toInt) (h2 : a.toInt < 256) (h3 : 0 ≤ b.toInt) (h4 : b.toInt < 256) : (a ||| (b <<< ((8 : Int32) &&& 31))).toInt = a.toInt + 256 * b.toInt := by
  have q := c_ishl b 8 8 (by decide)
  have r := rng32 (b <<< ((8 : Int32) &&& 31))
  have e : (b <<< ((8 : Int32) &&& 31)).toInt = 256 * b.toInt := by omega
  generalize b <<< ((8 : Int32) &&& 31) = d at *
  have n1 : ∀ z : Int32, 0 ≤ z.toInt → (z.toBitVec.toNat : Int) = z.toInt := fun z hz => by
    have : z.toInt = z.toBitVec.toInt := rfl
    rw [this] at hz ⊢
    rw [BitVec.toInt_eq_toNat_bmod] at hz ⊢
    have lt := z.toBitVec.isLt
    rw [Int.bmod_def] at hz ⊢
    split at hz <;> rename_i hs
    · rw [if_pos hs]; omega
    · omega
  have na := n1 a h1
  have nd := n1 d (by omega)
  have nb := n1 b h3
  have e1 : d.toBitVec.toNat = 2 ^ 8 * b.toBitVec.toNat := by omega
  have e2 : (a ||| d).toBitVec.toNat = 2 ^ 8 * b.toBitVec.toNat + a.toBitVec.toNat := by
    rw [Int32.toBitVec_or, BitVec.toNat_or, Nat.or_comm, e1, Nat.two_pow_add_eq_or_of_lt (by omega)]
  have lt : (a ||| d).toBitVec.toNat < 65536 := by omega
  have : (a ||| d).toInt = ((a ||| d).toBitVec.toNat : Int) := by
    show (a ||| d).toBitVec.toInt = _
    rw [BitVec.toInt_eq_toNat_of_lt (by omega)]
  rw [this, e2]; omega
theorem own_get {c : Int32} (h : OCh c) : own_i2c (((own_lo c &&& 255) <<< ((0 : Int32) &&& 31)) ||| ((own_hi c &&& 255) <<< ((8 : Int32) &&& 31))) = c := by
  have a1 := c_mask (own_lo c) 255 8 (by decide) (by decide)
  have a2 := c_mask (own_hi c) 255 8 (by decide) (by decide)
  have s0 : (own_lo c &&& 255) <<< ((0 : Int32) &&& 31) = own_lo c &&& 255 := by
    have q := c_ishl (own_lo c &&& 255) 0 0 (by decide)
    have r := rng32 ((own_lo c &&& 255) <<< ((0 : Int32) &&& 31))
    exact Int32.toInt_inj.mp (by omega)
  rw [s0]
  have o := own_or (a := own_lo c &&& 255) (b := own_hi c &&& 255) (by omega) (by omega) (by omega) (by omega)
  have u1 := c_ishr c 0 0 (by decide)
  have u2 := c_ishr c 8 8 (by decide)
  have b1 := c_i2b (c >>> ((0 : Int32) &&& 31))
  have b2 := c_i2b (c >>> ((8 : Int32) &&& 31))
  obtain ⟨h1, h2⟩ := h
  have e : ((own_lo c &&& 255) ||| ((own_hi c &&& 255) <<< ((8 : Int32) &&& 31))).toInt = c.toInt := by
    rw [o, a1, a2]
    unfold own_lo own_hi own_b
    omega
  rw [Int32.toInt_inj.mp e]
  exact own_i2c_id ⟨h1, h2⟩
def own_put (c : Int32) : List Int32 :=
  if c < 128 then [own_b c] else if c < 2048 then [own_b (192 ||| (c >>> ((6 : Int32) &&& 31))), own_b (128 ||| (c &&& 63))]
  else if ¬ c < 55296 ∧ ¬ (57343 : Int32) < c then [63]
  else if c < 65536 then [own_b (224 ||| (c >>> ((12 : Int32) &&& 31))), own_b (128 ||| ((c >>> ((6 : Int32) &&& 31)) &&& 63)), own_b (128 ||| (c &&& 63))]
  else [own_b (240 ||| (c >>> ((18 : Int32) &&& 31))), own_b (128 ||| ((c >>> ((12 : Int32) &&& 31)) &&& 63)), own_b (128 ||| ((c >>> ((6 : Int32) &&& 31)) &&& 63)), own_b (128 ||| (c &&& 63))]
theorem own_put1 {c : Int32} (h : c < 128) : own_put c = [own_b c] := by unfold own_put; rw [if_pos h]
theorem own_put2 {c : Int32} (h : ¬ c < 128) (g : c < 2048) : own_put c = [own_b (192 ||| (c >>> ((6 : Int32) &&& 31))), own_b (128 ||| (c &&& 63))] := by unfold own_put; rw [if_neg h, if_pos g]
theorem own_putS {c : Int32} (h : ¬ c < 128) (g : ¬ c < 2048) (s1 : ¬ c < 55296) (s2 : ¬ (57343 : Int32) < c) : own_put c = [63] := by unfold own_put; rw [if_neg h, if_neg g, if_pos ⟨s1, s2⟩]
theorem own_put3 {c : Int32} (h : ¬ c < 128) (g : ¬ c < 2048) (s : c < 55296 ∨ (57343 : Int32) < c) (t : c < 65536) : own_put c = [own_b (224 ||| (c >>> ((12 : Int32) &&& 31))), own_b (128 ||| ((c >>> ((6 : Int32) &&& 31)) &&& 63)), own_b (128 ||| (c &&& 63))] := by
  unfold own_put; rw [if_neg h, if_neg g, if_neg (fun q => s.elim q.1 q.2), if_pos t]
theorem own_put4 {c : Int32} (t : ¬ c < 65536) : own_put c = [own_b (240 ||| (c >>> ((18 : Int32) &&& 31))), own_b (128 ||| ((c >>> ((12 : Int32) &&& 31)) &&& 63)), own_b (128 ||| ((c >>> ((6 : Int32) &&& 31)) &&& 63)), own_b (128 ||| (c &&& 63))] := by
  rw [Int32.lt_iff_toInt_lt, show (65536 : Int32).toInt = 65536 from rfl] at t
  have k : ∀ z : Int32, z.toInt < 65536 → ¬ c < z := fun z hz q => by rw [Int32.lt_iff_toInt_lt] at q; omega
  unfold own_put
  rw [if_neg (k _ (by decide)), if_neg (k _ (by decide)), if_neg (fun q => q.2 (by rw [Int32.lt_iff_toInt_lt, show (57343 : Int32).toInt = 57343 from rfl]; omega)), if_neg (by rw [Int32.lt_iff_toInt_lt, show (65536 : Int32).toInt = 65536 from rfl]; exact t)]
theorem own_nar_b (x : Int32) : nar .byte (own_b x) = own_b x := own_b_id x
theorem own_nar_lo (x : Int32) : nar .byte (own_lo x) = own_lo x := own_b_id _
theorem own_nar_hi (x : Int32) : nar .byte (own_hi x) = own_hi x := own_b_id _
theorem own_nar_ch {c : Int32} (h : OCh c) : nar .char c = c := own_i2c_id h
theorem own_nar_c (x : Int32) : nar .char (own_i2c x) = own_i2c x := own_i2c_id (own_i2c_ch x)
def own_ln (L : List Int32) : Int32 := Int32.ofNat L.length
def own_vs (L : List Int32) : List Value := L.map .int
def own_e6 (L : List Int32) : List Value := L.map .int ++ List.replicate (6 - L.length) (.int 0)
def own_at (L : List Int32) (i : Int32) : Int32 := L.getD i.toNatClampNeg 0
theorem own_map_at (L : List Int32) (i : Nat) : (L.map Value.int).getD i (.int 0) = .int (L.getD i 0) := by
  induction L generalizing i with
  | nil => rfl
  | cons a r ih => cases i with
    | zero => rfl
    | succ n => exact ih n
theorem own_vs_at (L : List Int32) (i : Int32) : (own_vs L).getD i.toNatClampNeg (.int 0) = .int (own_at L i) := own_map_at L _
theorem own_e6_at (L : List Int32) (i : Int32) : (own_e6 L).getD i.toNatClampNeg (.int 0) = .int (own_at L i) := by
  unfold own_e6
  rw [pad_rep]; exact own_map_at L _
def own_cp (c0 c1 : Int32) : Int32 := 65536 + ((c0 - 55296) <<< ((10 : Int32) &&& 31)) + (c1 - 56320)
def own_enc2 (c0 c1 : Int32) : List Int32 := if ¬ c0 < 55296 ∧ ¬ (56319 : Int32) < c0 ∧ ¬ c1 < 56320 ∧ ¬ (57343 : Int32) < c1 then own_put (own_cp c0 c1) else own_put c0 ++ own_put c1
theorem own_enc2_p {c0 c1 : Int32} (h1 : ¬ c0 < 55296) (h2 : ¬ (56319 : Int32) < c0) (h3 : ¬ c1 < 56320) (h4 : ¬ (57343 : Int32) < c1) : own_enc2 c0 c1 = own_put (own_cp c0 c1) := if_pos ⟨h1, h2, h3, h4⟩
theorem own_enc2_n {c0 c1 : Int32} (h : c0 < 55296 ∨ (56319 : Int32) < c0 ∨ c1 < 56320 ∨ (57343 : Int32) < c1) : own_enc2 c0 c1 = own_put c0 ++ own_put c1 :=
  if_neg fun q => h.elim q.1 fun h => h.elim q.2.1 fun h => h.elim q.2.2.1 q.2.2.2
def own_code (c0 c1 : Int32) : Int32 := (c0 <<< ((10 : Int32) &&& 31)) + c1 + (-56613888)
theorem own_code_cp (c0 c1 : Int32) : own_code c0 c1 = own_cp c0 c1 := by
  unfold own_code own_cp
  have a1 := c_ishl c0 10 10 (by decide)
  have a2 := c_ishl (c0 - 55296) 10 10 (by decide)
  have a3 := c_isub c0 55296
  have a4 := c_isub c1 56320
  have a5 := c_iadd (c0 <<< ((10 : Int32) &&& 31)) c1
  have a6 := c_iadd ((c0 <<< ((10 : Int32) &&& 31)) + c1) (-56613888)
  have a7 := c_iadd 65536 ((c0 - 55296) <<< ((10 : Int32) &&& 31))
  have a8 := c_iadd (65536 + ((c0 - 55296) <<< ((10 : Int32) &&& 31))) (c1 - 56320)
  have b1 := rng32 ((c0 <<< ((10 : Int32) &&& 31)) + c1 + (-56613888))
  have b2 := rng32 (65536 + ((c0 - 55296) <<< ((10 : Int32) &&& 31)) + (c1 - 56320))
  rw [show (55296 : Int32).toInt = 55296 from rfl] at a3
  rw [show (56320 : Int32).toInt = 56320 from rfl] at a4
  rw [show (-56613888 : Int32).toInt = -56613888 from rfl] at a6
  rw [show (65536 : Int32).toInt = 65536 from rfl] at a7
  generalize (c0 <<< ((10 : Int32) &&& 31)) + c1 + (-56613888) = l2 at *
  generalize (c0 <<< ((10 : Int32) &&& 31)) + c1 = l1 at *
  generalize c0 <<< ((10 : Int32) &&& 31) = l0 at *
  generalize 65536 + ((c0 - 55296) <<< ((10 : Int32) &&& 31)) + (c1 - 56320) = r4 at *
  generalize 65536 + ((c0 - 55296) <<< ((10 : Int32) &&& 31)) = r3 at *
  generalize (c0 - 55296) <<< ((10 : Int32) &&& 31) = r2 at *
  generalize c0 - 55296 = r1 at *
  generalize c1 - 56320 = r0 at *
  have s1 : (r2.toInt - (c0.toInt * 1024 - 56623104)) % 4294967296 = 0 := by clear a1 a4 a5 a6 a7 a8 b1 b2; omega
  have s2 : (l1.toInt - (c0.toInt * 1024 + c1.toInt)) % 4294967296 = 0 := by clear a2 a3 a4 a6 a7 a8 b1 b2 s1; omega
  have s3 : (l2.toInt - (c0.toInt * 1024 + c1.toInt - 56613888)) % 4294967296 = 0 := by clear a1 a2 a3 a4 a5 a7 a8 b1 b2 s1; omega
  have s4 : (r3.toInt - (c0.toInt * 1024 - 56557568)) % 4294967296 = 0 := by clear a1 a2 a3 a4 a5 a6 a8 b1 b2 s2 s3; omega
  have s5 : (r4.toInt - (c0.toInt * 1024 + c1.toInt - 56613888)) % 4294967296 = 0 := by clear a1 a2 a3 a5 a6 a7 b1 b2 s1 s2 s3; omega
  refine Int32.toInt_inj.mp ?_
  clear a1 a2 a3 a4 a5 a6 a7 a8 s1 s2 s4
  omega
theorem own_cp_rng {c0 c1 : Int32} (h1 : ¬ c0 < 55296) (h2 : ¬ (56319 : Int32) < c0) (h3 : ¬ c1 < 56320) (h4 : ¬ (57343 : Int32) < c1) : 65536 ≤ (own_cp c0 c1).toInt ∧ (own_cp c0 c1).toInt < 1114112 := by
  unfold own_cp
  rw [Int32.lt_iff_toInt_lt] at h1 h2 h3 h4
  rw [show (55296 : Int32).toInt = 55296 from rfl] at h1
  rw [show (56319 : Int32).toInt = 56319 from rfl] at h2
  rw [show (56320 : Int32).toInt = 56320 from rfl] at h3
  rw [show (57343 : Int32).toInt = 57343 from rfl] at h4
  have a2 := c_ishl (c0 - 55296) 10 10 (by decide)
  have a3 := c_isub c0 55296
  have a4 := c_isub c1 56320
  have a7 := c_iadd 65536 ((c0 - 55296) <<< ((10 : Int32) &&& 31))
  have a8 := c_iadd (65536 + ((c0 - 55296) <<< ((10 : Int32) &&& 31))) (c1 - 56320)
  have r1 := rng32 (c0 - 55296)
  have r2 := rng32 ((c0 - 55296) <<< ((10 : Int32) &&& 31))
  have r3 := rng32 (c1 - 56320)
  have r4 := rng32 (65536 + ((c0 - 55296) <<< ((10 : Int32) &&& 31)))
  have b2 := rng32 (65536 + ((c0 - 55296) <<< ((10 : Int32) &&& 31)) + (c1 - 56320))
  rw [show (55296 : Int32).toInt = 55296 from rfl] at a3
  rw [show (56320 : Int32).toInt = 56320 from rfl] at a4
  rw [show (65536 : Int32).toInt = 65536 from rfl] at a7
  have e1 : (c0 - 55296).toInt = c0.toInt - 55296 := by omega
  have e2 : ((c0 - 55296) <<< ((10 : Int32) &&& 31)).toInt = (c0.toInt - 55296) * 1024 := by omega
  have e3 : (c1 - 56320).toInt = c1.toInt - 56320 := by omega
  have e4 : (65536 + ((c0 - 55296) <<< ((10 : Int32) &&& 31))).toInt = 65536 + (c0.toInt - 55296) * 1024 := by omega
  omega
theorem own_put_le {c : Int32} (h : OCh c) : (own_put c).length ≤ 3 := by
  have t : c < 65536 := by rw [Int32.lt_iff_toInt_lt, show (65536 : Int32).toInt = 65536 from rfl]; exact h.2
  unfold own_put
  rw [if_pos t]
  split
  · exact Nat.le_of_ble_eq_true rfl
  · split
    · exact Nat.le_of_ble_eq_true rfl
    · split <;> exact Nat.le_of_ble_eq_true rfl
theorem own_s56 (c : Int32) : c < 57344 ↔ ¬ (57343 : Int32) < c := by
  rw [Int32.lt_iff_toInt_lt, Int32.lt_iff_toInt_lt, show (57344 : Int32).toInt = 57344 from rfl, show (57343 : Int32).toInt = 57343 from rfl]; omega
theorem own_s55 (c : Int32) : c < 56320 ↔ ¬ (56319 : Int32) < c := by
  rw [Int32.lt_iff_toInt_lt, Int32.lt_iff_toInt_lt, show (56320 : Int32).toInt = 56320 from rfl, show (56319 : Int32).toInt = 56319 from rfl]; omega
def own_sur (c : Int32) : Int32 := if c < 55296 then 0 else if c < 57344 then 1 else 0
def own_high (c : Int32) : Int32 := if c < 55296 then 0 else if c < 56320 then 1 else 0
def own_low (c : Int32) : Int32 := if c < 56320 then 0 else if c < 57344 then 1 else 0
theorem own_two {a b c : Prop} [Decidable a] [Decidable b] : ((if a then (0 : Int32) else if b then 1 else 0) = 0) ↔ (a ∨ ¬ b) := by
  by_cases h : a <;> by_cases g : b <;> simp [h, g]
theorem own_sur0 {c : Int32} (h : own_sur c = 0) : c < 55296 ∨ (57343 : Int32) < c := (own_two (c := True).mp h).imp id fun q => Decidable.not_not.mp (mt (own_s56 c).mpr q)
theorem own_sur1 {c : Int32} (h : ¬ own_sur c = 0) : ¬ c < 55296 ∧ ¬ (57343 : Int32) < c := ⟨fun q => h (own_two (c := True).mpr (Or.inl q)), fun q => h (own_two (c := True).mpr (Or.inr fun z => (own_s56 c).mp z q))⟩
theorem own_high0 {c : Int32} (h : own_high c = 0) : c < 55296 ∨ (56319 : Int32) < c := (own_two (c := True).mp h).imp id fun q => Decidable.not_not.mp (mt (own_s55 c).mpr q)
theorem own_high1 {c : Int32} (h : ¬ own_high c = 0) : ¬ c < 55296 ∧ ¬ (56319 : Int32) < c := ⟨fun q => h (own_two (c := True).mpr (Or.inl q)), fun q => h (own_two (c := True).mpr (Or.inr fun z => (own_s55 c).mp z q))⟩
theorem own_low0 {c : Int32} (h : own_low c = 0) : c < 56320 ∨ (57343 : Int32) < c := (own_two (c := True).mp h).imp id fun q => Decidable.not_not.mp (mt (own_s56 c).mpr q)
theorem own_low1 {c : Int32} (h : ¬ own_low c = 0) : ¬ c < 56320 ∧ ¬ (57343 : Int32) < c := ⟨fun q => h (own_two (c := True).mpr (Or.inl q)), fun q => h (own_two (c := True).mpr (Or.inr fun z => (own_s56 c).mp z q))⟩
def OSt (Z : State) (cs : Int32) (u8 : Addr) : Prop :=
  Sta Z Z.heap "java/lang/String" "COMPACT_STRINGS" "Z" (.int cs) ∧ ¬ cs = 0 ∧ Sta Z Z.heap "java/nio/charset/StandardCharsets" "UTF_8" "Ljava/nio/charset/Charset;" (.ref u8) ∧ Sta Z Z.heap "sun/nio/cs/UTF_8" "INSTANCE" "Lsun/nio/cs/UTF_8;" (.ref u8) ∧
  Sta Z Z.heap "java/lang/StringUTF16" "$assertionsDisabled" "Z" (.int 1) ∧ Sta Z Z.heap "java/lang/StringUTF16" "HI_BYTE_SHIFT" "I" (.int 0) ∧ Sta Z Z.heap "java/lang/StringUTF16" "LO_BYTE_SHIFT" "I" (.int 8)
def own_EL : List (String × Nat) := [("java/lang/String", 7)]
theorem own_EW {Z : State} {a0 : Array Value} (hw : ∀ d ∈ tables_1, d.before a0 Z = true) : EW Z a0 own_EL := EW.cons (text := "") (hw _ (List.mem_of_getElem? (i := 19) rfl)) (by decide) EW.nil
theorem own_litB {Z s : State} {a0 : Array Value} {vm1 : Vm} {h' : Heap} {own text : String} {index : Nat} {a b : Addr} {k : ClassId} {z : Int32} {vs : List Value} {dv : Value} {c0 : ClassId} (hW : Z.Warmed39 (s.setVm vm1).vm) (hf : (s.setVm vm1).vm.findClass own = some c0) (w : (Cond.stringLink own index text).before a0 Z = true) (L : Lit (s.setVm vm1) own index a) (H : CHv Z own_EL vm1 h') (hm : (own, index) ∈ own_EL)
    (F : Fld Z h' a "java/lang/String" "value" "[B" (.ref b)) (A : Arv Z h' b k .byte z vs dv) : Exa Z h' b "[B" := by
  have hW : Z.Warmed39 vm1 := hW
  have hal : Z.vm.Alike vm1 := hW.alike
  have hf : vm1.findClass own = some c0 := hf
  have w2 : (Cond.stringLink own index text).before a0 (Wst Z vm1 h') = true := mvS (s := { Z with heap := h' }) hW w
  obtain ⟨k0', cf, i, units, hkx, hcf, hp, hu, -, htext, -⟩ := Cond.stringLink_spec (s := Wst Z vm1 h') hf w2
  have hkx : vm1.classes[c0]? = some k0' := hkx
  have hres : k0'.resolved[index]? = some (some (.string a)) := by
    have q : (s.setVm vm1).resolvedAt? own index = some (.string a) := L
    simp [State.resolvedAt?, hf, hkx] at q
    cases hr : k0'.resolved[index]? with
    | none => rw [hr] at q; cases q
    | some o => rw [hr] at q; cases o with
      | none => cases q
      | some r => simpa using q
  obtain ⟨q, hqa, G⟩ := SlB.of (H _ hm units a ⟨c0, k0', cf, i, hf, hkx, hcf, hp, hu, Or.inl hres⟩)
  obtain ⟨cS, ⟨⟨s1, -, -, ⟨cv, kv, iv, s4, -⟩, -, -, -, s8, -, s10, -⟩, -⟩, -, hB, -⟩ := G
  subst hqa
  obtain ⟨kv', z4⟩ := ff_back (U := Wst Z vm1 h') hal s4
  have hbd : q.sd = b := by
    obtain ⟨cl, cf2, k2, i2, f2, h1, h2, -, -, -, -, h7⟩ := F
    cases h1.symm.trans s1
    cases h2.symm.trans z4
    have e := h7.symm.trans s8
    simpa using e.symm
  have hB : vm1.findClass "[B" = some q.SA.cls := hB
  have hBZ : Z.vm.findClass "[B" = some q.SA.cls := by rw [← hal.findClass]; exact hB
  obtain ⟨cl, ⟨hc, ⟨hst, k9, hk9, comp, hkind9⟩, -⟩, -⟩ := A
  have e : cl = q.SA := Option.some.inj (hc.symm.trans (hbd ▸ s10))
  subst e
  exact ⟨_, k9, hc, hBZ, hk9, (by cases hv : q.SA.vm with | statics k => exact absurd hv (hst k) | _ => rfl), fun o => by rw [hkind9] at o; cases o⟩
theorem own_backSH {p : Program} {l : Launch} {e : Env} {R : Room} {s : State} {args : Array Value} {below : List Frame} {Z : State} {a0 : Array Value} {EL : List (String × Nat)} {h : Heap} {vm0 : Vm} {y : MethodName} {bytes : ByteArray} {maxL : Nat} {ret : Option FieldType} {rm : Room} {len W : Nat} {as' : Array Value} {Q : Option Value → Heap → List Loc → Prop}
    (hM : MetFree l y (head1 [Cond.code y bytes maxL ret] rm) (fun a U => a = as' ∧ Z.Warmed39 U.vm ∧ U.heap = h ∧ CHv Z EL U.vm h) (fun _ _ _ _ _ => True) (fun _ U o U' => ∃ v L, o = .returned v ∧ Q v U'.heap L ∧ ReturnedEndW U o U' L rm.cells rm.slots))
    (hZ : Z.Warmed39 vm0) (wc : (Cond.code y bytes maxL ret).before a0 Z = true) (wz : (Cond.initialized y.cls).before a0 Z = true) (hf : rm.frames + 1 ≤ R.frames) (hl : W + (maxL + 11) + rm.locals ≤ R.locals) (hEL : EW Z a0 EL) (H : CHv Z EL vm0 h) :
    BackS l R p e below (s.setVm vm0) args y len W (fun A a => a = as' ∧ A.U.heap = h ∧ A.cells + rm.cells ≤ R.cells ∧ A.slots + rm.slots ≤ R.slots)
      (fun A _ v B => ∃ L, Q v B.U.heap L ∧ B.locs = A.locs ++ L ∧ B.cells = A.cells + rm.cells ∧ B.slots = A.slots + rm.slots) :=
  BackS.of_freeW (bytes := bytes) (maxL := maxL) (ret := ret) (E := fun _ _ o t L k n => k = rm.cells ∧ n = rm.slots ∧ ∃ v, o = .returned v ∧ Q v t.heap L) hM hf hl
    (fun _ _ _ A a Y hp => by
      have hU : Z.Warmed39 A.U.vm := wtrans (s := s.setVm vm0) hZ Y.warmed
      refine ⟨?_, mv hU wc, mv hU wz, hp.2.2.1, hp.2.2.2⟩
      show (Cond.and _ .tt).before a A.U = true
      rw [Cond.before_and, mv hU wc]; rfl)
    (fun _ _ _ _ _ _ _ Y hp => ⟨hp.1, wtrans (s := s.setVm vm0) hZ Y.warmed, hp.2.1, (CHv.at Y hZ hEL H).1⟩)
    (fun _ _ _ _ _ _ _ _ _ => trivial)
    (fun _ _ _ _ ⟨v, L, h1, h2, h3⟩ => ⟨L, _, _, h3, rfl, rfl, v, h1, h2⟩)
    (fun _ _ _ _ _ _ _ _ _ L _ _ _ _ _ _ ⟨e1, e2, v', e3, e4⟩ => by cases e3; subst e1 e2; exact ⟨L, e4, rfl, rfl, rfl⟩)
theorem own_ane {Z : State} {h : Heap} {a b : Addr} {k1 k2 : ClassId} {t1 t2 : FieldType} {z1 z2 : Int32} {v1 v2 : List Value} {d1 d2 : Value} (A : Arv Z h a k1 t1 z1 v1 d1) (B : Arv Z h b k2 t2 z2 v2 d2) (q : t1 ≠ t2) : a ≠ b := fun e => by
  subst e
  obtain ⟨c1, ⟨h1, ⟨-, k, hk, comp, hkind⟩, -⟩, -⟩ := A
  obtain ⟨c2, ⟨h2, ⟨-, k', hk', comp', hkind'⟩, -⟩, -⟩ := B
  cases h1.symm.trans h2
  cases hk.symm.trans hk'
  rw [hkind] at hkind'
  injection hkind' with e1 e2
  exact q e2

section Og
variable {p : Program} {l : Launch} {e : Env} {R : Room} {s : State} {m : MethodId} {args : Array Value} {below : List Frame} {meth : Method} {c : Code} {T : State} {locs : List Loc} {cells slots : Nat} {Z : State} {a0 : Array Value} {h : Heap} {own : String} {index pc : Nat} {ls : Array Slot} {stk rest argsL : List Value} {P : Outcome → State → Prop}
  {y z : MethodName} {bytes : ByteArray} {maxL : Nat} {ret r : Option FieldType} {ps : List FieldType} {rm : Room} {Q : Option Value → Heap → List Loc → Prop} {W : Nat} {a : Addr} {vm0 : Vm} {k0 : Nat}
def OG (tb : Tables) (e : Env) (below : List Frame) (P : Outcome → State → Prop) (A : State) : Prop := ∃ s₂ o, Steps tb e below A s₂ ∧ s₂.status = .running ∧ Ended s₂ below o ∧ P o s₂
theorem og {tb : Tables} {A B : State} (h : ∀ t, Steps tb e below B t → Steps tb e below A t) (k : OG tb e below P B) : OG tb e below P A := by
  obtain ⟨s2, o, h1, h2⟩ := k
  exact ⟨s2, o, h _ h1, h2⟩
theorem wd (hw : ∀ d ∈ tables_1, d.before a0 Z = true) (i : Nat) {d : Jvm.Cond} (q : tables_1[i]? = some d) : d.before a0 Z = true := hw _ (List.mem_of_getElem? q)
theorem og_start {ws : List Jvm.Cond} {A : Array Value} {h0 : Heap} {Q : Array Value → State → Outcome → State → Prop} (hpl : plainFor y = true)
    (body : ∀ p e s m below meth c s₁, BodyLoose p l y (head1 (Cond.code y bytes maxL ret :: ws) R) bytes maxL ret e s m A below meth c s₁ → p.tables.exec = Jvm.exec → c.code = bytes → c.maxLocals = maxL → Z.Warmed39 s.vm → s.vm.findClass y.cls = some m.cls → meth.name = y.name → Stand p l e R s m A below meth c s₁ [] 0 0 → s₁.heap = h0 → OG p.tables e below (fun o u => Q A s o u) (s₁.setTop (entryFrame m A maxL))) :
    MetFree l y (head1 (Cond.code y bytes maxL ret :: ws) R) (fun a U => a = A ∧ Z.Warmed39 U.vm ∧ U.heap = h0) (fun _ _ _ _ _ => True) Q := by
  refine MetFree.of_bodySF hpl hisR ?_
  intro p e s m args below meth c s₁ Bd hml0 hP hK
  obtain ⟨rfl, hZ, hh⟩ := hP
  exact body p e s m below meth c s₁ Bd Bd.exec Bd.bytes hml0 hZ (findClass_of_methodNamed Bd.named) (name_of_methodNamed Bd.named Bd.method).1 (Stand.of_body Bd) (by rw [← hh, Bd.state]; rfl)
theorem og_startW {ws : List Jvm.Cond} {A : Array Value} {h0 : Heap} {Q : Array Value → State → Outcome → State → Prop} (hpl : plainFor y = true)
    (body : ∀ p e s m below meth c s₁, BodyLoose p l y (head1 (Cond.code y bytes maxL ret :: ws) R) bytes maxL ret e s m A below meth c s₁ → p.tables.exec = Jvm.exec → c.code = bytes → c.maxLocals = maxL → Z.Warmed39 (s.setVm s.vm).vm → (s.setVm s.vm).vm.findClass y.cls = some m.cls → meth.name = y.name → Stand p l e R (s.setVm s.vm) m A below meth c s₁ [] 0 0 → s₁.heap = h0 → s.Since s.vm h0.size → h0.size ≤ h0.size → OG p.tables e below (fun o u => Q A s o u) (s₁.setTop (entryFrame m A maxL))) :
    MetFree l y (head1 (Cond.code y bytes maxL ret :: ws) R) (fun a U => a = A ∧ Z.Warmed39 U.vm ∧ U.heap = h0) (fun _ _ _ _ _ => True) Q := by
  refine MetFree.of_bodySF hpl hisR ?_
  intro p e s m args below meth c s₁ Bd hml0 hP hK
  obtain ⟨rfl, hZ, hh⟩ := hP
  exact body p e s m below meth c s₁ Bd Bd.exec Bd.bytes hml0 hZ (findClass_of_methodNamed Bd.named) (name_of_methodNamed Bd.named Bd.method).1 (Stand.of_body Bd) (by rw [← hh, Bd.state]; rfl) ((State.WarmedH.refl s).since _) (Nat.le_refl _)
theorem og_startH {EL : List (String × Nat)} {ws : List Jvm.Cond} {A : Array Value} {h0 : Heap} {Q : Array Value → State → Outcome → State → Prop} (hpl : plainFor y = true)
    (body : ∀ p e s m below meth c s₁, BodyLoose p l y (head1 (Cond.code y bytes maxL ret :: ws) R) bytes maxL ret e s m A below meth c s₁ → p.tables.exec = Jvm.exec → c.code = bytes → c.maxLocals = maxL → Z.Warmed39 (s.setVm s.vm).vm → (s.setVm s.vm).vm.findClass y.cls = some m.cls → meth.name = y.name → Stand p l e R (s.setVm s.vm) m A below meth c s₁ [] 0 0 → s₁.heap = h0 → s.Since s.vm h0.size → h0.size ≤ h0.size → CHv Z EL s.vm h0 → OG p.tables e below (fun o u => Q A s o u) (s₁.setTop (entryFrame m A maxL))) :
    MetFree l y (head1 (Cond.code y bytes maxL ret :: ws) R) (fun a U => a = A ∧ Z.Warmed39 U.vm ∧ U.heap = h0 ∧ CHv Z EL U.vm h0) (fun _ _ _ _ _ => True) Q := by
  refine MetFree.of_bodySF hpl hisR ?_
  intro p e s m args below meth c s₁ Bd hml0 hP hK
  obtain ⟨rfl, hZ, hh, hC⟩ := hP
  exact body p e s m below meth c s₁ Bd Bd.exec Bd.bytes hml0 hZ (findClass_of_methodNamed Bd.named) (name_of_methodNamed Bd.named Bd.method).1 (Stand.of_body Bd) (by rw [← hh, Bd.state]; rfl) ((State.WarmedH.refl s).since _) (Nat.le_refl _) hC
theorem g_getF {R0 n d : String} {v : Value} (X : Stand p l e R s m args below meth c T locs cells slots) (hx : p.tables.exec = Jvm.exec) (hZ : Z.Warmed39 s.vm) (hown : s.vm.findClass own = some m.cls) (w : (Cond.fieldLink own index R0 n d).before a0 Z = true) (eT : T.heap = h) (F : Fld Z h a R0 n d v) (hd : decode c.code pc = .ok (.getfield index, 3))
    (k : ∀ T', Stand p l e R s m args below meth c T' locs cells slots → T'.heap = h → OG p.tables e below P (T'.setTop (mkF m (pc + 3) ls (v :: rest)))) : OG p.tables e below P (T.setTop (mkF m pc ls (.ref a :: rest))) := by
  obtain ⟨T', X', e', st⟩ := getF (host := "") X hx hZ hown (Or.inl w) Via.refl eT F (g := mkF m pc ls (.ref a :: rest)) rfl rfl hd
  exact og st (k T' X' e')
theorem g_putF {R0 n d C : String} {kk : Nat} {ty : FieldType} {v old : Value} (X : Stand p l e R s m args below meth c T locs cells slots) (hx : p.tables.exec = Jvm.exec) (hZ : Z.Warmed39 s.vm) (hown : s.vm.findClass own = some m.cls) (w : (Cond.fieldLink own index R0 n d).before a0 Z = true) (eT : T.heap = h) (F : Fld Z h a R0 n d old) (E : Exa Z h a C)
    (L : (Cond.lays C R0 n d).before a0 Z = true ∨ ((Cond.laysFinal C R0 n d).before a0 Z = true ∧ own = R0 ∧ meth.name = "<init>")) (wi : (Cond.instantiable C kk).before a0 Z = true) (hty : parseFieldDescriptor d = some ty) (hn : narrow ty v = v) (hf : fits ty v = true) (hd : decode c.code pc = .ok (.putfield index, 3))
    (k : ∀ T' h', Stand p l e R s m args below meth c T' (locs ++ [⟨a, Jvm.RoadKit.slotOf Z R0 n d⟩]) cells slots → T'.heap = h' → Wr h h' a (Jvm.RoadKit.slotOf Z R0 n d) v → OG p.tables e below P (T'.setTop (mkF m (pc + 3) ls rest))) : OG p.tables e below P (T.setTop (mkF m pc ls (v :: .ref a :: rest))) := by
  obtain ⟨T', h', X', e', W', st⟩ := putF (host := "") X hx hZ hown (Or.inl w) Via.refl eT F E L wi hty hn hf (g := mkF m pc ls (v :: .ref a :: rest)) rfl rfl hd
  exact og st (k T' h' X' e' W')
theorem g_getS {R0 n d : String} {v : Value} (X : Stand p l e R s m args below meth c T locs cells slots) (hx : p.tables.exec = Jvm.exec) (hZ : Z.Warmed39 s.vm) (hown : s.vm.findClass own = some m.cls) (w : (Cond.fieldLink own index R0 n d).before a0 Z = true) (eT : T.heap = h) (F : Sta Z h R0 n d v) (hd : decode c.code pc = .ok (.getstatic index, 3))
    (k : ∀ T', Stand p l e R s m args below meth c T' locs cells slots → T'.heap = h → OG p.tables e below P (T'.setTop (mkF m (pc + 3) ls (v :: stk)))) : OG p.tables e below P (T.setTop (mkF m pc ls stk)) := by
  obtain ⟨T', X', e', st⟩ := getS2 (host := "") X hx hZ hown (Or.inl w) Via.refl eT F (g := mkF m pc ls stk) rfl hd
  exact og st (k T' X' e')
theorem g_newO {C : String} {n : Nat} (X : Stand p l e R s m args below meth c T locs cells slots) (hx : p.tables.exec = Jvm.exec) (hZ : Z.Warmed39 s.vm) (hown : s.vm.findClass own = some m.cls) (w : (Cond.classLink own index C).before a0 Z = true) (wi : (Cond.instantiable C n).before a0 Z = true) (wz : (Cond.initialized C).before a0 Z = true) (eT : T.heap = h) (hd : decode c.code pc = .ok (.new index, 3)) (hc : cells + 1 ≤ R.cells) (hl : slots + n ≤ R.slots)
    (k : ∀ T' h' a, a = h.size → Stand p l e R s m args below meth c T' locs (cells + 1) (slots + n) → T'.heap = h' → Ext h h' → Exa Z h' a C → (∀ {O nm d : String} {ty : FieldType}, Laid Z a0 C O nm d → parseFieldDescriptor d = some ty → Fld Z h' a O nm d (defaultValue ty)) → OG p.tables e below P (T'.setTop (mkF m (pc + 3) ls (.ref a :: stk)))) : OG p.tables e below P (T.setTop (mkF m pc ls stk)) := by
  obtain ⟨T', h', X', e', E, A, D, -, st⟩ := newO X hx hZ hown w wi wz eT (g := mkF m pc ls stk) rfl hd hc hl
  exact og st (k T' h' _ rfl X' e' E A D)
theorem g_newP {aty : ArrayType} {n : Int32} {cap : Nat} {ad : String} {ty : FieldType} (X : Stand p l e R s m args below meth c T locs cells slots) (hx : p.tables.exec = Jvm.exec) (hZ : Z.Warmed39 s.vm) (hty : newarray.typeOf aty = ty) (w : (Cond.arrayClass ty).before a0 Z = true) (eT : T.heap = h) (hd : decode c.code pc = .ok (.newarray aty, 2)) (hn : ¬ n < 0) (hcap : n.toNatClampNeg ≤ cap) (hb : cap * 8 ≤ 536870912) (hc : cells + 1 ≤ R.cells) (hl : slots + cap ≤ R.slots) (had : "[" ++ ty.toString = ad)
    (k : ∀ T' h' a q, a = h.size → Stand p l e R s m args below meth c T' locs (cells + 1) (slots + cap) → T'.heap = h' → Ext h h' → Arv Z h' a q ty n [] (defaultValue ty) → Exa Z h' a ad → OG p.tables e below P (T'.setTop (mkF m (pc + 2) ls (.ref a :: rest)))) : OG p.tables e below P (T.setTop (mkF m pc ls (.int n :: rest))) := by
  subst hty
  obtain ⟨T', h', q, X', e', E, A, D, st⟩ := newPE X hx hZ w eT (g := mkF m pc ls (.int n :: rest)) rfl hd rfl hn hcap hb hc hl had
  exact og st (k T' h' _ q rfl X' e' E (Arv.new A hn) D)
theorem g_initO (X : Stand p l e R s m args below meth c T locs cells slots) (hx : p.tables.exec = Jvm.exec) (hZ : Z.Warmed39 s.vm) (hown : s.vm.findClass own = some m.cls) (w1 : (Cond.methodLink own index Lib.objectInit).before a0 Z = true) (w2 : (Cond.instanceMethod Lib.objectInit).before a0 Z = true) (w3 : (Cond.code Lib.objectInit ⟨#[0xb1]⟩ 1 none).before a0 Z = true) (eT : T.heap = h) (hml : ls.size = c.maxLocals) (hd : decode c.code pc = .ok (.invokespecial index, 3)) (hf : 1 ≤ R.frames) (hW : (rest.map fun v => v.category).sum = W) (hl : W + 12 ≤ R.locals)
    (k : ∀ T', Stand p l e R s m args below meth c T' locs cells slots → T'.heap = h → OG p.tables e below P (T'.setTop (mkF m (pc + 3) ls rest))) : OG p.tables e below P (T.setTop (mkF m pc ls (.ref a :: rest))) := by
  obtain ⟨T', X', e', st⟩ := initO X hx hZ hown w1 w2 w3 eT (g := mkF m pc ls (.ref a :: rest)) rfl hml rfl hd hf (W := W) (by rw [← hW]; exact Nat.le_of_eq (Nat.zero_add _)) hl
  exact og st (k T' X' e')
theorem g_callS (X : Stand p l e R s m args below meth c T locs cells slots) (hx : p.tables.exec = Jvm.exec) (hZ : Z.Warmed39 s.vm) (hown : s.vm.findClass own = some m.cls) (w1 : (Cond.methodLink own index y).before a0 Z = true) (w2 : (Cond.static y).before a0 Z = true) (w3 : (Cond.initialized y.cls).before a0 Z = true) (w4 : (Cond.code y bytes maxL ret).before a0 Z = true) (hy : y.cls ≠ "java/lang/invoke/MethodHandle" ∧ y.cls ≠ "java/lang/invoke/VarHandle")
    (hM : MetFree l y (head1 [Cond.code y bytes maxL ret] rm) (fun a U => a = argsL.toArray ∧ Z.Warmed39 U.vm ∧ U.heap = h) (fun _ _ _ _ _ => True) (fun _ U o U' => ∃ v L, o = .returned v ∧ Q v U'.heap L ∧ FrameEnd U o U' L rm.cells rm.slots)) (eT : T.heap = h) (hml : ls.size = c.maxLocals) (hps : parseMethodDescriptor y.desc = some ⟨ps, r⟩) (hlen : argsL.length = ps.length) (hst : stk = argsL.reverse ++ rest) (hW : (rest.map fun v => v.category).sum = W) (hd : decode c.code pc = .ok (.invokestatic index, 3))
    (hf : rm.frames + 1 ≤ R.frames) (hl : W + (maxL + 11) + rm.locals ≤ R.locals) (hc : cells + rm.cells ≤ R.cells) (hs : slots + rm.slots ≤ R.slots)
    (k : ∀ v T' L, Q v T'.heap L → Stand p l e R s m args below meth c T' (locs ++ L) (cells + rm.cells) (slots + rm.slots) → OG p.tables e below P (T'.setTop (mkF m (pc + 3) ls (v.toList ++ rest)))) : OG p.tables e below P (T.setTop (mkF m pc ls stk)) := by
  obtain ⟨v, _, ⟨T', L', c', n'⟩, -, X', ⟨L, hQ, l1, y1, z1⟩, st⟩ := Jvm.LawKit.callS X hx (y := y) hown (mvT hZ w1) (mvT hZ w2) (mvT hZ w3) (mvT hZ w4) hy (backOf (W := W) hM hZ w4 w3 hf hl) (g := mkF m pc ls stk) rfl hml (argsL := argsL) (rest := rest) (lenOf hps hlen) hst (by rw [← hW]; exact Nat.le_of_eq (Nat.zero_add _)) hd (fun _ _ => ⟨rfl, eT, hc, hs⟩)
  dsimp only [Pt.U, Pt.locs, Pt.cells, Pt.slots] at X' l1 y1 z1 st hQ
  subst l1 y1 z1
  exact og st (k v T' L hQ X')
theorem g_callI (X : Stand p l e R s m args below meth c T locs cells slots) (hx : p.tables.exec = Jvm.exec) (hZ : Z.Warmed39 s.vm) (hown : s.vm.findClass own = some m.cls) (hy1 : y.name = "<init>") (w1 : (Cond.methodLink own index y).before a0 Z = true) (w2 : (Cond.instanceMethod y).before a0 Z = true) (w3 : (Cond.initialized y.cls).before a0 Z = true) (w4 : (Cond.code y bytes maxL none).before a0 Z = true) (hy : y.cls ≠ "java/lang/invoke/MethodHandle" ∧ y.cls ≠ "java/lang/invoke/VarHandle")
    (hM : MetFree l y (head1 [Cond.code y bytes maxL none] rm) (fun b U => b = (.ref a :: argsL).toArray ∧ Z.Warmed39 U.vm ∧ U.heap = h) (fun _ _ _ _ _ => True) (fun _ U o U' => ∃ v L, o = .returned v ∧ Q v U'.heap L ∧ FrameEnd U o U' L rm.cells rm.slots)) (eT : T.heap = h) (hml : ls.size = c.maxLocals) (hps : parseMethodDescriptor y.desc = some ⟨ps, r⟩) (hlen : argsL.length = ps.length) (hst : stk = argsL.reverse ++ .ref a :: rest) (hW : (rest.map fun v => v.category).sum = W) (hd : decode c.code pc = .ok (.invokespecial index, 3))
    (hf : rm.frames + 1 ≤ R.frames) (hl : W + (maxL + 11) + rm.locals ≤ R.locals) (hc : cells + rm.cells ≤ R.cells) (hs : slots + rm.slots ≤ R.slots)
    (k : ∀ v T' L, Q v T'.heap L → Stand p l e R s m args below meth c T' (locs ++ L) (cells + rm.cells) (slots + rm.slots) → OG p.tables e below P (T'.setTop (mkF m (pc + 3) ls (v.toList ++ rest)))) : OG p.tables e below P (T.setTop (mkF m pc ls stk)) := by
  obtain ⟨v, _, ⟨T', L', c', n'⟩, -, X', ⟨L, hQ, l1, y1, z1⟩, st⟩ := X.specialBack hx (y := y) hy1 hown (mvT hZ w1) (mvT hZ w2) (mvT hZ w4) hy (backOf (W := W) hM hZ w4 w3 hf hl) (g := mkF m pc ls stk) rfl hml (Steps.refl _) (a := a) (argsL := argsL) (rest := rest) (lenOf hps hlen) hst (by rw [← hW]; exact Nat.le_of_eq (Nat.zero_add _)) hd (fun _ _ => ⟨rfl, eT, hc, hs⟩)
  dsimp only [Pt.U, Pt.locs, Pt.cells, Pt.slots] at X' l1 y1 z1 st hQ
  subst l1 y1 z1
  exact og (fun _ q => st.trans q) (k v T' L hQ X')
theorem g_callV {C : String} (X : Stand p l e R s m args below meth c T locs cells slots) (hx : p.tables.exec = Jvm.exec) (hZ : Z.Warmed39 s.vm) (hown : s.vm.findClass own = some m.cls) (w1 : (Cond.methodLink own index y).before a0 Z = true) (w2 : (Cond.declares y).before a0 Z = true) (w5 : (Cond.selects C y y).before a0 Z = true) (w6 : (Cond.instanceMethod y).before a0 Z = true) (w3 : (Cond.initialized y.cls).before a0 Z = true) (w4 : (Cond.code y bytes maxL ret).before a0 Z = true) (hy : y.cls ≠ "java/lang/invoke/MethodHandle" ∧ y.cls ≠ "java/lang/invoke/VarHandle")
    (hM : MetFree l y (head1 [Cond.code y bytes maxL ret] rm) (fun b U => b = (.ref a :: argsL).toArray ∧ Z.Warmed39 U.vm ∧ U.heap = h) (fun _ _ _ _ _ => True) (fun _ U o U' => ∃ v L, o = .returned v ∧ Q v U'.heap L ∧ FrameEnd U o U' L rm.cells rm.slots)) (eT : T.heap = h) (E : Exa Z h a C) (hml : ls.size = c.maxLocals) (hps : parseMethodDescriptor y.desc = some ⟨ps, r⟩) (hlen : argsL.length = ps.length) (hst : stk = argsL.reverse ++ .ref a :: rest) (hW : (rest.map fun v => v.category).sum = W) (hd : decode c.code pc = .ok (.invokevirtual index, 3))
    (hf : rm.frames + 1 ≤ R.frames) (hl : W + (maxL + 11) + rm.locals ≤ R.locals) (hc : cells + rm.cells ≤ R.cells) (hs : slots + rm.slots ≤ R.slots)
    (k : ∀ v T' L, Q v T'.heap L → Stand p l e R s m args below meth c T' (locs ++ L) (cells + rm.cells) (slots + rm.slots) → OG p.tables e below P (T'.setTop (mkF m (pc + 3) ls (v.toList ++ rest)))) : OG p.tables e below P (T.setTop (mkF m pc ls stk)) := by
  obtain ⟨cq, kq, qa, qb, qc⟩ := isOf hZ eT E
  obtain ⟨v, _, ⟨T', L', c', n'⟩, -, X', ⟨L, hQ, l1, y1, z1⟩, st⟩ := X.virtualBack hx (y := y) (z := y) hown (mvT hZ w1) (mvT hZ w2) (notFace_of_selects (args := #[]) (mvT hZ w5)) (mvT hZ w5) (mvT hZ w6) hy (backOf (W := W) hM hZ w4 w3 hf hl) qa qc (g := mkF m pc ls stk) rfl hml (Steps.refl _) (argsL := argsL) (rest := rest) (lenOf hps hlen) hst (by rw [← hW]; exact Nat.le_of_eq (Nat.zero_add _)) hd (fun _ _ => ⟨rfl, eT, hc, hs⟩)
  dsimp only [Pt.U, Pt.locs, Pt.cells, Pt.slots] at X' l1 y1 z1 st hQ
  subst l1 y1 z1
  exact og (fun _ q => st.trans q) (k v T' L hQ X')
theorem g_callF {C : String} {count : Nat} (X : Stand p l e R s m args below meth c T locs cells slots) (hx : p.tables.exec = Jvm.exec) (hZ : Z.Warmed39 s.vm) (hown : s.vm.findClass own = some m.cls) (w1 : (Cond.methodLink own index y).before args s = true) (w2 : (Cond.declares y).before args s = true) (w7 : (Cond.interfaceMethod y.cls y.cls y.name y.desc).before args s = true) (w5 : (Cond.selects C y z).before args s = true) (w6 : (Cond.instanceMethod z).before args s = true) (w8 : (Cond.publicMethod z).before args s = true) (w9 : (Cond.unhidden C y.name y.desc).before args s = true) (wc : (Cond.castable C y.cls).before args s = true)
    (w3 : (Cond.initialized z.cls).before a0 Z = true) (w4 : (Cond.code z bytes maxL ret).before a0 Z = true) (hy : y.cls ≠ "java/lang/invoke/MethodHandle" ∧ y.cls ≠ "java/lang/invoke/VarHandle")
    (hM : MetFree l z (head1 [Cond.code z bytes maxL ret] rm) (fun b U => b = (.ref a :: argsL).toArray ∧ Z.Warmed39 U.vm ∧ U.heap = h) (fun _ _ _ _ _ => True) (fun _ U o U' => ∃ v L, o = .returned v ∧ Q v U'.heap L ∧ FrameEnd U o U' L rm.cells rm.slots)) (eT : T.heap = h) (E : Exa Z h a C) (hml : ls.size = c.maxLocals) (hps : parseMethodDescriptor y.desc = some ⟨ps, r⟩) (hlen : argsL.length = ps.length) (hst : stk = argsL.reverse ++ .ref a :: rest) (hW : (rest.map fun v => v.category).sum = W) (hd : decode c.code pc = .ok (.invokeinterface index count, 5))
    (hf : rm.frames + 1 ≤ R.frames) (hl : W + (maxL + 11) + rm.locals ≤ R.locals) (hc : cells + rm.cells ≤ R.cells) (hs : slots + rm.slots ≤ R.slots)
    (k : ∀ v T' L, Q v T'.heap L → Stand p l e R s m args below meth c T' (locs ++ L) (cells + rm.cells) (slots + rm.slots) → OG p.tables e below P (T'.setTop (mkF m (pc + 5) ls (v.toList ++ rest)))) : OG p.tables e below P (T.setTop (mkF m pc ls stk)) := by
  obtain ⟨cq, kq, qa, qb, qc⟩ := isOf hZ eT E
  obtain ⟨v, _, ⟨T', L', c', n'⟩, -, X', ⟨L, hQ, l1, y1, z1⟩, st⟩ := X.interfaceBack hx (xi := y) (y := z) hown w1 w2 w7 w5 w6 w8 w9 wc hy (backOf (W := W) hM hZ w4 w3 hf hl) qa qb qc (g := mkF m pc ls stk) rfl hml (Steps.refl _) (argsL := argsL) (rest := rest) (lenOf hps hlen) hst (by rw [← hW]; exact Nat.le_of_eq (Nat.zero_add _)) hd (fun _ _ => ⟨rfl, eT, hc, hs⟩)
  dsimp only [Pt.U, Pt.locs, Pt.cells, Pt.slots] at X' l1 y1 z1 st hQ
  subst l1 y1 z1
  exact og (fun _ q => st.trans q) (k v T' L hQ X')
theorem g_callSS (X : Stand p l e R (s.setVm vm0) m args below meth c T locs cells slots) (hx : p.tables.exec = Jvm.exec) (hZ : Z.Warmed39 (s.setVm vm0).vm) (hown : (s.setVm vm0).vm.findClass own = some m.cls) (hS : s.Since vm0 k0) (hk : k0 ≤ h.size) (w1 : (Cond.methodLink own index y).before a0 Z = true) (w2 : (Cond.static y).before a0 Z = true) (w3 : (Cond.initialized y.cls).before a0 Z = true) (w4 : (Cond.code y bytes maxL ret).before a0 Z = true) (hy : y.cls ≠ "java/lang/invoke/MethodHandle" ∧ y.cls ≠ "java/lang/invoke/VarHandle")
    (hM : MetFree l y (head1 [Cond.code y bytes maxL ret] rm) (fun a U => a = argsL.toArray ∧ Z.Warmed39 U.vm ∧ U.heap = h) (fun _ _ _ _ _ => True) (fun _ U o U' => ∃ v L, o = .returned v ∧ Q v U'.heap L ∧ ReturnedEndW U o U' L rm.cells rm.slots)) (eT : T.heap = h) (hml : ls.size = c.maxLocals) (hps : parseMethodDescriptor y.desc = some ⟨ps, r⟩) (hlen : argsL.length = ps.length) (hst : stk = argsL.reverse ++ rest) (hW : (rest.map fun v => v.category).sum = W) (hd : decode c.code pc = .ok (.invokestatic index, 3))
    (hf : rm.frames + 1 ≤ R.frames) (hl : W + (maxL + 11) + rm.locals ≤ R.locals) (hc : cells + rm.cells ≤ R.cells) (hs : slots + rm.slots ≤ R.slots)
    (k : ∀ v T' L, Q v T'.heap L → Stand p l e R (s.setVm T'.vm) m args below meth c T' (locs ++ L) (cells + rm.cells) (slots + rm.slots) → s.Since T'.vm T'.heap.size → Z.Warmed39 (s.setVm T'.vm).vm → (s.setVm T'.vm).vm.findClass own = some m.cls → OG p.tables e below P (T'.setTop (mkF m (pc + 3) ls (v.toList ++ rest)))) : OG p.tables e below P (T.setTop (mkF m pc ls stk)) := by
  obtain ⟨v, _, ⟨T', L', c', n'⟩, -, X', h2, gr, ⟨L, hQ, l1, y1, z1⟩, st⟩ := callSS X hx (y := y) hown (mvT hZ w1) (mvT hZ w2) (mvT hZ w3) (mvT hZ w4) hy (backOfS (W := W) hM hZ w4 w3 hf hl) (g := mkF m pc ls stk) rfl hml (argsL := argsL) (rest := rest) (lenOf hps hlen) hst (by rw [← hW]; exact Nat.le_of_eq (Nat.zero_add _)) hd (fun _ _ => ⟨rfl, eT, hc, hs⟩)
  dsimp only [Pt.U, Pt.locs, Pt.cells, Pt.slots] at X' h2 gr l1 y1 z1 st hQ
  obtain ⟨X2, hS2, hZ2, hown2⟩ := rebS hS (by rw [eT]; exact hk) X' h2 gr hZ hown
  subst l1 y1 z1
  exact og (fun _ q => st.trans q) (k v T' L hQ X2 hS2 hZ2 hown2)
theorem g_callIS (X : Stand p l e R (s.setVm vm0) m args below meth c T locs cells slots) (hx : p.tables.exec = Jvm.exec) (hZ : Z.Warmed39 (s.setVm vm0).vm) (hown : (s.setVm vm0).vm.findClass own = some m.cls) (hS : s.Since vm0 k0) (hk : k0 ≤ h.size) (hy1 : y.name = "<init>") (w1 : (Cond.methodLink own index y).before a0 Z = true) (w2 : (Cond.instanceMethod y).before a0 Z = true) (w4 : (Cond.code y bytes maxL none).before a0 Z = true) (hy : y.cls ≠ "java/lang/invoke/MethodHandle" ∧ y.cls ≠ "java/lang/invoke/VarHandle")
    (hB : BackS l R p e below (s.setVm vm0) args y 3 W (fun A b => b = (.ref a :: argsL).toArray ∧ A.U.heap = h ∧ A.cells + rm.cells ≤ R.cells ∧ A.slots + rm.slots ≤ R.slots) (fun A _ v B => ∃ L, Q v B.U.heap L ∧ B.locs = A.locs ++ L ∧ B.cells = A.cells + rm.cells ∧ B.slots = A.slots + rm.slots))
    (eT : T.heap = h) (hml : ls.size = c.maxLocals) (hps : parseMethodDescriptor y.desc = some ⟨ps, r⟩) (hlen : argsL.length = ps.length) (hst : stk = argsL.reverse ++ .ref a :: rest) (hW : (rest.map fun v => v.category).sum = W) (hd : decode c.code pc = .ok (.invokespecial index, 3)) (hc : cells + rm.cells ≤ R.cells) (hs : slots + rm.slots ≤ R.slots)
    (k : ∀ v T' L, Q v T'.heap L → Stand p l e R (s.setVm T'.vm) m args below meth c T' (locs ++ L) (cells + rm.cells) (slots + rm.slots) → s.Since T'.vm T'.heap.size → Z.Warmed39 (s.setVm T'.vm).vm → (s.setVm T'.vm).vm.findClass own = some m.cls → OG p.tables e below P (T'.setTop (mkF m (pc + 3) ls (v.toList ++ rest)))) : OG p.tables e below P (T.setTop (mkF m pc ls stk)) := by
  obtain ⟨v, _, ⟨T', L', c', n'⟩, -, X', h2, gr, ⟨L, hQ, l1, y1, z1⟩, st⟩ := X.specialBackS hx (y := y) hy1 hown (mvT hZ w1) (mvT hZ w2) (mvT hZ w4) hy hB (g := mkF m pc ls stk) rfl hml (Steps.refl _) (a := a) (argsL := argsL) (rest := rest) (lenOf hps hlen) hst (by rw [← hW]; exact Nat.le_of_eq (Nat.zero_add _)) hd (fun _ _ => ⟨rfl, eT, hc, hs⟩)
  dsimp only [Pt.U, Pt.locs, Pt.cells, Pt.slots] at X' h2 gr l1 y1 z1 st hQ
  obtain ⟨X2, hS2, hZ2, hown2⟩ := rebS hS (by rw [eT]; exact hk) X' h2 gr hZ hown
  subst l1 y1 z1
  exact og (fun _ q => st.trans q) (k v T' L hQ X2 hS2 hZ2 hown2)
theorem o_i2bO {tb : Tables} [Ours tb] {target : State} {x : Int32} (j : At T m c below ∧ tb.exec = Jvm.exec) (hd : decode c.code pc = .ok (.i2b, 1)) (hr : Steps tb e below (T.setTop (mkF m (pc + 1) ls (.int (own_b x) :: stk))) target) : Steps tb e below (T.setTop (mkF m pc ls (.int x :: stk))) target := XT.i2b (g := mkF m pc ls (.int x :: stk)) j.1 j.2 rfl hd rfl hr
theorem o_i2cO {tb : Tables} [Ours tb] {target : State} {x : Int32} (j : At T m c below ∧ tb.exec = Jvm.exec) (hd : decode c.code pc = .ok (.i2c, 1)) (hr : Steps tb e below (T.setTop (mkF m (pc + 1) ls (.int (own_i2c x) :: stk))) target) : Steps tb e below (T.setTop (mkF m pc ls (.int x :: stk))) target := XT.i2c (g := mkF m pc ls (.int x :: stk)) j.1 j.2 rfl hd rfl hr
theorem o_iincL {tb : Tables} [Ours tb] {target : State} {k : Nat} {cst : Int} {x : Int32} {l' : Array Slot} (j : At T m c below ∧ tb.exec = Jvm.exec) (v : Int32) (hd : decode c.code pc = .ok (.iinc k cst, 3)) (hv : Int32.ofInt cst = v) (w : Int32) (hw : x + v = w) (hl : ls[k]? = some (.val (.int x))) (hl' : storeLocals ls k (.int w) = some l') (hr : Steps tb e below (T.setTop (mkF m (pc + 3) l' stk)) target) : Steps tb e below (T.setTop (mkF m pc ls stk)) target := by
  subst hw
  exact o_iincV j v hd hv hl hl' hr
theorem o_ldcI {target : State} {v : Int32} (X : Stand p l e R s m args below meth c T locs cells slots) (hx : p.tables.exec = Jvm.exec) (hZ : Z.Warmed39 s.vm) (hown : s.vm.findClass own = some m.cls) (w : (Cond.constant own index v).before a0 Z = true) (hd : decode c.code pc = .ok (.ldc index, 2)) (hr : Steps p.tables e below (T.setTop (mkF m (pc + 2) ls (.int v :: stk))) target) : Steps p.tables e below (T.setTop (mkF m pc ls stk)) target := X.ldcI hx hown (mvT hZ w) (g := mkF m pc ls stk) rfl hd hr
theorem o_baload {target : State} {j : Int32} {v : Value} {q : ClassId} {n : Int32} {vs : List Value} {dv : Value} (X : Stand p l e R s m args below meth c T locs cells slots) (hx : p.tables.exec = Jvm.exec) (hZ : Z.Warmed39 s.vm) (eT : T.heap = h) (F : Arv Z h a q .byte n vs dv) (hj : ¬ j < 0 ∧ j < n) (hv : vs.getD j.toNatClampNeg dv = v) (hd : decode c.code pc = .ok (.baload, 1))
    (hr : Steps p.tables e below (T.setTop (mkF m (pc + 1) ls (v :: rest))) target) : Steps p.tables e below (T.setTop (mkF m pc ls (.int j :: .ref a :: rest))) target := by
  obtain ⟨cl, A, -, S, -, H, -⟩ := F
  exact X.baloadBytes hx (by rw [eT]; exact A.1) (State.isArrayOf_alike hZ.alike A.2.1) A.2.2 (inb_of S hj) (H.at (inb_of S hj) hv) (g := mkF m pc ls (.int j :: .ref a :: rest)) rfl rfl hd _ hr
theorem o_caload {target : State} {j : Int32} {v : Value} {q : ClassId} {n : Int32} {vs : List Value} {dv : Value} (X : Stand p l e R s m args below meth c T locs cells slots) (hx : p.tables.exec = Jvm.exec) (hZ : Z.Warmed39 s.vm) (eT : T.heap = h) (F : Arv Z h a q .char n vs dv) (hj : ¬ j < 0 ∧ j < n) (hv : vs.getD j.toNatClampNeg dv = v) (hd : decode c.code pc = .ok (.caload, 1))
    (hr : Steps p.tables e below (T.setTop (mkF m (pc + 1) ls (v :: rest))) target) : Steps p.tables e below (T.setTop (mkF m pc ls (.int j :: .ref a :: rest))) target := by
  obtain ⟨cl, A, -, S, -, H, -⟩ := F
  exact X.caload hx (by rw [eT]; exact A.1) (State.isArrayOf_alike hZ.alike A.2.1) A.2.2 (inb_of S hj) (H.at (inb_of S hj) hv) (g := mkF m pc ls (.int j :: .ref a :: rest)) rfl rfl hd _ hr
theorem o_alen {target : State} {ty : FieldType} {q : ClassId} {n : Int32} {vs : List Value} {dv : Value} (X : Stand p l e R s m args below meth c T locs cells slots) (hx : p.tables.exec = Jvm.exec) (hZ : Z.Warmed39 s.vm) (eT : T.heap = h) (F : Arv Z h a q ty n vs dv) (hd : decode c.code pc = .ok (.arraylength, 1))
    (hr : Steps p.tables e below (T.setTop (mkF m (pc + 1) ls (.int n :: rest))) target) : Steps p.tables e below (T.setTop (mkF m pc ls (.ref a :: rest))) target := by
  obtain ⟨cl, A, -, S, M, -⟩ := F
  refine X.arraylength hx (by rw [eT]; exact A.1) (State.isArrayOf_alike hZ.alike A.2.1) (g := mkF m pc ls (.ref a :: rest)) rfl rfl hd _ ?_
  rw [len_of S M]; exact hr
theorem g_stB {j x v : Int32} {q : ClassId} {n : Int32} {vs : List Value} {dv : Value} (i : Nat) (X : Stand p l e R s m args below meth c T locs cells slots) (hx : p.tables.exec = Jvm.exec) (hZ : Z.Warmed39 s.vm) (eT : T.heap = h) (F : Arv Z h a q .byte n vs dv) (hj : ¬ j < 0 ∧ j < n) (hi : j.toNatClampNeg = i) (hl : i < vs.length) (hv : nar .byte x = v) (hd : decode c.code pc = .ok (.bastore, 1))
    (k : ∀ T' h', Stand p l e R s m args below meth c T' (locs ++ [⟨a, j.toNatClampNeg⟩]) cells slots → T'.heap = h' → Wr h h' a j.toNatClampNeg (.int v) → Arv Z h' a q .byte n (vs.set i (.int v)) dv → OG p.tables e below P (T'.setTop (mkF m (pc + 1) ls rest))) : OG p.tables e below P (T.setTop (mkF m pc ls (.int x :: .int j :: .ref a :: rest))) := by
  subst hv
  obtain ⟨cl, A, q1, S, M, H, G⟩ := F
  obtain ⟨T', h', X', e', W', st⟩ := stB X hx hZ eT A (j := j) (inb_of S hj) (g := mkF m pc ls (.int x :: .int j :: .ref a :: rest)) rfl rfl hd
  exact og st (k T' h' X' e' W' (Arv.set A q1 S M H G (fits_nar_byte x) W' i hi hl))
theorem g_stC {j x v : Int32} {q : ClassId} {n : Int32} {vs : List Value} {dv : Value} (i : Nat) (X : Stand p l e R s m args below meth c T locs cells slots) (hx : p.tables.exec = Jvm.exec) (hZ : Z.Warmed39 s.vm) (eT : T.heap = h) (F : Arv Z h a q .char n vs dv) (hj : ¬ j < 0 ∧ j < n) (hi : j.toNatClampNeg = i) (hl : i < vs.length) (hv : nar .char x = v) (hd : decode c.code pc = .ok (.castore, 1))
    (k : ∀ T' h', Stand p l e R s m args below meth c T' (locs ++ [⟨a, j.toNatClampNeg⟩]) cells slots → T'.heap = h' → Wr h h' a j.toNatClampNeg (.int v) → Arv Z h' a q .char n (vs.set i (.int v)) dv → OG p.tables e below P (T'.setTop (mkF m (pc + 1) ls rest))) : OG p.tables e below P (T.setTop (mkF m pc ls (.int x :: .int j :: .ref a :: rest))) := by
  subst hv
  obtain ⟨cl, A, q1, S, M, H, G⟩ := F
  obtain ⟨T', h', X', e', W', st⟩ := stC X hx hZ eT A (j := j) (inb_of S hj) (g := mkF m pc ls (.int x :: .int j :: .ref a :: rest)) rfl rfl hd
  exact og st (k T' h' X' e' W' (Arv.set A q1 S M H G (fits_nar_char x) W' i hi hl))
theorem g_cast {C K : String} (X : Stand p l e R s m args below meth c T locs cells slots) (hx : p.tables.exec = Jvm.exec) (hZ : Z.Warmed39 s.vm) (hown : s.vm.findClass own = some m.cls) (w : (Cond.classLink own index K).before a0 Z = true) (eT : T.heap = h) (F : Ins Z h a K true) (hd : decode c.code pc = .ok (.checkcast index, 3))
    (k : ∀ T', Stand p l e R s m args below meth c T' locs cells slots → T'.heap = h → OG p.tables e below P (T'.setTop (mkF m (pc + 3) ls (.ref a :: rest)))) : OG p.tables e below P (T.setTop (mkF m pc ls (.ref a :: rest))) := by
  obtain ⟨T', X', e', st⟩ := castY X hx hZ hown w eT F (g := mkF m pc ls (.ref a :: rest)) rfl rfl hd
  exact og st (k T' X' e')
theorem cS {nl : Nat} (argsL rest : List Value) (W : Nat) (X : Stand p l e R s m args below meth c T locs cells slots) (hx : p.tables.exec = Jvm.exec) (hZ : Z.Warmed39 s.vm) (hown : s.vm.findClass own = some m.cls) (w1 : (Cond.methodLink own index y).before a0 Z = true) (w2 : (Cond.static y).before a0 Z = true) (w3 : (Cond.initialized y.cls).before a0 Z = true) (w4 : (Cond.code y bytes maxL ret).before a0 Z = true) (hM : MetFree l y (head1 [Cond.code y bytes maxL ret] rm) (fun a U => a = argsL.toArray ∧ Z.Warmed39 U.vm ∧ U.heap = h) (fun _ _ _ _ _ => True) (fun _ U o U' => ∃ v L, o = .returned v ∧ Q v U'.heap L ∧ FrameEnd U o U' L rm.cells rm.slots)) (eT : T.heap = h) (hml : c.maxLocals = nl) (hps : parseMethodDescriptor y.desc = some ⟨ps, r⟩) (hd : decode c.code pc = .ok (.invokestatic index, 3)) (k : ∀ v T' L, Q v T'.heap L → Stand p l e R s m args below meth c T' (locs ++ L) (cells + rm.cells) (slots + rm.slots) → OG p.tables e below P (T'.setTop (mkF m (pc + 3) ls (v.toList ++ rest)))) (hy : y.cls ≠ "java/lang/invoke/MethodHandle" ∧ y.cls ≠ "java/lang/invoke/VarHandle" := by decide) (hls : ls.size = nl := by rfl) (hlen : argsL.length = ps.length := by rfl) (hst : stk = argsL.reverse ++ rest := by rfl) (hW : (rest.map fun v => v.category).sum = W := by rfl) (hf : rm.frames + 1 ≤ R.frames := by decide) (hl : W + (maxL + 11) + rm.locals ≤ R.locals := by decide) (hc : cells + rm.cells ≤ R.cells := by decide) (hs : slots + rm.slots ≤ R.slots := by decide) : OG p.tables e below P (T.setTop (mkF m pc ls stk)) := g_callS X hx hZ hown w1 w2 w3 w4 hy hM eT (by rw [hml]; exact hls) hps hlen hst hW hd hf hl hc hs k
theorem cI {nl : Nat} (a : Addr) (argsL rest : List Value) (W : Nat) (X : Stand p l e R s m args below meth c T locs cells slots) (hx : p.tables.exec = Jvm.exec) (hZ : Z.Warmed39 s.vm) (hown : s.vm.findClass own = some m.cls) (w1 : (Cond.methodLink own index y).before a0 Z = true) (w2 : (Cond.instanceMethod y).before a0 Z = true) (w3 : (Cond.initialized y.cls).before a0 Z = true) (w4 : (Cond.code y bytes maxL none).before a0 Z = true) (hM : MetFree l y (head1 [Cond.code y bytes maxL none] rm) (fun b U => b = (.ref a :: argsL).toArray ∧ Z.Warmed39 U.vm ∧ U.heap = h) (fun _ _ _ _ _ => True) (fun _ U o U' => ∃ v L, o = .returned v ∧ Q v U'.heap L ∧ FrameEnd U o U' L rm.cells rm.slots)) (eT : T.heap = h) (hml : c.maxLocals = nl) (hps : parseMethodDescriptor y.desc = some ⟨ps, r⟩) (hd : decode c.code pc = .ok (.invokespecial index, 3)) (k : ∀ v T' L, Q v T'.heap L → Stand p l e R s m args below meth c T' (locs ++ L) (cells + rm.cells) (slots + rm.slots) → OG p.tables e below P (T'.setTop (mkF m (pc + 3) ls (v.toList ++ rest)))) (hy1 : y.name = "<init>" := by rfl) (hy : y.cls ≠ "java/lang/invoke/MethodHandle" ∧ y.cls ≠ "java/lang/invoke/VarHandle" := by decide) (hls : ls.size = nl := by rfl) (hlen : argsL.length = ps.length := by rfl) (hst : stk = argsL.reverse ++ .ref a :: rest := by rfl) (hW : (rest.map fun v => v.category).sum = W := by rfl) (hf : rm.frames + 1 ≤ R.frames := by decide) (hl : W + (maxL + 11) + rm.locals ≤ R.locals := by decide) (hc : cells + rm.cells ≤ R.cells := by decide) (hs : slots + rm.slots ≤ R.slots := by decide) : OG p.tables e below P (T.setTop (mkF m pc ls stk)) := g_callI X hx hZ hown hy1 w1 w2 w3 w4 hy hM eT (by rw [hml]; exact hls) hps hlen hst hW hd hf hl hc hs k
theorem cV {C : String} {nl : Nat} (a : Addr) (argsL rest : List Value) (W : Nat) (X : Stand p l e R s m args below meth c T locs cells slots) (hx : p.tables.exec = Jvm.exec) (hZ : Z.Warmed39 s.vm) (hown : s.vm.findClass own = some m.cls) (w1 : (Cond.methodLink own index y).before a0 Z = true) (w2 : (Cond.declares y).before a0 Z = true) (w5 : (Cond.selects C y y).before a0 Z = true) (w6 : (Cond.instanceMethod y).before a0 Z = true) (w3 : (Cond.initialized y.cls).before a0 Z = true) (w4 : (Cond.code y bytes maxL ret).before a0 Z = true) (hM : MetFree l y (head1 [Cond.code y bytes maxL ret] rm) (fun b U => b = (.ref a :: argsL).toArray ∧ Z.Warmed39 U.vm ∧ U.heap = h) (fun _ _ _ _ _ => True) (fun _ U o U' => ∃ v L, o = .returned v ∧ Q v U'.heap L ∧ FrameEnd U o U' L rm.cells rm.slots)) (eT : T.heap = h) (E : Exa Z h a C) (hml : c.maxLocals = nl) (hps : parseMethodDescriptor y.desc = some ⟨ps, r⟩) (hd : decode c.code pc = .ok (.invokevirtual index, 3)) (k : ∀ v T' L, Q v T'.heap L → Stand p l e R s m args below meth c T' (locs ++ L) (cells + rm.cells) (slots + rm.slots) → OG p.tables e below P (T'.setTop (mkF m (pc + 3) ls (v.toList ++ rest)))) (hy : y.cls ≠ "java/lang/invoke/MethodHandle" ∧ y.cls ≠ "java/lang/invoke/VarHandle" := by decide) (hls : ls.size = nl := by rfl) (hlen : argsL.length = ps.length := by rfl) (hst : stk = argsL.reverse ++ .ref a :: rest := by rfl) (hW : (rest.map fun v => v.category).sum = W := by rfl) (hf : rm.frames + 1 ≤ R.frames := by decide) (hl : W + (maxL + 11) + rm.locals ≤ R.locals := by decide) (hc : cells + rm.cells ≤ R.cells := by decide) (hs : slots + rm.slots ≤ R.slots := by decide) : OG p.tables e below P (T.setTop (mkF m pc ls stk)) := g_callV X hx hZ hown w1 w2 w5 w6 w3 w4 hy hM eT E (by rw [hml]; exact hls) hps hlen hst hW hd hf hl hc hs k
theorem cF {C : String} {count : Nat} {nl : Nat} (y z : MethodName) (a : Addr) (argsL rest : List Value) (W : Nat) (X : Stand p l e R s m args below meth c T locs cells slots) (hx : p.tables.exec = Jvm.exec) (hZ : Z.Warmed39 s.vm) (hown : s.vm.findClass own = some m.cls) (w1 : (Cond.methodLink own index y).before args s = true) (w2 : (Cond.declares y).before args s = true) (w7 : (Cond.interfaceMethod y.cls y.cls y.name y.desc).before args s = true) (w5 : (Cond.selects C y z).before args s = true) (w6 : (Cond.instanceMethod z).before args s = true) (w8 : (Cond.publicMethod z).before args s = true) (w9 : (Cond.unhidden C y.name y.desc).before args s = true) (wc : (Cond.castable C y.cls).before args s = true) (w3 : (Cond.initialized z.cls).before a0 Z = true) (w4 : (Cond.code z bytes maxL ret).before a0 Z = true) (hM : MetFree l z (head1 [Cond.code z bytes maxL ret] rm) (fun b U => b = (.ref a :: argsL).toArray ∧ Z.Warmed39 U.vm ∧ U.heap = h) (fun _ _ _ _ _ => True) (fun _ U o U' => ∃ v L, o = .returned v ∧ Q v U'.heap L ∧ FrameEnd U o U' L rm.cells rm.slots)) (eT : T.heap = h) (E : Exa Z h a C) (hml : c.maxLocals = nl) (hps : parseMethodDescriptor y.desc = some ⟨ps, r⟩) (hd : decode c.code pc = .ok (.invokeinterface index count, 5)) (k : ∀ v T' L, Q v T'.heap L → Stand p l e R s m args below meth c T' (locs ++ L) (cells + rm.cells) (slots + rm.slots) → OG p.tables e below P (T'.setTop (mkF m (pc + 5) ls (v.toList ++ rest)))) (hy : y.cls ≠ "java/lang/invoke/MethodHandle" ∧ y.cls ≠ "java/lang/invoke/VarHandle" := by decide) (hls : ls.size = nl := by rfl) (hlen : argsL.length = ps.length := by rfl) (hst : stk = argsL.reverse ++ .ref a :: rest := by rfl) (hW : (rest.map fun v => v.category).sum = W := by rfl) (hf : rm.frames + 1 ≤ R.frames := by decide) (hl : W + (maxL + 11) + rm.locals ≤ R.locals := by decide) (hc : cells + rm.cells ≤ R.cells := by decide) (hs : slots + rm.slots ≤ R.slots := by decide) : OG p.tables e below P (T.setTop (mkF m pc ls stk)) := g_callF X hx hZ hown w1 w2 w7 w5 w6 w8 w9 wc w3 w4 hy hM eT E (by rw [hml]; exact hls) hps hlen hst hW hd hf hl hc hs k
theorem cSS {nl : Nat} (argsL rest : List Value) (W : Nat) (X : Stand p l e R (s.setVm vm0) m args below meth c T locs cells slots) (hx : p.tables.exec = Jvm.exec) (hZ : Z.Warmed39 (s.setVm vm0).vm) (hown : (s.setVm vm0).vm.findClass own = some m.cls) (hS : s.Since vm0 k0) (hk : k0 ≤ h.size) (w1 : (Cond.methodLink own index y).before a0 Z = true) (w2 : (Cond.static y).before a0 Z = true) (w3 : (Cond.initialized y.cls).before a0 Z = true) (w4 : (Cond.code y bytes maxL ret).before a0 Z = true) (hM : MetFree l y (head1 [Cond.code y bytes maxL ret] rm) (fun a U => a = argsL.toArray ∧ Z.Warmed39 U.vm ∧ U.heap = h) (fun _ _ _ _ _ => True) (fun _ U o U' => ∃ v L, o = .returned v ∧ Q v U'.heap L ∧ ReturnedEndW U o U' L rm.cells rm.slots)) (eT : T.heap = h) (hml : c.maxLocals = nl) (hps : parseMethodDescriptor y.desc = some ⟨ps, r⟩) (hd : decode c.code pc = .ok (.invokestatic index, 3)) (k : ∀ v T' L, Q v T'.heap L → Stand p l e R (s.setVm T'.vm) m args below meth c T' (locs ++ L) (cells + rm.cells) (slots + rm.slots) → s.Since T'.vm T'.heap.size → Z.Warmed39 (s.setVm T'.vm).vm → (s.setVm T'.vm).vm.findClass own = some m.cls → OG p.tables e below P (T'.setTop (mkF m (pc + 3) ls (v.toList ++ rest)))) (hy : y.cls ≠ "java/lang/invoke/MethodHandle" ∧ y.cls ≠ "java/lang/invoke/VarHandle" := by decide) (hls : ls.size = nl := by rfl) (hlen : argsL.length = ps.length := by rfl) (hst : stk = argsL.reverse ++ rest := by rfl) (hW : (rest.map fun v => v.category).sum = W := by rfl) (hf : rm.frames + 1 ≤ R.frames := by decide) (hl : W + (maxL + 11) + rm.locals ≤ R.locals := by decide) (hc : cells + rm.cells ≤ R.cells := by decide) (hs : slots + rm.slots ≤ R.slots := by decide) : OG p.tables e below P (T.setTop (mkF m pc ls stk)) := g_callSS X hx hZ hown hS hk w1 w2 w3 w4 hy hM eT (by rw [hml]; exact hls) hps hlen hst hW hd hf hl hc hs k
theorem cIS {nl : Nat} (a : Addr) (argsL rest : List Value) (W : Nat) (X : Stand p l e R (s.setVm vm0) m args below meth c T locs cells slots) (hx : p.tables.exec = Jvm.exec) (hZ : Z.Warmed39 (s.setVm vm0).vm) (hown : (s.setVm vm0).vm.findClass own = some m.cls) (hS : s.Since vm0 k0) (hk : k0 ≤ h.size) (w1 : (Cond.methodLink own index y).before a0 Z = true) (w2 : (Cond.instanceMethod y).before a0 Z = true) (w4 : (Cond.code y bytes maxL none).before a0 Z = true) (hB : BackS l R p e below (s.setVm vm0) args y 3 W (fun A b => b = (.ref a :: argsL).toArray ∧ A.U.heap = h ∧ A.cells + rm.cells ≤ R.cells ∧ A.slots + rm.slots ≤ R.slots) (fun A _ v B => ∃ L, Q v B.U.heap L ∧ B.locs = A.locs ++ L ∧ B.cells = A.cells + rm.cells ∧ B.slots = A.slots + rm.slots)) (eT : T.heap = h) (hml : c.maxLocals = nl) (hps : parseMethodDescriptor y.desc = some ⟨ps, r⟩) (hd : decode c.code pc = .ok (.invokespecial index, 3)) (k : ∀ v T' L, Q v T'.heap L → Stand p l e R (s.setVm T'.vm) m args below meth c T' (locs ++ L) (cells + rm.cells) (slots + rm.slots) → s.Since T'.vm T'.heap.size → Z.Warmed39 (s.setVm T'.vm).vm → (s.setVm T'.vm).vm.findClass own = some m.cls → OG p.tables e below P (T'.setTop (mkF m (pc + 3) ls (v.toList ++ rest)))) (hy1 : y.name = "<init>" := by rfl) (hy : y.cls ≠ "java/lang/invoke/MethodHandle" ∧ y.cls ≠ "java/lang/invoke/VarHandle" := by decide) (hls : ls.size = nl := by rfl) (hlen : argsL.length = ps.length := by rfl) (hst : stk = argsL.reverse ++ .ref a :: rest := by rfl) (hW : (rest.map fun v => v.category).sum = W := by rfl) (hc : cells + rm.cells ≤ R.cells := by decide) (hs : slots + rm.slots ≤ R.slots := by decide) : OG p.tables e below P (T.setTop (mkF m pc ls stk)) := g_callIS X hx hZ hown hS hk hy1 w1 w2 w4 hy hB eT (by rw [hml]; exact hls) hps hlen hst hW hd hc hs k
theorem cO {nl : Nat} (W : Nat) (X : Stand p l e R s m args below meth c T locs cells slots) (hx : p.tables.exec = Jvm.exec) (hZ : Z.Warmed39 s.vm) (hown : s.vm.findClass own = some m.cls) (w1 : (Cond.methodLink own index Lib.objectInit).before a0 Z = true) (w2 : (Cond.instanceMethod Lib.objectInit).before a0 Z = true) (w3 : (Cond.code Lib.objectInit ⟨#[0xb1]⟩ 1 none).before a0 Z = true) (eT : T.heap = h) (hml : c.maxLocals = nl) (hd : decode c.code pc = .ok (.invokespecial index, 3)) (k : ∀ T', Stand p l e R s m args below meth c T' locs cells slots → T'.heap = h → OG p.tables e below P (T'.setTop (mkF m (pc + 3) ls rest))) (hls : ls.size = nl := by rfl) (hf : 1 ≤ R.frames := by decide) (hW : (rest.map fun v => v.category).sum = W := by rfl) (hl : W + 12 ≤ R.locals := by decide) : OG p.tables e below P (T.setTop (mkF m pc ls (.ref a :: rest))) := g_initO X hx hZ hown w1 w2 w3 eT (by rw [hml]; exact hls) hd hf hW hl k
theorem sB {j x v : Int32} {q : ClassId} {n : Int32} {vs : List Value} {dv : Value} (i : Nat) (X : Stand p l e R s m args below meth c T locs cells slots) (hx : p.tables.exec = Jvm.exec) (hZ : Z.Warmed39 s.vm) (eT : T.heap = h) (F : Arv Z h a q .byte n vs dv) (hv : nar .byte x = v) (hd : decode c.code pc = .ok (.bastore, 1)) (k : ∀ T' h', Stand p l e R s m args below meth c T' (locs ++ [⟨a, j.toNatClampNeg⟩]) cells slots → T'.heap = h' → Wr h h' a j.toNatClampNeg (.int v) → Arv Z h' a q .byte n (vs.set i (.int v)) dv → OG p.tables e below P (T'.setTop (mkF m (pc + 1) ls rest))) (hj : ¬ j < 0 ∧ j < n := by decide) (hi : j.toNatClampNeg = i := by decide) (hl : i < vs.length := by exact Nat.le_of_ble_eq_true rfl) : OG p.tables e below P (T.setTop (mkF m pc ls (.int x :: .int j :: .ref a :: rest))) := g_stB i X hx hZ eT F hj hi hl hv hd k
theorem sC {j x v : Int32} {q : ClassId} {n : Int32} {vs : List Value} {dv : Value} (i : Nat) (X : Stand p l e R s m args below meth c T locs cells slots) (hx : p.tables.exec = Jvm.exec) (hZ : Z.Warmed39 s.vm) (eT : T.heap = h) (F : Arv Z h a q .char n vs dv) (hv : nar .char x = v) (hd : decode c.code pc = .ok (.castore, 1)) (k : ∀ T' h', Stand p l e R s m args below meth c T' (locs ++ [⟨a, j.toNatClampNeg⟩]) cells slots → T'.heap = h' → Wr h h' a j.toNatClampNeg (.int v) → Arv Z h' a q .char n (vs.set i (.int v)) dv → OG p.tables e below P (T'.setTop (mkF m (pc + 1) ls rest))) (hj : ¬ j < 0 ∧ j < n := by decide) (hi : j.toNatClampNeg = i := by decide) (hl : i < vs.length := by exact Nat.le_of_ble_eq_true rfl) : OG p.tables e below P (T.setTop (mkF m pc ls (.int x :: .int j :: .ref a :: rest))) := g_stC i X hx hZ eT F hj hi hl hv hd k
theorem nO {C : String} {n : Nat} (X : Stand p l e R s m args below meth c T locs cells slots) (hx : p.tables.exec = Jvm.exec) (hZ : Z.Warmed39 s.vm) (hown : s.vm.findClass own = some m.cls) (w : (Cond.classLink own index C).before a0 Z = true) (wi : (Cond.instantiable C n).before a0 Z = true) (wz : (Cond.initialized C).before a0 Z = true) (eT : T.heap = h) (hd : decode c.code pc = .ok (.new index, 3)) (k : ∀ T' h' a, a = h.size → Stand p l e R s m args below meth c T' locs (cells + 1) (slots + n) → T'.heap = h' → Ext h h' → Exa Z h' a C → (∀ {O nm d : String} {ty : FieldType}, Laid Z a0 C O nm d → parseFieldDescriptor d = some ty → Fld Z h' a O nm d (defaultValue ty)) → OG p.tables e below P (T'.setTop (mkF m (pc + 3) ls (.ref a :: stk)))) (hc : cells + 1 ≤ R.cells := by decide) (hl : slots + n ≤ R.slots := by decide) : OG p.tables e below P (T.setTop (mkF m pc ls stk)) := g_newO X hx hZ hown w wi wz eT hd hc hl k
theorem nP {aty : ArrayType} {n : Int32} (ty : FieldType) (cap : Nat) (ad : String) (X : Stand p l e R s m args below meth c T locs cells slots) (hx : p.tables.exec = Jvm.exec) (hZ : Z.Warmed39 s.vm) (w : (Cond.arrayClass ty).before a0 Z = true) (eT : T.heap = h) (hd : decode c.code pc = .ok (.newarray aty, 2)) (k : ∀ T' h' a q, a = h.size → Stand p l e R s m args below meth c T' locs (cells + 1) (slots + cap) → T'.heap = h' → Ext h h' → Arv Z h' a q ty n [] (defaultValue ty) → Exa Z h' a ad → OG p.tables e below P (T'.setTop (mkF m (pc + 2) ls (.ref a :: rest)))) (hty : newarray.typeOf aty = ty := by rfl) (hn : ¬ n < 0 := by decide) (hcap : n.toNatClampNeg ≤ cap := by decide) (hb : cap * 8 ≤ 536870912 := by decide) (hc : cells + 1 ≤ R.cells := by decide) (hl : slots + cap ≤ R.slots := by decide) (had : "[" ++ ty.toString = ad := by decide) : OG p.tables e below P (T.setTop (mkF m pc ls (.int n :: rest))) := g_newP X hx hZ hty w eT hd hn hcap hb hc hl had k
theorem pF {R0 n d C : String} {kk : Nat} {v old : Value} (ty : FieldType) (X : Stand p l e R s m args below meth c T locs cells slots) (hx : p.tables.exec = Jvm.exec) (hZ : Z.Warmed39 s.vm) (hown : s.vm.findClass own = some m.cls) (w : (Cond.fieldLink own index R0 n d).before a0 Z = true) (eT : T.heap = h) (F : Fld Z h a R0 n d old) (E : Exa Z h a C) (L : (Cond.lays C R0 n d).before a0 Z = true ∨ ((Cond.laysFinal C R0 n d).before a0 Z = true ∧ own = R0 ∧ meth.name = "<init>")) (wi : (Cond.instantiable C kk).before a0 Z = true) (hd : decode c.code pc = .ok (.putfield index, 3)) (k : ∀ T' h', Stand p l e R s m args below meth c T' (locs ++ [⟨a, Jvm.RoadKit.slotOf Z R0 n d⟩]) cells slots → T'.heap = h' → Wr h h' a (Jvm.RoadKit.slotOf Z R0 n d) v → OG p.tables e below P (T'.setTop (mkF m (pc + 3) ls rest))) (hty : parseFieldDescriptor d = some ty := by decide) (hn : narrow ty v = v := by rfl) (hf : fits ty v = true := by rfl) : OG p.tables e below P (T.setTop (mkF m pc ls (v :: .ref a :: rest))) := g_putF X hx hZ hown w eT F E L wi hty hn hf hd k
theorem og2 {A B : State} (X : Stand p l e R s m args below meth c T locs cells slots) (hx : p.tables.exec = Jvm.exec) (h : (At T m c below ∧ p.tables.exec = Jvm.exec) → ∀ t, Steps p.tables e below B t → Steps p.tables e below A t) (k : OG p.tables e below P B) : OG p.tables e below P A := og (h ⟨X.here, hx⟩) k
theorem og_leave {R' : Room} {v : Option Value} {A : State} (X : Stand p l e R s m args below meth c T locs cells slots) (hv : meth.sig.returnType = none → v = none) (hlk : meth.locks = false) (eT : T.heap = h) (hc : cells ≤ R'.cells) (hs : slots ≤ R'.slots) (hQ : Q v h locs) (st : ∀ fs, (∀ (f : JFrame) (acts : List Action), f.method = m → f.locked = none → f.entered = [] → (doReturn e (T.setTop f) acts v).1 = T.setFrames fs) → Steps p.tables e below A (T.setFrames fs)) : OG p.tables e below (fun o u => ∃ v L, o = .returned v ∧ Q v u.heap L ∧ FrameEnd s o u L R'.cells R'.slots) A := by
  obtain ⟨fs, hr, hrun, hended, hW, hsame⟩ := X.leave (v := v) hv hlk
  refine ⟨_, _, st fs hr, hrun, hended, v, locs, rfl, ?_, ⟨_, rfl⟩, hW, hsame.mono hc hs⟩
  show Q v T.heap locs
  rw [eT]; exact hQ
theorem og_leaveW {R' : Room} {v : Option Value} {A : State} (X : Stand p l e R (s.setVm vm0) m args below meth c T locs cells slots) (hS : s.Since vm0 k0) (hk : k0 ≤ h.size) (hv : meth.sig.returnType = none → v = none) (hlk : meth.locks = false) (eT : T.heap = h) (hc : cells ≤ R'.cells) (hs : slots ≤ R'.slots) (hQ : Q v h locs) (st : ∀ fs, (∀ (f : JFrame) (acts : List Action), f.method = m → f.locked = none → f.entered = [] → (doReturn e (T.setTop f) acts v).1 = T.setFrames fs) → Steps p.tables e below A (T.setFrames fs)) : OG p.tables e below (fun o u => ∃ v L, o = .returned v ∧ Q v u.heap L ∧ ReturnedEndW s o u L R'.cells R'.slots) A := by
  obtain ⟨fs, hr, hrun, hended, hend⟩ := X.leaveW hS (by rw [eT]; exact hk) (v := v) hv hlk
  refine ⟨_, _, st fs hr, hrun, hended, v, locs, rfl, ?_, hend.1, hend.2.1, hend.2.2.1, hend.2.2.2.mono hc hs⟩
  show Q v T.heap locs
  rw [eT]; exact hQ
theorem rI {S : Spec} {s₁ : State} {R' : Room} {z : Int32} (X : Stand p l e R s m args below meth c T locs cells slots) (hx : p.tables.exec = Jvm.exec) (Bd : BodyLoose p l y S bytes maxL (some .int) e s m args below meth c s₁) (hd : decode c.code pc = .ok (.ireturn, 1)) (eT : T.heap = h) (hQ : Q (some (.int z)) h locs) (hc : cells ≤ R'.cells := by decide) (hs : slots ≤ R'.slots := by decide) : OG p.tables e below (fun o u => ∃ v L, o = .returned v ∧ Q v u.heap L ∧ FrameEnd s o u L R'.cells R'.slots) (T.setTop (mkF m pc ls ((.int z) :: rest))) := og_leave X (fun q => by rw [Bd.returns] at q; cases q) Bd.notSynchronized eT hc hs hQ (fun fs hr => retOut X hx Bd.returns rfl (Or.inl ⟨rfl, Or.inl rfl, _, rfl⟩) hd hr)
theorem rN {S : Spec} {s₁ : State} {R' : Room} {t : FieldType} {z v : Int32} (X : Stand p l e R s m args below meth c T locs cells slots) (hx : p.tables.exec = Jvm.exec) (Bd : BodyLoose p l y S bytes maxL (some t) e s m args below meth c s₁) (ht : t = .boolean ∨ t = .byte ∨ t = .char ∨ t = .short) (hv : nar t z = v) (hd : decode c.code pc = .ok (.ireturn, 1)) (eT : T.heap = h) (hQ : Q (some (.int v)) h locs) (hc : cells ≤ R'.cells := by decide) (hs : slots ≤ R'.slots := by decide) : OG p.tables e below (fun o u => ∃ v L, o = .returned v ∧ Q v u.heap L ∧ FrameEnd s o u L R'.cells R'.slots) (T.setTop (mkF m pc ls ((.int z) :: rest))) := og_leave X (fun q => by rw [Bd.returns] at q; cases q) Bd.notSynchronized eT hc hs hQ (fun fs hr => retN X hx Bd.returns ht hd (by rw [hv]; exact hr))
theorem rJ {S : Spec} {s₁ : State} {R' : Room} {z : Int64} (X : Stand p l e R s m args below meth c T locs cells slots) (hx : p.tables.exec = Jvm.exec) (Bd : BodyLoose p l y S bytes maxL (some .long) e s m args below meth c s₁) (hd : decode c.code pc = .ok (.lreturn, 1)) (eT : T.heap = h) (hQ : Q (some (.long z)) h locs) (hc : cells ≤ R'.cells := by decide) (hs : slots ≤ R'.slots := by decide) : OG p.tables e below (fun o u => ∃ v L, o = .returned v ∧ Q v u.heap L ∧ FrameEnd s o u L R'.cells R'.slots) (T.setTop (mkF m pc ls ((.long z) :: rest))) := og_leave X (fun q => by rw [Bd.returns] at q; cases q) Bd.notSynchronized eT hc hs hQ (fun fs hr => retOut X hx Bd.returns rfl (Or.inr (Or.inl ⟨rfl, rfl, _, rfl⟩)) hd hr)
theorem rD {S : Spec} {s₁ : State} {R' : Room} {z : UInt64} (X : Stand p l e R s m args below meth c T locs cells slots) (hx : p.tables.exec = Jvm.exec) (Bd : BodyLoose p l y S bytes maxL (some .double) e s m args below meth c s₁) (hd : decode c.code pc = .ok (.dreturn, 1)) (eT : T.heap = h) (hQ : Q (some (.double z)) h locs) (hc : cells ≤ R'.cells := by decide) (hs : slots ≤ R'.slots := by decide) : OG p.tables e below (fun o u => ∃ v L, o = .returned v ∧ Q v u.heap L ∧ FrameEnd s o u L R'.cells R'.slots) (T.setTop (mkF m pc ls ((.double z) :: rest))) := og_leave X (fun q => by rw [Bd.returns] at q; cases q) Bd.notSynchronized eT hc hs hQ (fun fs hr => retOut X hx Bd.returns rfl (Or.inr (Or.inr (Or.inl ⟨rfl, rfl, _, rfl⟩))) hd hr)
theorem rA {S : Spec} {s₁ : State} {R' : Room} {t : FieldType} {v : Value} (X : Stand p l e R s m args below meth c T locs cells slots) (hx : p.tables.exec = Jvm.exec) (Bd : BodyLoose p l y S bytes maxL (some t) e s m args below meth c s₁) (hv : v.isRef = true) (ht : t.isReference = true) (hn : narrow t v = v) (hd : decode c.code pc = .ok (.areturn, 1)) (eT : T.heap = h) (hQ : Q (some (v)) h locs) (hc : cells ≤ R'.cells := by decide) (hs : slots ≤ R'.slots := by decide) : OG p.tables e below (fun o u => ∃ v L, o = .returned v ∧ Q v u.heap L ∧ FrameEnd s o u L R'.cells R'.slots) (T.setTop (mkF m pc ls ((v) :: rest))) := og_leave X (fun q => by rw [Bd.returns] at q; cases q) Bd.notSynchronized eT hc hs hQ (fun fs hr => retOut X hx Bd.returns hn (Or.inr (Or.inr (Or.inr (Or.inr ⟨rfl, ht, hv⟩)))) hd hr)
theorem r0 {S : Spec} {s₁ : State} {R' : Room} (X : Stand p l e R s m args below meth c T locs cells slots) (hx : p.tables.exec = Jvm.exec) (Bd : BodyLoose p l y S bytes maxL none e s m args below meth c s₁) (hd : decode c.code pc = .ok (.return_, 1)) (eT : T.heap = h) (hQ : Q none h locs) (hc : cells ≤ R'.cells := by decide) (hs : slots ≤ R'.slots := by decide) : OG p.tables e below (fun o u => ∃ v L, o = .returned v ∧ Q v u.heap L ∧ FrameEnd s o u L R'.cells R'.slots) (T.setTop (mkF m pc ls [])) := og_leave X (fun _ => rfl) Bd.notSynchronized eT hc hs hQ (fun fs hr => X.returnOut hx Bd.returns hd hr)
theorem rIW {S : Spec} {s₁ : State} {R' : Room} {z : Int32} (X : Stand p l e R (s.setVm vm0) m args below meth c T locs cells slots) (hx : p.tables.exec = Jvm.exec) (Bd : BodyLoose p l y S bytes maxL (some .int) e s m args below meth c s₁) (hS : s.Since vm0 k0) (hk : k0 ≤ h.size) (hd : decode c.code pc = .ok (.ireturn, 1)) (eT : T.heap = h) (hQ : Q (some (.int z)) h locs) (hc : cells ≤ R'.cells := by decide) (hs : slots ≤ R'.slots := by decide) : OG p.tables e below (fun o u => ∃ v L, o = .returned v ∧ Q v u.heap L ∧ ReturnedEndW s o u L R'.cells R'.slots) (T.setTop (mkF m pc ls ((.int z) :: rest))) := og_leaveW X hS hk (fun q => by rw [Bd.returns] at q; cases q) Bd.notSynchronized eT hc hs hQ (fun fs hr => retOut X hx Bd.returns rfl (Or.inl ⟨rfl, Or.inl rfl, _, rfl⟩) hd hr)
theorem rNW {S : Spec} {s₁ : State} {R' : Room} {t : FieldType} {z v : Int32} (X : Stand p l e R (s.setVm vm0) m args below meth c T locs cells slots) (hx : p.tables.exec = Jvm.exec) (Bd : BodyLoose p l y S bytes maxL (some t) e s m args below meth c s₁) (hS : s.Since vm0 k0) (hk : k0 ≤ h.size) (ht : t = .boolean ∨ t = .byte ∨ t = .char ∨ t = .short) (hv : nar t z = v) (hd : decode c.code pc = .ok (.ireturn, 1)) (eT : T.heap = h) (hQ : Q (some (.int v)) h locs) (hc : cells ≤ R'.cells := by decide) (hs : slots ≤ R'.slots := by decide) : OG p.tables e below (fun o u => ∃ v L, o = .returned v ∧ Q v u.heap L ∧ ReturnedEndW s o u L R'.cells R'.slots) (T.setTop (mkF m pc ls ((.int z) :: rest))) := og_leaveW X hS hk (fun q => by rw [Bd.returns] at q; cases q) Bd.notSynchronized eT hc hs hQ (fun fs hr => retN X hx Bd.returns ht hd (by rw [hv]; exact hr))
theorem rJW {S : Spec} {s₁ : State} {R' : Room} {z : Int64} (X : Stand p l e R (s.setVm vm0) m args below meth c T locs cells slots) (hx : p.tables.exec = Jvm.exec) (Bd : BodyLoose p l y S bytes maxL (some .long) e s m args below meth c s₁) (hS : s.Since vm0 k0) (hk : k0 ≤ h.size) (hd : decode c.code pc = .ok (.lreturn, 1)) (eT : T.heap = h) (hQ : Q (some (.long z)) h locs) (hc : cells ≤ R'.cells := by decide) (hs : slots ≤ R'.slots := by decide) : OG p.tables e below (fun o u => ∃ v L, o = .returned v ∧ Q v u.heap L ∧ ReturnedEndW s o u L R'.cells R'.slots) (T.setTop (mkF m pc ls ((.long z) :: rest))) := og_leaveW X hS hk (fun q => by rw [Bd.returns] at q; cases q) Bd.notSynchronized eT hc hs hQ (fun fs hr => retOut X hx Bd.returns rfl (Or.inr (Or.inl ⟨rfl, rfl, _, rfl⟩)) hd hr)
theorem rDW {S : Spec} {s₁ : State} {R' : Room} {z : UInt64} (X : Stand p l e R (s.setVm vm0) m args below meth c T locs cells slots) (hx : p.tables.exec = Jvm.exec) (Bd : BodyLoose p l y S bytes maxL (some .double) e s m args below meth c s₁) (hS : s.Since vm0 k0) (hk : k0 ≤ h.size) (hd : decode c.code pc = .ok (.dreturn, 1)) (eT : T.heap = h) (hQ : Q (some (.double z)) h locs) (hc : cells ≤ R'.cells := by decide) (hs : slots ≤ R'.slots := by decide) : OG p.tables e below (fun o u => ∃ v L, o = .returned v ∧ Q v u.heap L ∧ ReturnedEndW s o u L R'.cells R'.slots) (T.setTop (mkF m pc ls ((.double z) :: rest))) := og_leaveW X hS hk (fun q => by rw [Bd.returns] at q; cases q) Bd.notSynchronized eT hc hs hQ (fun fs hr => retOut X hx Bd.returns rfl (Or.inr (Or.inr (Or.inl ⟨rfl, rfl, _, rfl⟩))) hd hr)
theorem rAW {S : Spec} {s₁ : State} {R' : Room} {t : FieldType} {v : Value} (X : Stand p l e R (s.setVm vm0) m args below meth c T locs cells slots) (hx : p.tables.exec = Jvm.exec) (Bd : BodyLoose p l y S bytes maxL (some t) e s m args below meth c s₁) (hS : s.Since vm0 k0) (hk : k0 ≤ h.size) (hv : v.isRef = true) (ht : t.isReference = true) (hn : narrow t v = v) (hd : decode c.code pc = .ok (.areturn, 1)) (eT : T.heap = h) (hQ : Q (some (v)) h locs) (hc : cells ≤ R'.cells := by decide) (hs : slots ≤ R'.slots := by decide) : OG p.tables e below (fun o u => ∃ v L, o = .returned v ∧ Q v u.heap L ∧ ReturnedEndW s o u L R'.cells R'.slots) (T.setTop (mkF m pc ls ((v) :: rest))) := og_leaveW X hS hk (fun q => by rw [Bd.returns] at q; cases q) Bd.notSynchronized eT hc hs hQ (fun fs hr => retOut X hx Bd.returns hn (Or.inr (Or.inr (Or.inr (Or.inr ⟨rfl, ht, hv⟩)))) hd hr)
theorem r0W {S : Spec} {s₁ : State} {R' : Room} (X : Stand p l e R (s.setVm vm0) m args below meth c T locs cells slots) (hx : p.tables.exec = Jvm.exec) (Bd : BodyLoose p l y S bytes maxL none e s m args below meth c s₁) (hS : s.Since vm0 k0) (hk : k0 ≤ h.size) (hd : decode c.code pc = .ok (.return_, 1)) (eT : T.heap = h) (hQ : Q none h locs) (hc : cells ≤ R'.cells := by decide) (hs : slots ≤ R'.slots := by decide) : OG p.tables e below (fun o u => ∃ v L, o = .returned v ∧ Q v u.heap L ∧ ReturnedEndW s o u L R'.cells R'.slots) (T.setTop (mkF m pc ls [])) := og_leaveW X hS hk (fun _ => rfl) Bd.notSynchronized eT hc hs hQ (fun fs hr => X.returnOut hx Bd.returns hd hr)
theorem o_daload {target : State} {j : Int32} {v : Value} {q : ClassId} {n : Int32} {vs : List Value} {dv : Value} (X : Stand p l e R s m args below meth c T locs cells slots) (hx : p.tables.exec = Jvm.exec) (hZ : Z.Warmed39 s.vm) (eT : T.heap = h) (F : Arv Z h a q .double n vs dv) (hj : ¬ j < 0 ∧ j < n) (hv : vs.getD j.toNatClampNeg dv = v) (hd : decode c.code pc = .ok (.daload, 1))
    (hr : Steps p.tables e below (T.setTop (mkF m (pc + 1) ls (v :: rest))) target) : Steps p.tables e below (T.setTop (mkF m pc ls (.int j :: .ref a :: rest))) target := by
  obtain ⟨cl, A, -, S, -, H, -⟩ := F
  exact X.daload hx (by rw [eT]; exact A.1) (State.isArrayOf_alike hZ.alike A.2.1) A.2.2 (inb_of S hj) (H.at (inb_of S hj) hv) (g := mkF m pc ls (.int j :: .ref a :: rest)) rfl rfl hd _ hr
theorem sD {x : UInt64} {j : Int32} {q : ClassId} {n : Int32} {vs : List Value} {dv : Value} (i : Nat) (X : Stand p l e R s m args below meth c T locs cells slots) (hx : p.tables.exec = Jvm.exec) (hZ : Z.Warmed39 s.vm) (eT : T.heap = h) (F : Arv Z h a q .double n vs dv) (hd : decode c.code pc = .ok (.dastore, 1))
    (k : ∀ T' h', Stand p l e R s m args below meth c T' (locs ++ [⟨a, j.toNatClampNeg⟩]) cells slots → T'.heap = h' → Wr h h' a j.toNatClampNeg (.double x) → Arv Z h' a q .double n (vs.set i (.double x)) dv → OG p.tables e below P (T'.setTop (mkF m (pc + 1) ls rest))) (hj : ¬ j < 0 ∧ j < n := by decide) (hi : j.toNatClampNeg = i := by decide) (hl : i < vs.length := by exact Nat.le_of_ble_eq_true rfl) : OG p.tables e below P (T.setTop (mkF m pc ls (.double x :: .int j :: .ref a :: rest))) := by
  obtain ⟨cl, A, q1, S, M, H, G⟩ := F
  obtain ⟨T', h', X', e', W', st⟩ := stD X hx hZ eT A (j := j) (inb_of S hj) (g := mkF m pc ls (.double x :: .int j :: .ref a :: rest)) rfl rfl hd
  exact og st (k T' h' X' e' W' (Arv.set A q1 S M H G rfl W' i hi hl))
end Og

abbrev R_0_0_0_0 : Room := ({ frames := 0, cells := 0, slots := 0, locals := 0 } : Room)
abbrev k25 := method_3_code
theorem d0_0 : decode k25 0 = .ok (.iload_n 1, 1) := by decide +kernel
theorem d0_1 : decode k25 1 = .ok (.iconst 1, 1) := by decide +kernel
theorem d0_2 : decode k25 2 = .ok (.if_icmp .ne 13, 3) := by decide +kernel
theorem d0_5 : decode k25 5 = .ok (.ldc 24, 2) := by decide +kernel
theorem d0_7 : decode k25 7 = .ok (.iload_n 0, 1) := by decide +kernel
theorem d0_8 : decode k25 8 = .ok (.sipush 1023, 3) := by decide +kernel
theorem d0_11 : decode k25 11 = .ok (.iand, 1) := by decide +kernel
theorem d0_12 : decode k25 12 = .ok (.ior, 1) := by decide +kernel
theorem d0_13 : decode k25 13 = .ok (.i2c, 1) := by decide +kernel
theorem d0_14 : decode k25 14 = .ok (.ireturn, 1) := by decide +kernel
theorem d0_15 : decode k25 15 = .ok (.iload_n 1, 1) := by decide +kernel
theorem d0_16 : decode k25 16 = .ok (.iconst 2, 1) := by decide +kernel
theorem d0_17 : decode k25 17 = .ok (.if_icmp .ne 13, 3) := by decide +kernel
theorem d0_20 : decode k25 20 = .ok (.ldc 26, 2) := by decide +kernel
theorem d0_22 : decode k25 22 = .ok (.iload_n 0, 1) := by decide +kernel
theorem d0_23 : decode k25 23 = .ok (.sipush 1023, 3) := by decide +kernel
theorem d0_26 : decode k25 26 = .ok (.iand, 1) := by decide +kernel
theorem d0_27 : decode k25 27 = .ok (.ior, 1) := by decide +kernel
theorem d0_28 : decode k25 28 = .ok (.i2c, 1) := by decide +kernel
theorem d0_29 : decode k25 29 = .ok (.ireturn, 1) := by decide +kernel
theorem d0_30 : decode k25 30 = .ok (.iload_n 0, 1) := by decide +kernel
theorem d0_31 : decode k25 31 = .ok (.i2c, 1) := by decide +kernel
theorem d0_32 : decode k25 32 = .ok (.ireturn, 1) := by decide +kernel
theorem pn_com_example_unseen_unseen_KeysUtf8PinLaw : plainName "com/example/unseen/unseen/KeysUtf8PinLaw" = true := by first | (simp [plainName, overriddenIn]; done) | decide +kernel
theorem ef0 (m : MethodId) (x0 : Int32) (x1 : Int32) : entryFrame m #[(.int x0), (.int x1)] 2 = (mkF m 0 #[.val (.int x0), .val (.int x1)] []) := by first | (simp [entryFrame, mkF, argsToLocals, Value.category]; done) | rfl
def QPK (Z : State) (qx : Int32) (qm : Int32) (h0 : Heap) (n0 : Nat) (v : Option Value) (h : Heap) (L : List Loc) : Prop := v = some (.int (own_pick qx qm)) ∧ Fr n0 L ∧ h = h0
theorem rmPK (l : Launch) (Z : State) (a0 : Array Value) (hw : HW a0 Z) (ws : List Jvm.Cond) (qx : Int32) (qm : Int32) (h0 : Heap) (n0 : Nat) (Z0 : n0 ≤ h0.size) :
    MF l Z ⟨"com/example/unseen/unseen/KeysUtf8PinLaw", "pick", "(II)C"⟩ method_3_code 2 (some .char) ws R_0_0_0_0 #[(.int qx), (.int qm)] h0 (QPK Z qx qm h0 n0) := by
  refine og_start (plainFor_of_name pn_com_example_unseen_unseen_KeysUtf8PinLaw) fun p e s m below meth c s₁ Bd hx hby hml hZ hown hnm X0 e0 => ?_
  have y := @hb _ _ hby
  have w := @wd _ _ hw
  refine og (fun t k => castTop (ef0 m qx qm) k) ?_
  refine og2 X0 hx (fun j _ k => o_iloadN j (y d0_0) rfl <| o_iconstV j 1 (y d0_1) rfl <| k) ?_
  by_cases C1 : qm = (1 : Int32)
  · refine og2 X0 hx (fun j _ k => o_icmpNo j (y d0_2) (XT.ii_ne_f C1) <| o_ldcI X0 hx hZ hown (w 85 rfl) (y d0_5) <| o_iloadN j (y d0_7) rfl <| o_sipushV j 1023 (y d0_8) rfl <| o_iand j (y d0_11) <| o_ior j (y d0_12) <| o_i2cO j (y d0_13) <| k) ?_
    exact rN (v := own_i2c ((55296 : Int32) ||| (qx &&& (1023 : Int32)))) X0 hx Bd (by simp) (own_nar_c _) (y d0_14) e0 ⟨(by rw [own_pick, if_pos C1]), (Fr.nil n0), rfl⟩
  · refine og2 X0 hx (fun j _ k => o_icmpYes j (pc' := 15) (y d0_2) (XT.ii_ne_t C1) <| o_iloadN j (y d0_15) rfl <| o_iconstV j 2 (y d0_16) rfl <| k) ?_
    by_cases C2 : qm = (2 : Int32)
    · refine og2 X0 hx (fun j _ k => o_icmpNo j (y d0_17) (XT.ii_ne_f C2) <| o_ldcI X0 hx hZ hown (w 4 rfl) (y d0_20) <| o_iloadN j (y d0_22) rfl <| o_sipushV j 1023 (y d0_23) rfl <| o_iand j (y d0_26) <| o_ior j (y d0_27) <| o_i2cO j (y d0_28) <| k) ?_
      exact rN (v := own_i2c ((56320 : Int32) ||| (qx &&& (1023 : Int32)))) X0 hx Bd (by simp) (own_nar_c _) (y d0_29) e0 ⟨(by rw [own_pick, if_neg C1, if_pos C2]), (Fr.nil n0), rfl⟩
    · refine og2 X0 hx (fun j _ k => o_icmpYes j (pc' := 30) (y d0_17) (XT.ii_ne_t C2) <| o_iloadN j (y d0_30) rfl <| o_i2cO j (y d0_31) <| k) ?_
      exact rN (v := own_i2c qx) X0 hx Bd (by simp) (own_nar_c _) (y d0_32) e0 ⟨(by rw [own_pick, if_neg C1, if_neg C2]), (Fr.nil n0), rfl⟩

abbrev k17 := jdk_52_method_3_code
theorem d18_0 : decode k17 0 = .ok (.iload_n 0, 1) := by decide +kernel
theorem d18_1 : decode k17 1 = .ok (.ifCond .ge 11, 3) := by decide +kernel
theorem d18_12 : decode k17 12 = .ok (.iload_n 0, 1) := by decide +kernel
theorem d18_13 : decode k17 13 = .ok (.ldc 20, 2) := by decide +kernel
theorem d18_15 : decode k17 15 = .ok (.if_icmp .lt 40, 3) := by decide +kernel
theorem d18_55 : decode k17 55 = .ok (.iload_n 0, 1) := by decide +kernel
theorem d18_56 : decode k17 56 = .ok (.iconst 1, 1) := by decide +kernel
theorem d18_57 : decode k17 57 = .ok (.ishl, 1) := by decide +kernel
theorem d18_58 : decode k17 58 = .ok (.ireturn, 1) := by decide +kernel
theorem pn_java_lang_StringUTF16 : plainName "java/lang/StringUTF16" = true := by first | (simp [plainName, overriddenIn]; done) | decide +kernel
theorem ef1 (m : MethodId) (x0 : Int32) : entryFrame m #[(.int x0)] 1 = (mkF m 0 #[.val (.int x0)] []) := by first | (simp [entryFrame, mkF, argsToLocals, Value.category]; done) | rfl
def QNL1 (Z : State)  (h0 : Heap) (n0 : Nat) (v : Option Value) (h : Heap) (L : List Loc) : Prop := v = some (.int 2) ∧ Fr n0 L ∧ h = h0
theorem rmNL1 (l : Launch) (Z : State) (a0 : Array Value) (hw : HW a0 Z) (ws : List Jvm.Cond)  (h0 : Heap) (n0 : Nat) (Z0 : n0 ≤ h0.size) :
    MF l Z ⟨"java/lang/StringUTF16", "newBytesLength", "(I)I"⟩ jdk_52_method_3_code 1 (some .int) ws R_0_0_0_0 #[(.int 1)] h0 (QNL1 Z  h0 n0) := by
  refine og_start (plainFor_of_name pn_java_lang_StringUTF16) fun p e s m below meth c s₁ Bd hx hby hml hZ hown hnm X0 e0 => ?_
  have y := @hb _ _ hby
  have w := @wd _ _ hw
  refine og (fun t k => castTop (ef1 m (1 : Int32)) k) ?_
  refine og2 X0 hx (fun j _ k => o_iloadN j (y d18_0) rfl <| o_ifYes j (pc' := 12) (y d18_1) (by decide) <| o_iloadN j (y d18_12) rfl <| o_ldcI X0 hx hZ hown (w 102 rfl) (y d18_13) <| o_icmpYes j (pc' := 55) (y d18_15) (XT.ii_lt_t (by decide)) <| o_iloadN j (y d18_55) rfl <| o_iconstV j 1 (y d18_56) rfl <| o_ishl j (y d18_57) <| k) ?_
  rw [(by decide : (1 : Int32) <<< ((1 : Int32) &&& 31) = (2 : Int32))]
  exact rI X0 hx Bd (y d18_58) e0 ⟨rfl, (Fr.nil n0), rfl⟩

abbrev R_1_1_2_12 : Room := ({ frames := 1, cells := 1, slots := 2, locals := 12 } : Room)
abbrev k16 := jdk_52_method_2_code
theorem d17_0 : decode k16 0 = .ok (.iload_n 0, 1) := by decide +kernel
theorem d17_1 : decode k16 1 = .ok (.invokestatic 11, 3) := by decide +kernel
theorem d17_4 : decode k16 4 = .ok (.newarray .byte, 2) := by decide +kernel
theorem d17_6 : decode k16 6 = .ok (.areturn, 1) := by decide +kernel
theorem pd_oIcI : parseMethodDescriptor "(I)I" = some ⟨[.int], some .int⟩ := by decide +kernel
def QNF1 (Z : State)  (h0 : Heap) (n0 : Nat) (v : Option Value) (h : Heap) (L : List Loc) : Prop := ∃ r : Addr, ∃ rk : ClassId, v = some (.ref r) ∧ Fr n0 L ∧ Keep h0 h [] ∧ Arv Z h r rk .byte (2 : Int32) [(.int 0), (.int 0)] (.int 0) ∧ h0.size ≤ r
theorem rmNF1 (l : Launch) (Z : State) (a0 : Array Value) (hw : HW a0 Z) (ws : List Jvm.Cond)  (h0 : Heap) (n0 : Nat) (Z0 : n0 ≤ h0.size) :
    MF l Z ⟨"java/lang/StringUTF16", "newBytesFor", "(I)[B"⟩ jdk_52_method_2_code 1 (some (.array .byte)) ws R_1_1_2_12 #[(.int 1)] h0 (QNF1 Z  h0 n0) := by
  refine og_start (plainFor_of_name pn_java_lang_StringUTF16) fun p e s m below meth c s₁ Bd hx hby hml hZ hown hnm X0 e0 => ?_
  have y := @hb _ _ hby
  have w := @wd _ _ hw
  refine og (fun t k => castTop (ef1 m (1 : Int32)) k) ?_
  refine og2 X0 hx (fun j _ k => o_iloadN j (y d17_0) rfl <| k) ?_
  refine cS [(.int 1)] [] 0 X0 hx hZ hown (w 99 rfl) (w 100 rfl) (w 88 rfl) (w 101 rfl) (rmNL1 l Z a0 hw [] h0 n0 Z0) e0 hml pd_oIcI (y d17_1) (fun v1 T1 L1 hQ1 X1 => ?_)
  obtain ⟨rfl, N1a, eh1⟩ := hQ1
  have N1 := Fr.app (Fr.nil n0) N1a
  have e1 : T1.heap = h0 := eh1
  refine nP .byte 2 "[B" X1 hx hZ (w 20 rfl) e1 (y d17_4) (fun T2 h2 a2 kc2 g2 X2 e2 E2 A2 D2 => ?_)
  have GK2 : h0.size ≤ a2 := Nat.le_trans (Keep.refl h0 []).1 (Nat.le_of_eq g2.symm)
  have P2 := (Keep.refl h0 []).ext E2
  have A3 : Arv Z h2 a2 kc2 .byte (2 : Int32) [(.int 0), (.int 0)] (.int 0) := (A2.pad (pad_rep [] _ 2))
  exact rA X2 hx Bd rfl rfl rfl (y d17_6) e2 ⟨a2, _, rfl, N1, P2, A3, GK2⟩

def QNL2 (Z : State)  (h0 : Heap) (n0 : Nat) (v : Option Value) (h : Heap) (L : List Loc) : Prop := v = some (.int 4) ∧ Fr n0 L ∧ h = h0
theorem rmNL2 (l : Launch) (Z : State) (a0 : Array Value) (hw : HW a0 Z) (ws : List Jvm.Cond)  (h0 : Heap) (n0 : Nat) (Z0 : n0 ≤ h0.size) :
    MF l Z ⟨"java/lang/StringUTF16", "newBytesLength", "(I)I"⟩ jdk_52_method_3_code 1 (some .int) ws R_0_0_0_0 #[(.int 2)] h0 (QNL2 Z  h0 n0) := by
  refine og_start (plainFor_of_name pn_java_lang_StringUTF16) fun p e s m below meth c s₁ Bd hx hby hml hZ hown hnm X0 e0 => ?_
  have y := @hb _ _ hby
  have w := @wd _ _ hw
  refine og (fun t k => castTop (ef1 m (2 : Int32)) k) ?_
  refine og2 X0 hx (fun j _ k => o_iloadN j (y d18_0) rfl <| o_ifYes j (pc' := 12) (y d18_1) (by decide) <| o_iloadN j (y d18_12) rfl <| o_ldcI X0 hx hZ hown (w 102 rfl) (y d18_13) <| o_icmpYes j (pc' := 55) (y d18_15) (XT.ii_lt_t (by decide)) <| o_iloadN j (y d18_55) rfl <| o_iconstV j 1 (y d18_56) rfl <| o_ishl j (y d18_57) <| k) ?_
  rw [(by decide : (2 : Int32) <<< ((1 : Int32) &&& 31) = (4 : Int32))]
  exact rI X0 hx Bd (y d18_58) e0 ⟨rfl, (Fr.nil n0), rfl⟩

abbrev R_1_1_4_12 : Room := ({ frames := 1, cells := 1, slots := 4, locals := 12 } : Room)
def QNF2 (Z : State)  (h0 : Heap) (n0 : Nat) (v : Option Value) (h : Heap) (L : List Loc) : Prop := ∃ r : Addr, ∃ rk : ClassId, v = some (.ref r) ∧ Fr n0 L ∧ Keep h0 h [] ∧ Arv Z h r rk .byte (4 : Int32) [(.int 0), (.int 0), (.int 0), (.int 0)] (.int 0) ∧ h0.size ≤ r
theorem rmNF2 (l : Launch) (Z : State) (a0 : Array Value) (hw : HW a0 Z) (ws : List Jvm.Cond)  (h0 : Heap) (n0 : Nat) (Z0 : n0 ≤ h0.size) :
    MF l Z ⟨"java/lang/StringUTF16", "newBytesFor", "(I)[B"⟩ jdk_52_method_2_code 1 (some (.array .byte)) ws R_1_1_4_12 #[(.int 2)] h0 (QNF2 Z  h0 n0) := by
  refine og_start (plainFor_of_name pn_java_lang_StringUTF16) fun p e s m below meth c s₁ Bd hx hby hml hZ hown hnm X0 e0 => ?_
  have y := @hb _ _ hby
  have w := @wd _ _ hw
  refine og (fun t k => castTop (ef1 m (2 : Int32)) k) ?_
  refine og2 X0 hx (fun j _ k => o_iloadN j (y d17_0) rfl <| k) ?_
  refine cS [(.int 2)] [] 0 X0 hx hZ hown (w 99 rfl) (w 100 rfl) (w 88 rfl) (w 101 rfl) (rmNL2 l Z a0 hw [] h0 n0 Z0) e0 hml pd_oIcI (y d17_1) (fun v1 T1 L1 hQ1 X1 => ?_)
  obtain ⟨rfl, N1a, eh1⟩ := hQ1
  have N1 := Fr.app (Fr.nil n0) N1a
  have e1 : T1.heap = h0 := eh1
  refine nP .byte 4 "[B" X1 hx hZ (w 20 rfl) e1 (y d17_4) (fun T2 h2 a2 kc2 g2 X2 e2 E2 A2 D2 => ?_)
  have GK2 : h0.size ≤ a2 := Nat.le_trans (Keep.refl h0 []).1 (Nat.le_of_eq g2.symm)
  have P2 := (Keep.refl h0 []).ext E2
  have A3 : Arv Z h2 a2 kc2 .byte (4 : Int32) [(.int 0), (.int 0), (.int 0), (.int 0)] (.int 0) := (A2.pad (pad_rep [] _ 4))
  exact rA X2 hx Bd rfl rfl rfl (y d17_6) e2 ⟨a2, _, rfl, N1, P2, A3, GK2⟩

abbrev k18 := jdk_52_method_4_code
theorem d19_0 : decode k18 0 = .ok (.getstatic 44, 3) := by decide +kernel
theorem d19_3 : decode k18 3 = .ok (.ifCond .ne 25, 3) := by decide +kernel
theorem d19_28 : decode k18 28 = .ok (.iload_n 1, 1) := by decide +kernel
theorem d19_29 : decode k18 29 = .ok (.iconst 1, 1) := by decide +kernel
theorem d19_30 : decode k18 30 = .ok (.ishl, 1) := by decide +kernel
theorem d19_31 : decode k18 31 = .ok (.istore_n 1, 1) := by decide +kernel
theorem d19_32 : decode k18 32 = .ok (.aload_n 0, 1) := by decide +kernel
theorem d19_33 : decode k18 33 = .ok (.iload_n 1, 1) := by decide +kernel
theorem d19_34 : decode k18 34 = .ok (.iinc 1 1, 3) := by decide +kernel
theorem d19_37 : decode k18 37 = .ok (.iload_n 2, 1) := by decide +kernel
theorem d19_38 : decode k18 38 = .ok (.getstatic 59, 3) := by decide +kernel
theorem d19_41 : decode k18 41 = .ok (.ishr, 1) := by decide +kernel
theorem d19_42 : decode k18 42 = .ok (.i2b, 1) := by decide +kernel
theorem d19_43 : decode k18 43 = .ok (.bastore, 1) := by decide +kernel
theorem d19_44 : decode k18 44 = .ok (.aload_n 0, 1) := by decide +kernel
theorem d19_45 : decode k18 45 = .ok (.iload_n 1, 1) := by decide +kernel
theorem d19_46 : decode k18 46 = .ok (.iload_n 2, 1) := by decide +kernel
theorem d19_47 : decode k18 47 = .ok (.getstatic 63, 3) := by decide +kernel
theorem d19_50 : decode k18 50 = .ok (.ishr, 1) := by decide +kernel
theorem d19_51 : decode k18 51 = .ok (.i2b, 1) := by decide +kernel
theorem d19_52 : decode k18 52 = .ok (.bastore, 1) := by decide +kernel
theorem d19_53 : decode k18 53 = .ok (.return_, 1) := by decide +kernel
theorem ef2 (m : MethodId) (x0 : Addr) (x1 : Int32) (x2 : Int32) : entryFrame m #[(.ref x0), (.int x1), (.int x2)] 3 = (mkF m 0 #[.val (.ref x0), .val (.int x1), .val (.int x2)] []) := by first | (simp [entryFrame, mkF, argsToLocals, Value.category]; done) | rfl
def QPC10 (Z : State) (cs : Int32) (u8 : Addr) (ba : Addr) (bk : ClassId) (qc : Int32) (x0 : Int32) (x1 : Int32) (h0 : Heap) (n0 : Nat) (v : Option Value) (h : Heap) (L : List Loc) : Prop := v = none ∧ Fr n0 L ∧ Keep h0 h [ba] ∧ Arv Z h ba bk .byte (2 : Int32) [(.int (own_lo qc)), (.int (own_hi qc))] (.int 0)
theorem rmPC10 (l : Launch) (Z : State) (a0 : Array Value) (hw : HW a0 Z) (ws : List Jvm.Cond) (cs : Int32) (u8 : Addr) (ba : Addr) (bk : ClassId) (qc : Int32) (x0 : Int32) (x1 : Int32) (h0 : Heap) (n0 : Nat) (Z0 : n0 ≤ h0.size) (H0 : OSt Z cs u8) (pr1 : Old Z n0 h0) (pr2 : Arv Z h0 ba bk .byte (2 : Int32) [(.int x0), (.int x1)] (.int 0)) (H3 : n0 ≤ ba) :
    MF l Z ⟨"java/lang/StringUTF16", "putChar", "([BII)V"⟩ jdk_52_method_4_code 3 none ws R_0_0_0_0 #[(.ref ba), (.int 0), (.int qc)] h0 (QPC10 Z cs u8 ba bk qc x0 x1 h0 n0) := by
  refine og_start (plainFor_of_name pn_java_lang_StringUTF16) fun p e s m below meth c s₁ Bd hx hby hml hZ hown hnm X0 e0 => ?_
  have y := @hb _ _ hby
  have w := @wd _ _ hw
  refine og (fun t k => castTop (ef2 m ba (0 : Int32) qc) k) ?_
  refine g_getS X0 hx hZ hown (w 106 rfl) e0 (Sta.ext pr1.2 H0.2.2.2.2.1) (y d19_0) (fun T1 X1 e1 => ?_)
  refine og2 X1 hx (fun j _ k => o_ifYes j (pc' := 28) (y d19_3) (by decide) <| o_iloadN j (y d19_28) rfl <| o_iconstV j 1 (y d19_29) rfl <| o_ishl j (y d19_30) <| k) ?_
  rw [(by decide : (0 : Int32) <<< ((1 : Int32) &&& 31) = (0 : Int32))]
  refine og2 X1 hx (fun j _ k => o_istoreN j (y d19_31) (l' := #[.val (.ref ba), .val (.int 0), .val (.int qc)]) rfl <| o_aloadN j (y d19_32) rfl rfl <| o_iloadN j (y d19_33) rfl <| o_iincL j 1 (y d19_34) rfl (1 : Int32) (by decide) rfl (l' := #[.val (.ref ba), .val (.int 1), .val (.int qc)]) rfl <| o_iloadN j (y d19_37) rfl <| k) ?_
  refine g_getS X1 hx hZ hown (w 107 rfl) e1 (Sta.ext pr1.2 H0.2.2.2.2.2.1) (y d19_38) (fun T2 X2 e2 => ?_)
  refine og2 X2 hx (fun j _ k => o_ishr j (y d19_41) <| o_i2bO j (y d19_42) <| k) ?_
  rw [(rfl : own_b (qc >>> ((0 : Int32) &&& 31)) = own_lo qc)]
  refine sB (v := own_lo qc) 0 X2 hx hZ e2 pr2 (own_nar_lo _) (y d19_43) (fun T3 h3 X3 e3 W3 A3 => ?_)
  have N3 := Fr.snoc X3 (Fr.nil n0) H3
  have P3 := (Keep.refl h0 [ba]).wr W3 (Or.inl (List.mem_of_getElem? (i := 0) rfl))
  have O4 := (pr1.wr W3 H3)
  have A3v : Arv Z h3 ba bk .byte (2 : Int32) [(.int (own_lo qc)), (.int x1)] (.int 0) := A3
  refine og2 X3 hx (fun j _ k => o_aloadN j (y d19_44) rfl rfl <| o_iloadN j (y d19_45) rfl <| o_iloadN j (y d19_46) rfl <| k) ?_
  refine g_getS X3 hx hZ hown (w 108 rfl) e3 (Sta.ext O4.2 H0.2.2.2.2.2.2) (y d19_47) (fun T5 X5 e5 => ?_)
  refine og2 X5 hx (fun j _ k => o_ishr j (y d19_50) <| o_i2bO j (y d19_51) <| k) ?_
  rw [(rfl : own_b (qc >>> ((8 : Int32) &&& 31)) = own_hi qc)]
  refine sB (v := own_hi qc) 1 X5 hx hZ e5 A3v (own_nar_hi _) (y d19_52) (fun T6 h6 X6 e6 W6 A6 => ?_)
  have N6 := Fr.snoc X6 N3 H3
  have P6 := P3.wr W6 (Or.inl (List.mem_of_getElem? (i := 0) rfl))
  have A6v : Arv Z h6 ba bk .byte (2 : Int32) [(.int (own_lo qc)), (.int (own_hi qc))] (.int 0) := A6
  exact r0 X6 hx Bd (y d19_53) e6 ⟨rfl, N6, P6, A6v⟩

abbrev k19 := jdk_52_method_5_code
theorem d20_0 : decode k19 0 = .ok (.getstatic 44, 3) := by decide +kernel
theorem d20_3 : decode k19 3 = .ok (.ifCond .ne 25, 3) := by decide +kernel
theorem d20_28 : decode k19 28 = .ok (.iload_n 1, 1) := by decide +kernel
theorem d20_29 : decode k19 29 = .ok (.iconst 1, 1) := by decide +kernel
theorem d20_30 : decode k19 30 = .ok (.ishl, 1) := by decide +kernel
theorem d20_31 : decode k19 31 = .ok (.istore_n 1, 1) := by decide +kernel
theorem d20_32 : decode k19 32 = .ok (.aload_n 0, 1) := by decide +kernel
theorem d20_33 : decode k19 33 = .ok (.iload_n 1, 1) := by decide +kernel
theorem d20_34 : decode k19 34 = .ok (.iinc 1 1, 3) := by decide +kernel
theorem d20_37 : decode k19 37 = .ok (.baload, 1) := by decide +kernel
theorem d20_38 : decode k19 38 = .ok (.sipush 255, 3) := by decide +kernel
theorem d20_41 : decode k19 41 = .ok (.iand, 1) := by decide +kernel
theorem d20_42 : decode k19 42 = .ok (.getstatic 59, 3) := by decide +kernel
theorem d20_45 : decode k19 45 = .ok (.ishl, 1) := by decide +kernel
theorem d20_46 : decode k19 46 = .ok (.aload_n 0, 1) := by decide +kernel
theorem d20_47 : decode k19 47 = .ok (.iload_n 1, 1) := by decide +kernel
theorem d20_48 : decode k19 48 = .ok (.baload, 1) := by decide +kernel
theorem d20_49 : decode k19 49 = .ok (.sipush 255, 3) := by decide +kernel
theorem d20_52 : decode k19 52 = .ok (.iand, 1) := by decide +kernel
theorem d20_53 : decode k19 53 = .ok (.getstatic 63, 3) := by decide +kernel
theorem d20_56 : decode k19 56 = .ok (.ishl, 1) := by decide +kernel
theorem d20_57 : decode k19 57 = .ok (.ior, 1) := by decide +kernel
theorem d20_58 : decode k19 58 = .ok (.i2c, 1) := by decide +kernel
theorem d20_59 : decode k19 59 = .ok (.ireturn, 1) := by decide +kernel
theorem ef3 (m : MethodId) (x0 : Addr) (x1 : Int32) : entryFrame m #[(.ref x0), (.int x1)] 2 = (mkF m 0 #[.val (.ref x0), .val (.int x1)] []) := by first | (simp [entryFrame, mkF, argsToLocals, Value.category]; done) | rfl
def QGC10 (Z : State) (cs : Int32) (u8 : Addr) (ba : Addr) (bk : ClassId) (c0 : Int32) (h0 : Heap) (n0 : Nat) (v : Option Value) (h : Heap) (L : List Loc) : Prop := v = some (.int c0) ∧ Fr n0 L ∧ h = h0
theorem rmGC10 (l : Launch) (Z : State) (a0 : Array Value) (hw : HW a0 Z) (ws : List Jvm.Cond) (cs : Int32) (u8 : Addr) (ba : Addr) (bk : ClassId) (c0 : Int32) (h0 : Heap) (n0 : Nat) (Z0 : n0 ≤ h0.size) (H0 : OSt Z cs u8) (pr1 : Old Z n0 h0) (pr2 : Arv Z h0 ba bk .byte (2 : Int32) [(.int (own_lo c0)), (.int (own_hi c0))] (.int 0)) (H3 : OCh c0) :
    MF l Z ⟨"java/lang/StringUTF16", "getChar", "([BI)C"⟩ jdk_52_method_5_code 2 (some .char) ws R_0_0_0_0 #[(.ref ba), (.int 0)] h0 (QGC10 Z cs u8 ba bk c0 h0 n0) := by
  refine og_start (plainFor_of_name pn_java_lang_StringUTF16) fun p e s m below meth c s₁ Bd hx hby hml hZ hown hnm X0 e0 => ?_
  have y := @hb _ _ hby
  have w := @wd _ _ hw
  refine og (fun t k => castTop (ef3 m ba (0 : Int32)) k) ?_
  refine g_getS X0 hx hZ hown (w 106 rfl) e0 (Sta.ext pr1.2 H0.2.2.2.2.1) (y d20_0) (fun T1 X1 e1 => ?_)
  refine og2 X1 hx (fun j _ k => o_ifYes j (pc' := 28) (y d20_3) (by decide) <| o_iloadN j (y d20_28) rfl <| o_iconstV j 1 (y d20_29) rfl <| o_ishl j (y d20_30) <| k) ?_
  rw [(by decide : (0 : Int32) <<< ((1 : Int32) &&& 31) = (0 : Int32))]
  refine og2 X1 hx (fun j _ k => o_istoreN j (y d20_31) (l' := #[.val (.ref ba), .val (.int 0)]) rfl <| o_aloadN j (y d20_32) rfl rfl <| o_iloadN j (y d20_33) rfl <| o_iincL j 1 (y d20_34) rfl (1 : Int32) (by decide) rfl (l' := #[.val (.ref ba), .val (.int 1)]) rfl <| o_baload (v := (.int (own_lo c0))) X1 hx hZ e1 pr2 ⟨by decide, by decide⟩ rfl (y d20_37) <| o_sipushV j 255 (y d20_38) rfl <| o_iand j (y d20_41) <| k) ?_
  refine g_getS X1 hx hZ hown (w 107 rfl) e1 (Sta.ext pr1.2 H0.2.2.2.2.2.1) (y d20_42) (fun T2 X2 e2 => ?_)
  refine og2 X2 hx (fun j _ k => o_ishl j (y d20_45) <| o_aloadN j (y d20_46) rfl rfl <| o_iloadN j (y d20_47) rfl <| o_baload (v := (.int (own_hi c0))) X2 hx hZ e2 pr2 ⟨by decide, by decide⟩ rfl (y d20_48) <| o_sipushV j 255 (y d20_49) rfl <| o_iand j (y d20_52) <| k) ?_
  refine g_getS X2 hx hZ hown (w 108 rfl) e2 (Sta.ext pr1.2 H0.2.2.2.2.2.2) (y d20_53) (fun T3 X3 e3 => ?_)
  refine og2 X3 hx (fun j _ k => o_ishl j (y d20_56) <| o_ior j (y d20_57) <| o_i2cO j (y d20_58) <| k) ?_
  rw [(own_get H3)]
  exact rN (v := c0) X3 hx Bd (by simp) (own_nar_ch H3) (y d20_59) e3 ⟨rfl, (Fr.nil n0), rfl⟩

def QPC20 (Z : State) (cs : Int32) (u8 : Addr) (ba : Addr) (bk : ClassId) (qc : Int32) (x0 : Int32) (x1 : Int32) (x2 : Int32) (x3 : Int32) (h0 : Heap) (n0 : Nat) (v : Option Value) (h : Heap) (L : List Loc) : Prop := v = none ∧ Fr n0 L ∧ Keep h0 h [ba] ∧ Arv Z h ba bk .byte (4 : Int32) [(.int (own_lo qc)), (.int (own_hi qc)), (.int x2), (.int x3)] (.int 0)
theorem rmPC20 (l : Launch) (Z : State) (a0 : Array Value) (hw : HW a0 Z) (ws : List Jvm.Cond) (cs : Int32) (u8 : Addr) (ba : Addr) (bk : ClassId) (qc : Int32) (x0 : Int32) (x1 : Int32) (x2 : Int32) (x3 : Int32) (h0 : Heap) (n0 : Nat) (Z0 : n0 ≤ h0.size) (H0 : OSt Z cs u8) (pr1 : Old Z n0 h0) (pr2 : Arv Z h0 ba bk .byte (4 : Int32) [(.int x0), (.int x1), (.int x2), (.int x3)] (.int 0)) (H3 : n0 ≤ ba) :
    MF l Z ⟨"java/lang/StringUTF16", "putChar", "([BII)V"⟩ jdk_52_method_4_code 3 none ws R_0_0_0_0 #[(.ref ba), (.int 0), (.int qc)] h0 (QPC20 Z cs u8 ba bk qc x0 x1 x2 x3 h0 n0) := by
  refine og_start (plainFor_of_name pn_java_lang_StringUTF16) fun p e s m below meth c s₁ Bd hx hby hml hZ hown hnm X0 e0 => ?_
  have y := @hb _ _ hby
  have w := @wd _ _ hw
  refine og (fun t k => castTop (ef2 m ba (0 : Int32) qc) k) ?_
  refine g_getS X0 hx hZ hown (w 106 rfl) e0 (Sta.ext pr1.2 H0.2.2.2.2.1) (y d19_0) (fun T1 X1 e1 => ?_)
  refine og2 X1 hx (fun j _ k => o_ifYes j (pc' := 28) (y d19_3) (by decide) <| o_iloadN j (y d19_28) rfl <| o_iconstV j 1 (y d19_29) rfl <| o_ishl j (y d19_30) <| k) ?_
  rw [(by decide : (0 : Int32) <<< ((1 : Int32) &&& 31) = (0 : Int32))]
  refine og2 X1 hx (fun j _ k => o_istoreN j (y d19_31) (l' := #[.val (.ref ba), .val (.int 0), .val (.int qc)]) rfl <| o_aloadN j (y d19_32) rfl rfl <| o_iloadN j (y d19_33) rfl <| o_iincL j 1 (y d19_34) rfl (1 : Int32) (by decide) rfl (l' := #[.val (.ref ba), .val (.int 1), .val (.int qc)]) rfl <| o_iloadN j (y d19_37) rfl <| k) ?_
  refine g_getS X1 hx hZ hown (w 107 rfl) e1 (Sta.ext pr1.2 H0.2.2.2.2.2.1) (y d19_38) (fun T2 X2 e2 => ?_)
  refine og2 X2 hx (fun j _ k => o_ishr j (y d19_41) <| o_i2bO j (y d19_42) <| k) ?_
  rw [(rfl : own_b (qc >>> ((0 : Int32) &&& 31)) = own_lo qc)]
  refine sB (v := own_lo qc) 0 X2 hx hZ e2 pr2 (own_nar_lo _) (y d19_43) (fun T3 h3 X3 e3 W3 A3 => ?_)
  have N3 := Fr.snoc X3 (Fr.nil n0) H3
  have P3 := (Keep.refl h0 [ba]).wr W3 (Or.inl (List.mem_of_getElem? (i := 0) rfl))
  have O4 := (pr1.wr W3 H3)
  have A3v : Arv Z h3 ba bk .byte (4 : Int32) [(.int (own_lo qc)), (.int x1), (.int x2), (.int x3)] (.int 0) := A3
  refine og2 X3 hx (fun j _ k => o_aloadN j (y d19_44) rfl rfl <| o_iloadN j (y d19_45) rfl <| o_iloadN j (y d19_46) rfl <| k) ?_
  refine g_getS X3 hx hZ hown (w 108 rfl) e3 (Sta.ext O4.2 H0.2.2.2.2.2.2) (y d19_47) (fun T5 X5 e5 => ?_)
  refine og2 X5 hx (fun j _ k => o_ishr j (y d19_50) <| o_i2bO j (y d19_51) <| k) ?_
  rw [(rfl : own_b (qc >>> ((8 : Int32) &&& 31)) = own_hi qc)]
  refine sB (v := own_hi qc) 1 X5 hx hZ e5 A3v (own_nar_hi _) (y d19_52) (fun T6 h6 X6 e6 W6 A6 => ?_)
  have N6 := Fr.snoc X6 N3 H3
  have P6 := P3.wr W6 (Or.inl (List.mem_of_getElem? (i := 0) rfl))
  have A6v : Arv Z h6 ba bk .byte (4 : Int32) [(.int (own_lo qc)), (.int (own_hi qc)), (.int x2), (.int x3)] (.int 0) := A6
  exact r0 X6 hx Bd (y d19_53) e6 ⟨rfl, N6, P6, A6v⟩

def QGC20 (Z : State) (cs : Int32) (u8 : Addr) (ba : Addr) (bk : ClassId) (c0 : Int32) (c1 : Int32) (h0 : Heap) (n0 : Nat) (v : Option Value) (h : Heap) (L : List Loc) : Prop := v = some (.int c0) ∧ Fr n0 L ∧ h = h0
theorem rmGC20 (l : Launch) (Z : State) (a0 : Array Value) (hw : HW a0 Z) (ws : List Jvm.Cond) (cs : Int32) (u8 : Addr) (ba : Addr) (bk : ClassId) (c0 : Int32) (c1 : Int32) (h0 : Heap) (n0 : Nat) (Z0 : n0 ≤ h0.size) (H0 : OSt Z cs u8) (pr1 : Old Z n0 h0) (pr2 : Arv Z h0 ba bk .byte (4 : Int32) [(.int (own_lo c0)), (.int (own_hi c0)), (.int (own_lo c1)), (.int (own_hi c1))] (.int 0)) (H3 : OCh c0) :
    MF l Z ⟨"java/lang/StringUTF16", "getChar", "([BI)C"⟩ jdk_52_method_5_code 2 (some .char) ws R_0_0_0_0 #[(.ref ba), (.int 0)] h0 (QGC20 Z cs u8 ba bk c0 c1 h0 n0) := by
  refine og_start (plainFor_of_name pn_java_lang_StringUTF16) fun p e s m below meth c s₁ Bd hx hby hml hZ hown hnm X0 e0 => ?_
  have y := @hb _ _ hby
  have w := @wd _ _ hw
  refine og (fun t k => castTop (ef3 m ba (0 : Int32)) k) ?_
  refine g_getS X0 hx hZ hown (w 106 rfl) e0 (Sta.ext pr1.2 H0.2.2.2.2.1) (y d20_0) (fun T1 X1 e1 => ?_)
  refine og2 X1 hx (fun j _ k => o_ifYes j (pc' := 28) (y d20_3) (by decide) <| o_iloadN j (y d20_28) rfl <| o_iconstV j 1 (y d20_29) rfl <| o_ishl j (y d20_30) <| k) ?_
  rw [(by decide : (0 : Int32) <<< ((1 : Int32) &&& 31) = (0 : Int32))]
  refine og2 X1 hx (fun j _ k => o_istoreN j (y d20_31) (l' := #[.val (.ref ba), .val (.int 0)]) rfl <| o_aloadN j (y d20_32) rfl rfl <| o_iloadN j (y d20_33) rfl <| o_iincL j 1 (y d20_34) rfl (1 : Int32) (by decide) rfl (l' := #[.val (.ref ba), .val (.int 1)]) rfl <| o_baload (v := (.int (own_lo c0))) X1 hx hZ e1 pr2 ⟨by decide, by decide⟩ rfl (y d20_37) <| o_sipushV j 255 (y d20_38) rfl <| o_iand j (y d20_41) <| k) ?_
  refine g_getS X1 hx hZ hown (w 107 rfl) e1 (Sta.ext pr1.2 H0.2.2.2.2.2.1) (y d20_42) (fun T2 X2 e2 => ?_)
  refine og2 X2 hx (fun j _ k => o_ishl j (y d20_45) <| o_aloadN j (y d20_46) rfl rfl <| o_iloadN j (y d20_47) rfl <| o_baload (v := (.int (own_hi c0))) X2 hx hZ e2 pr2 ⟨by decide, by decide⟩ rfl (y d20_48) <| o_sipushV j 255 (y d20_49) rfl <| o_iand j (y d20_52) <| k) ?_
  refine g_getS X2 hx hZ hown (w 108 rfl) e2 (Sta.ext pr1.2 H0.2.2.2.2.2.2) (y d20_53) (fun T3 X3 e3 => ?_)
  refine og2 X3 hx (fun j _ k => o_ishl j (y d20_56) <| o_ior j (y d20_57) <| o_i2cO j (y d20_58) <| k) ?_
  rw [(own_get H3)]
  exact rN (v := c0) X3 hx Bd (by simp) (own_nar_ch H3) (y d20_59) e3 ⟨rfl, (Fr.nil n0), rfl⟩

def QPC21 (Z : State) (cs : Int32) (u8 : Addr) (ba : Addr) (bk : ClassId) (qc : Int32) (x0 : Int32) (x1 : Int32) (x2 : Int32) (x3 : Int32) (h0 : Heap) (n0 : Nat) (v : Option Value) (h : Heap) (L : List Loc) : Prop := v = none ∧ Fr n0 L ∧ Keep h0 h [ba] ∧ Arv Z h ba bk .byte (4 : Int32) [(.int x0), (.int x1), (.int (own_lo qc)), (.int (own_hi qc))] (.int 0)
theorem rmPC21 (l : Launch) (Z : State) (a0 : Array Value) (hw : HW a0 Z) (ws : List Jvm.Cond) (cs : Int32) (u8 : Addr) (ba : Addr) (bk : ClassId) (qc : Int32) (x0 : Int32) (x1 : Int32) (x2 : Int32) (x3 : Int32) (h0 : Heap) (n0 : Nat) (Z0 : n0 ≤ h0.size) (H0 : OSt Z cs u8) (pr1 : Old Z n0 h0) (pr2 : Arv Z h0 ba bk .byte (4 : Int32) [(.int x0), (.int x1), (.int x2), (.int x3)] (.int 0)) (H3 : n0 ≤ ba) :
    MF l Z ⟨"java/lang/StringUTF16", "putChar", "([BII)V"⟩ jdk_52_method_4_code 3 none ws R_0_0_0_0 #[(.ref ba), (.int 1), (.int qc)] h0 (QPC21 Z cs u8 ba bk qc x0 x1 x2 x3 h0 n0) := by
  refine og_start (plainFor_of_name pn_java_lang_StringUTF16) fun p e s m below meth c s₁ Bd hx hby hml hZ hown hnm X0 e0 => ?_
  have y := @hb _ _ hby
  have w := @wd _ _ hw
  refine og (fun t k => castTop (ef2 m ba (1 : Int32) qc) k) ?_
  refine g_getS X0 hx hZ hown (w 106 rfl) e0 (Sta.ext pr1.2 H0.2.2.2.2.1) (y d19_0) (fun T1 X1 e1 => ?_)
  refine og2 X1 hx (fun j _ k => o_ifYes j (pc' := 28) (y d19_3) (by decide) <| o_iloadN j (y d19_28) rfl <| o_iconstV j 1 (y d19_29) rfl <| o_ishl j (y d19_30) <| k) ?_
  rw [(by decide : (1 : Int32) <<< ((1 : Int32) &&& 31) = (2 : Int32))]
  refine og2 X1 hx (fun j _ k => o_istoreN j (y d19_31) (l' := #[.val (.ref ba), .val (.int 2), .val (.int qc)]) rfl <| o_aloadN j (y d19_32) rfl rfl <| o_iloadN j (y d19_33) rfl <| o_iincL j 1 (y d19_34) rfl (3 : Int32) (by decide) rfl (l' := #[.val (.ref ba), .val (.int 3), .val (.int qc)]) rfl <| o_iloadN j (y d19_37) rfl <| k) ?_
  refine g_getS X1 hx hZ hown (w 107 rfl) e1 (Sta.ext pr1.2 H0.2.2.2.2.2.1) (y d19_38) (fun T2 X2 e2 => ?_)
  refine og2 X2 hx (fun j _ k => o_ishr j (y d19_41) <| o_i2bO j (y d19_42) <| k) ?_
  rw [(rfl : own_b (qc >>> ((0 : Int32) &&& 31)) = own_lo qc)]
  refine sB (v := own_lo qc) 2 X2 hx hZ e2 pr2 (own_nar_lo _) (y d19_43) (fun T3 h3 X3 e3 W3 A3 => ?_)
  have N3 := Fr.snoc X3 (Fr.nil n0) H3
  have P3 := (Keep.refl h0 [ba]).wr W3 (Or.inl (List.mem_of_getElem? (i := 0) rfl))
  have O4 := (pr1.wr W3 H3)
  have A3v : Arv Z h3 ba bk .byte (4 : Int32) [(.int x0), (.int x1), (.int (own_lo qc)), (.int x3)] (.int 0) := A3
  refine og2 X3 hx (fun j _ k => o_aloadN j (y d19_44) rfl rfl <| o_iloadN j (y d19_45) rfl <| o_iloadN j (y d19_46) rfl <| k) ?_
  refine g_getS X3 hx hZ hown (w 108 rfl) e3 (Sta.ext O4.2 H0.2.2.2.2.2.2) (y d19_47) (fun T5 X5 e5 => ?_)
  refine og2 X5 hx (fun j _ k => o_ishr j (y d19_50) <| o_i2bO j (y d19_51) <| k) ?_
  rw [(rfl : own_b (qc >>> ((8 : Int32) &&& 31)) = own_hi qc)]
  refine sB (v := own_hi qc) 3 X5 hx hZ e5 A3v (own_nar_hi _) (y d19_52) (fun T6 h6 X6 e6 W6 A6 => ?_)
  have N6 := Fr.snoc X6 N3 H3
  have P6 := P3.wr W6 (Or.inl (List.mem_of_getElem? (i := 0) rfl))
  have A6v : Arv Z h6 ba bk .byte (4 : Int32) [(.int x0), (.int x1), (.int (own_lo qc)), (.int (own_hi qc))] (.int 0) := A6
  exact r0 X6 hx Bd (y d19_53) e6 ⟨rfl, N6, P6, A6v⟩

def QGC21 (Z : State) (cs : Int32) (u8 : Addr) (ba : Addr) (bk : ClassId) (c0 : Int32) (c1 : Int32) (h0 : Heap) (n0 : Nat) (v : Option Value) (h : Heap) (L : List Loc) : Prop := v = some (.int c1) ∧ Fr n0 L ∧ h = h0
theorem rmGC21 (l : Launch) (Z : State) (a0 : Array Value) (hw : HW a0 Z) (ws : List Jvm.Cond) (cs : Int32) (u8 : Addr) (ba : Addr) (bk : ClassId) (c0 : Int32) (c1 : Int32) (h0 : Heap) (n0 : Nat) (Z0 : n0 ≤ h0.size) (H0 : OSt Z cs u8) (pr1 : Old Z n0 h0) (pr2 : Arv Z h0 ba bk .byte (4 : Int32) [(.int (own_lo c0)), (.int (own_hi c0)), (.int (own_lo c1)), (.int (own_hi c1))] (.int 0)) (H3 : OCh c1) :
    MF l Z ⟨"java/lang/StringUTF16", "getChar", "([BI)C"⟩ jdk_52_method_5_code 2 (some .char) ws R_0_0_0_0 #[(.ref ba), (.int 1)] h0 (QGC21 Z cs u8 ba bk c0 c1 h0 n0) := by
  refine og_start (plainFor_of_name pn_java_lang_StringUTF16) fun p e s m below meth c s₁ Bd hx hby hml hZ hown hnm X0 e0 => ?_
  have y := @hb _ _ hby
  have w := @wd _ _ hw
  refine og (fun t k => castTop (ef3 m ba (1 : Int32)) k) ?_
  refine g_getS X0 hx hZ hown (w 106 rfl) e0 (Sta.ext pr1.2 H0.2.2.2.2.1) (y d20_0) (fun T1 X1 e1 => ?_)
  refine og2 X1 hx (fun j _ k => o_ifYes j (pc' := 28) (y d20_3) (by decide) <| o_iloadN j (y d20_28) rfl <| o_iconstV j 1 (y d20_29) rfl <| o_ishl j (y d20_30) <| k) ?_
  rw [(by decide : (1 : Int32) <<< ((1 : Int32) &&& 31) = (2 : Int32))]
  refine og2 X1 hx (fun j _ k => o_istoreN j (y d20_31) (l' := #[.val (.ref ba), .val (.int 2)]) rfl <| o_aloadN j (y d20_32) rfl rfl <| o_iloadN j (y d20_33) rfl <| o_iincL j 1 (y d20_34) rfl (3 : Int32) (by decide) rfl (l' := #[.val (.ref ba), .val (.int 3)]) rfl <| o_baload (v := (.int (own_lo c1))) X1 hx hZ e1 pr2 ⟨by decide, by decide⟩ rfl (y d20_37) <| o_sipushV j 255 (y d20_38) rfl <| o_iand j (y d20_41) <| k) ?_
  refine g_getS X1 hx hZ hown (w 107 rfl) e1 (Sta.ext pr1.2 H0.2.2.2.2.2.1) (y d20_42) (fun T2 X2 e2 => ?_)
  refine og2 X2 hx (fun j _ k => o_ishl j (y d20_45) <| o_aloadN j (y d20_46) rfl rfl <| o_iloadN j (y d20_47) rfl <| o_baload (v := (.int (own_hi c1))) X2 hx hZ e2 pr2 ⟨by decide, by decide⟩ rfl (y d20_48) <| o_sipushV j 255 (y d20_49) rfl <| o_iand j (y d20_52) <| k) ?_
  refine g_getS X2 hx hZ hown (w 108 rfl) e2 (Sta.ext pr1.2 H0.2.2.2.2.2.2) (y d20_53) (fun T3 X3 e3 => ?_)
  refine og2 X3 hx (fun j _ k => o_ishl j (y d20_56) <| o_ior j (y d20_57) <| o_i2cO j (y d20_58) <| k) ?_
  rw [(own_get H3)]
  exact rN (v := c1) X3 hx Bd (by simp) (own_nar_ch H3) (y d20_59) e3 ⟨rfl, (Fr.nil n0), rfl⟩

abbrev R_2_1_2_24 : Room := ({ frames := 2, cells := 1, slots := 2, locals := 24 } : Room)
abbrev k12 := jdk_52_method_14_code
theorem d16_0 : decode k12 0 = .ok (.iload_n 2, 1) := by decide +kernel
theorem d16_1 : decode k12 1 = .ok (.invokestatic 107, 3) := by decide +kernel
theorem d16_4 : decode k12 4 = .ok (.astore_n 3, 1) := by decide +kernel
theorem d16_5 : decode k12 5 = .ok (.iconst 0, 1) := by decide +kernel
theorem d16_6 : decode k12 6 = .ok (.istore 4, 2) := by decide +kernel
theorem d16_8 : decode k12 8 = .ok (.iload 4, 2) := by decide +kernel
theorem d16_10 : decode k12 10 = .ok (.iload_n 2, 1) := by decide +kernel
theorem d16_11 : decode k12 11 = .ok (.if_icmp .ge 21, 3) := by decide +kernel
theorem d16_14 : decode k12 14 = .ok (.aload_n 3, 1) := by decide +kernel
theorem d16_15 : decode k12 15 = .ok (.iload 4, 2) := by decide +kernel
theorem d16_17 : decode k12 17 = .ok (.aload_n 0, 1) := by decide +kernel
theorem d16_18 : decode k12 18 = .ok (.iload_n 1, 1) := by decide +kernel
theorem d16_19 : decode k12 19 = .ok (.caload, 1) := by decide +kernel
theorem d16_20 : decode k12 20 = .ok (.invokestatic 111, 3) := by decide +kernel
theorem d16_23 : decode k12 23 = .ok (.iinc 1 1, 3) := by decide +kernel
theorem d16_26 : decode k12 26 = .ok (.iinc 4 1, 3) := by decide +kernel
theorem d16_29 : decode k12 29 = .ok (.goto (-21), 3) := by decide +kernel
theorem d16_32 : decode k12 32 = .ok (.aload_n 3, 1) := by decide +kernel
theorem d16_33 : decode k12 33 = .ok (.areturn, 1) := by decide +kernel
theorem pd_oIcaB : parseMethodDescriptor "(I)[B" = some ⟨[.int], some (.array .byte)⟩ := by decide +kernel
theorem pd_oaBIIcV : parseMethodDescriptor "([BII)V" = some ⟨[(.array .byte), .int, .int], none⟩ := by decide +kernel
theorem ef4 (m : MethodId) (x0 : Addr) (x1 : Int32) (x2 : Int32) : entryFrame m #[(.ref x0), (.int x1), (.int x2)] 5 = (mkF m 0 #[.val (.ref x0), .val (.int x1), .val (.int x2), .unset, .unset] []) := by first | (simp [entryFrame, mkF, argsToLocals, Value.category]; done) | rfl
def QTB1 (Z : State) (cs : Int32) (u8 : Addr) (ca : Addr) (ck : ClassId) (c0 : Int32) (h0 : Heap) (n0 : Nat) (v : Option Value) (h : Heap) (L : List Loc) : Prop := ∃ r : Addr, ∃ rk : ClassId, v = some (.ref r) ∧ Fr n0 L ∧ Keep h0 h [] ∧ Arv Z h r rk .byte (2 : Int32) [(.int (own_lo c0)), (.int (own_hi c0))] (.int 0) ∧ h0.size ≤ r
theorem rmTB1 (l : Launch) (Z : State) (a0 : Array Value) (hw : HW a0 Z) (ws : List Jvm.Cond) (cs : Int32) (u8 : Addr) (ca : Addr) (ck : ClassId) (c0 : Int32) (h0 : Heap) (n0 : Nat) (Z0 : n0 ≤ h0.size) (H0 : OSt Z cs u8) (pr1 : Old Z n0 h0) (pr2 : Arv Z h0 ca ck .char (1 : Int32) [(.int c0)] (.int 0)) :
    MF l Z ⟨"java/lang/StringUTF16", "toBytes", "([CII)[B"⟩ jdk_52_method_14_code 5 (some (.array .byte)) ws R_2_1_2_24 #[(.ref ca), (.int 0), (.int 1)] h0 (QTB1 Z cs u8 ca ck c0 h0 n0) := by
  refine og_start (plainFor_of_name pn_java_lang_StringUTF16) fun p e s m below meth c s₁ Bd hx hby hml hZ hown hnm X0 e0 => ?_
  have y := @hb _ _ hby
  have w := @wd _ _ hw
  refine og (fun t k => castTop (ef4 m ca (0 : Int32) (1 : Int32)) k) ?_
  refine og2 X0 hx (fun j _ k => o_iloadN j (y d16_0) rfl <| k) ?_
  refine cS [(.int 1)] [] 0 X0 hx hZ hown (w 96 rfl) (w 97 rfl) (w 88 rfl) (w 98 rfl) (rmNF1 l Z a0 hw [] h0 n0 Z0) e0 hml pd_oIcaB (y d16_1) (fun v1 T1 L1 hQ1 X1 => ?_)
  obtain ⟨r_1, rk_1, rfl, N1a, K1, Q1_0, Q1_1⟩ := hQ1
  have N1 := Fr.app (Fr.nil n0) N1a
  have e1 : T1.heap = T1.heap := rfl
  have Z1 : n0 ≤ T1.heap.size := (Nat.le_trans Z0 K1.1)
  have P1 : Keep h0 T1.heap [] := ((Keep.refl h0 []).trans K1 all0)
  have O2 := (pr1.keep K1 all0)
  have A3 := (pr2.keep K1 nin0)
  have G1_r : n0 ≤ r_1 := Nat.le_trans Z0 Q1_1
  have GK1_r : h0.size ≤ r_1 := Nat.le_trans (Keep.refl h0 []).1 Q1_1
  have ne1_ca_r : ca ≠ r_1 := Nat.ne_of_lt (Nat.lt_of_lt_of_le pr2.lt Q1_1)
  refine og2 X1 hx (fun j _ k => o_astoreN j (y d16_4) rfl (l' := #[.val (.ref ca), .val (.int 0), .val (.int 1), .val (.ref r_1), .unset]) rfl <| o_iconstV j 0 (y d16_5) rfl <| o_istore j (y d16_6) (l' := #[.val (.ref ca), .val (.int 0), .val (.int 1), .val (.ref r_1), .val (.int 0)]) rfl <| o_iload j (y d16_8) rfl <| o_iloadN j (y d16_10) rfl <| o_icmpNo j (y d16_11) (XT.ii_ge_f (by decide)) <| o_aloadN j (y d16_14) rfl rfl <| o_iload j (y d16_15) rfl <| o_aloadN j (y d16_17) rfl rfl <| o_iloadN j (y d16_18) rfl <| o_caload (v := (.int c0)) X1 hx hZ e1 A3 ⟨by decide, by decide⟩ rfl (y d16_19) <| k) ?_
  refine cS [(.ref r_1), (.int 0), (.int c0)] [] 0 X1 hx hZ hown (w 103 rfl) (w 104 rfl) (w 88 rfl) (w 105 rfl) (rmPC10 l Z a0 hw [] cs u8 r_1 rk_1 c0 (0 : Int32) (0 : Int32) T1.heap n0 Z1 H0 O2 Q1_0 G1_r) e1 hml pd_oaBIIcV (y d16_20) (fun v4 T4 L4 hQ4 X4 => ?_)
  obtain ⟨rfl, N4a, K4, Q4_0⟩ := hQ4
  have N4 := Fr.app N1 N4a
  have e4 : T4.heap = T4.heap := rfl
  have P4 : Keep h0 T4.heap [] := (P1.trans K4 (allS (Or.inr GK1_r) all0))
  refine og2 X4 hx (fun j _ k => o_iincL j 1 (y d16_23) rfl (1 : Int32) (by decide) rfl (l' := #[.val (.ref ca), .val (.int 1), .val (.int 1), .val (.ref r_1), .val (.int 0)]) rfl <| o_iincL j 1 (y d16_26) rfl (1 : Int32) (by decide) rfl (l' := #[.val (.ref ca), .val (.int 1), .val (.int 1), .val (.ref r_1), .val (.int 1)]) rfl <| o_goto j (pc' := 8) (y d16_29) <| o_iload j (y d16_8) rfl <| o_iloadN j (y d16_10) rfl <| o_icmpYes j (pc' := 32) (y d16_11) (XT.ii_ge_t (by decide)) <| o_aloadN j (y d16_32) rfl rfl <| k) ?_
  exact rA X4 hx Bd rfl rfl rfl (y d16_33) e4 ⟨r_1, _, rfl, N4, P4, Q4_0, GK1_r⟩

abbrev R_2_1_4_24 : Room := ({ frames := 2, cells := 1, slots := 4, locals := 24 } : Room)
def QTB2 (Z : State) (cs : Int32) (u8 : Addr) (ca : Addr) (ck : ClassId) (c0 : Int32) (c1 : Int32) (h0 : Heap) (n0 : Nat) (v : Option Value) (h : Heap) (L : List Loc) : Prop := ∃ r : Addr, ∃ rk : ClassId, v = some (.ref r) ∧ Fr n0 L ∧ Keep h0 h [] ∧ Arv Z h r rk .byte (4 : Int32) [(.int (own_lo c0)), (.int (own_hi c0)), (.int (own_lo c1)), (.int (own_hi c1))] (.int 0) ∧ h0.size ≤ r
theorem rmTB2 (l : Launch) (Z : State) (a0 : Array Value) (hw : HW a0 Z) (ws : List Jvm.Cond) (cs : Int32) (u8 : Addr) (ca : Addr) (ck : ClassId) (c0 : Int32) (c1 : Int32) (h0 : Heap) (n0 : Nat) (Z0 : n0 ≤ h0.size) (H0 : OSt Z cs u8) (pr1 : Old Z n0 h0) (pr2 : Arv Z h0 ca ck .char (2 : Int32) [(.int c0), (.int c1)] (.int 0)) :
    MF l Z ⟨"java/lang/StringUTF16", "toBytes", "([CII)[B"⟩ jdk_52_method_14_code 5 (some (.array .byte)) ws R_2_1_4_24 #[(.ref ca), (.int 0), (.int 2)] h0 (QTB2 Z cs u8 ca ck c0 c1 h0 n0) := by
  refine og_start (plainFor_of_name pn_java_lang_StringUTF16) fun p e s m below meth c s₁ Bd hx hby hml hZ hown hnm X0 e0 => ?_
  have y := @hb _ _ hby
  have w := @wd _ _ hw
  refine og (fun t k => castTop (ef4 m ca (0 : Int32) (2 : Int32)) k) ?_
  refine og2 X0 hx (fun j _ k => o_iloadN j (y d16_0) rfl <| k) ?_
  refine cS [(.int 2)] [] 0 X0 hx hZ hown (w 96 rfl) (w 97 rfl) (w 88 rfl) (w 98 rfl) (rmNF2 l Z a0 hw [] h0 n0 Z0) e0 hml pd_oIcaB (y d16_1) (fun v1 T1 L1 hQ1 X1 => ?_)
  obtain ⟨r_1, rk_1, rfl, N1a, K1, Q1_0, Q1_1⟩ := hQ1
  have N1 := Fr.app (Fr.nil n0) N1a
  have e1 : T1.heap = T1.heap := rfl
  have Z1 : n0 ≤ T1.heap.size := (Nat.le_trans Z0 K1.1)
  have P1 : Keep h0 T1.heap [] := ((Keep.refl h0 []).trans K1 all0)
  have O2 := (pr1.keep K1 all0)
  have A3 := (pr2.keep K1 nin0)
  have G1_r : n0 ≤ r_1 := Nat.le_trans Z0 Q1_1
  have GK1_r : h0.size ≤ r_1 := Nat.le_trans (Keep.refl h0 []).1 Q1_1
  have ne1_ca_r : ca ≠ r_1 := Nat.ne_of_lt (Nat.lt_of_lt_of_le pr2.lt Q1_1)
  refine og2 X1 hx (fun j _ k => o_astoreN j (y d16_4) rfl (l' := #[.val (.ref ca), .val (.int 0), .val (.int 2), .val (.ref r_1), .unset]) rfl <| o_iconstV j 0 (y d16_5) rfl <| o_istore j (y d16_6) (l' := #[.val (.ref ca), .val (.int 0), .val (.int 2), .val (.ref r_1), .val (.int 0)]) rfl <| o_iload j (y d16_8) rfl <| o_iloadN j (y d16_10) rfl <| o_icmpNo j (y d16_11) (XT.ii_ge_f (by decide)) <| o_aloadN j (y d16_14) rfl rfl <| o_iload j (y d16_15) rfl <| o_aloadN j (y d16_17) rfl rfl <| o_iloadN j (y d16_18) rfl <| o_caload (v := (.int c0)) X1 hx hZ e1 A3 ⟨by decide, by decide⟩ rfl (y d16_19) <| k) ?_
  refine cS [(.ref r_1), (.int 0), (.int c0)] [] 0 X1 hx hZ hown (w 103 rfl) (w 104 rfl) (w 88 rfl) (w 105 rfl) (rmPC20 l Z a0 hw [] cs u8 r_1 rk_1 c0 (0 : Int32) (0 : Int32) (0 : Int32) (0 : Int32) T1.heap n0 Z1 H0 O2 Q1_0 G1_r) e1 hml pd_oaBIIcV (y d16_20) (fun v4 T4 L4 hQ4 X4 => ?_)
  obtain ⟨rfl, N4a, K4, Q4_0⟩ := hQ4
  have N4 := Fr.app N1 N4a
  have e4 : T4.heap = T4.heap := rfl
  have Z4 : n0 ≤ T4.heap.size := (Nat.le_trans Z1 K4.1)
  have P4 : Keep h0 T4.heap [] := (P1.trans K4 (allS (Or.inr GK1_r) all0))
  have O5 := (O2.keep K4 (allS G1_r all0))
  have A6 := (A3.keep K4 (ninS ne1_ca_r nin0))
  refine og2 X4 hx (fun j _ k => o_iincL j 1 (y d16_23) rfl (1 : Int32) (by decide) rfl (l' := #[.val (.ref ca), .val (.int 1), .val (.int 2), .val (.ref r_1), .val (.int 0)]) rfl <| o_iincL j 1 (y d16_26) rfl (1 : Int32) (by decide) rfl (l' := #[.val (.ref ca), .val (.int 1), .val (.int 2), .val (.ref r_1), .val (.int 1)]) rfl <| o_goto j (pc' := 8) (y d16_29) <| o_iload j (y d16_8) rfl <| o_iloadN j (y d16_10) rfl <| o_icmpNo j (y d16_11) (XT.ii_ge_f (by decide)) <| o_aloadN j (y d16_14) rfl rfl <| o_iload j (y d16_15) rfl <| o_aloadN j (y d16_17) rfl rfl <| o_iloadN j (y d16_18) rfl <| o_caload (v := (.int c1)) X4 hx hZ e4 A6 ⟨by decide, by decide⟩ rfl (y d16_19) <| k) ?_
  refine cS [(.ref r_1), (.int 1), (.int c1)] [] 0 X4 hx hZ hown (w 103 rfl) (w 104 rfl) (w 88 rfl) (w 105 rfl) (rmPC21 l Z a0 hw [] cs u8 r_1 rk_1 c1 (own_lo c0) (own_hi c0) (0 : Int32) (0 : Int32) T4.heap n0 Z4 H0 O5 Q4_0 G1_r) e4 hml pd_oaBIIcV (y d16_20) (fun v7 T7 L7 hQ7 X7 => ?_)
  obtain ⟨rfl, N7a, K7, Q7_0⟩ := hQ7
  have N7 := Fr.app N4 N7a
  have e7 : T7.heap = T7.heap := rfl
  have P7 : Keep h0 T7.heap [] := (P4.trans K7 (allS (Or.inr GK1_r) all0))
  refine og2 X7 hx (fun j _ k => o_iincL j 1 (y d16_23) rfl (2 : Int32) (by decide) rfl (l' := #[.val (.ref ca), .val (.int 2), .val (.int 2), .val (.ref r_1), .val (.int 1)]) rfl <| o_iincL j 1 (y d16_26) rfl (2 : Int32) (by decide) rfl (l' := #[.val (.ref ca), .val (.int 2), .val (.int 2), .val (.ref r_1), .val (.int 2)]) rfl <| o_goto j (pc' := 8) (y d16_29) <| o_iload j (y d16_8) rfl <| o_iloadN j (y d16_10) rfl <| o_icmpYes j (pc' := 32) (y d16_11) (XT.ii_ge_t (by decide)) <| o_aloadN j (y d16_32) rfl rfl <| k) ?_
  exact rA X7 hx Bd rfl rfl rfl (y d16_33) e7 ⟨r_1, _, rfl, N7, P7, Q7_0, GK1_r⟩

abbrev k15 := jdk_52_method_21_code
theorem d15_0 : decode k15 0 = .ok (.iconst 0, 1) := by decide +kernel
theorem d15_1 : decode k15 1 = .ok (.istore 5, 2) := by decide +kernel
theorem d15_3 : decode k15 3 = .ok (.iload 5, 2) := by decide +kernel
theorem d15_5 : decode k15 5 = .ok (.iload 4, 2) := by decide +kernel
theorem d15_7 : decode k15 7 = .ok (.if_icmp .ge 37, 3) := by decide +kernel
theorem d15_10 : decode k15 10 = .ok (.aload_n 0, 1) := by decide +kernel
theorem d15_11 : decode k15 11 = .ok (.iload_n 1, 1) := by decide +kernel
theorem d15_12 : decode k15 12 = .ok (.caload, 1) := by decide +kernel
theorem d15_13 : decode k15 13 = .ok (.istore 6, 2) := by decide +kernel
theorem d15_15 : decode k15 15 = .ok (.iload 6, 2) := by decide +kernel
theorem d15_17 : decode k15 17 = .ok (.sipush 255, 3) := by decide +kernel
theorem d15_20 : decode k15 20 = .ok (.if_icmp .le 6, 3) := by decide +kernel
theorem d15_26 : decode k15 26 = .ok (.aload_n 2, 1) := by decide +kernel
theorem d15_27 : decode k15 27 = .ok (.iload_n 3, 1) := by decide +kernel
theorem d15_28 : decode k15 28 = .ok (.iload 6, 2) := by decide +kernel
theorem d15_30 : decode k15 30 = .ok (.i2b, 1) := by decide +kernel
theorem d15_31 : decode k15 31 = .ok (.bastore, 1) := by decide +kernel
theorem d15_32 : decode k15 32 = .ok (.iinc 1 1, 3) := by decide +kernel
theorem d15_35 : decode k15 35 = .ok (.iinc 3 1, 3) := by decide +kernel
theorem d15_38 : decode k15 38 = .ok (.iinc 5 1, 3) := by decide +kernel
theorem d15_41 : decode k15 41 = .ok (.goto (-38), 3) := by decide +kernel
theorem d15_44 : decode k15 44 = .ok (.iload 4, 2) := by decide +kernel
theorem d15_46 : decode k15 46 = .ok (.ireturn, 1) := by decide +kernel
theorem ef5 (m : MethodId) (x0 : Addr) (x1 : Int32) (x2 : Addr) (x3 : Int32) (x4 : Int32) : entryFrame m #[(.ref x0), (.int x1), (.ref x2), (.int x3), (.int x4)] 7 = (mkF m 0 #[.val (.ref x0), .val (.int x1), .val (.ref x2), .val (.int x3), .val (.int x4), .unset, .unset] []) := by first | (simp [entryFrame, mkF, argsToLocals, Value.category]; done) | rfl
def QC51k (Z : State) (ca : Addr) (ck : ClassId) (ba : Addr) (bk : ClassId) (c0 : Int32) (x0 : Int32) (h0 : Heap) (n0 : Nat) (v : Option Value) (h : Heap) (L : List Loc) : Prop := v = some (.int 1) ∧ Fr n0 L ∧ Keep h0 h [ba] ∧ Arv Z h ba bk .byte (1 : Int32) [(.int (own_b c0))] (.int 0)
theorem rmC51k (l : Launch) (Z : State) (a0 : Array Value) (hw : HW a0 Z) (ws : List Jvm.Cond) (ca : Addr) (ck : ClassId) (ba : Addr) (bk : ClassId) (c0 : Int32) (x0 : Int32) (h0 : Heap) (n0 : Nat) (Z0 : n0 ≤ h0.size) (pr0 : Arv Z h0 ca ck .char (1 : Int32) [(.int c0)] (.int 0)) (pr1 : Arv Z h0 ba bk .byte (1 : Int32) [(.int x0)] (.int 0)) (H2 : n0 ≤ ba) (H3 : ¬ (255 : Int32) < c0) :
    MF l Z ⟨"java/lang/StringUTF16", "compress", "([CI[BII)I"⟩ jdk_52_method_21_code 7 (some .int) ws R_0_0_0_0 #[(.ref ca), (.int 0), (.ref ba), (.int 0), (.int 1)] h0 (QC51k Z ca ck ba bk c0 x0 h0 n0) := by
  refine og_start (plainFor_of_name pn_java_lang_StringUTF16) fun p e s m below meth c s₁ Bd hx hby hml hZ hown hnm X0 e0 => ?_
  have y := @hb _ _ hby
  refine og (fun t k => castTop (ef5 m ca (0 : Int32) ba (0 : Int32) (1 : Int32)) k) ?_
  refine og2 X0 hx (fun j _ k => o_iconstV j 0 (y d15_0) rfl <| o_istore j (y d15_1) (l' := #[.val (.ref ca), .val (.int 0), .val (.ref ba), .val (.int 0), .val (.int 1), .val (.int 0), .unset]) rfl <| o_iload j (y d15_3) rfl <| o_iload j (y d15_5) rfl <| o_icmpNo j (y d15_7) (XT.ii_ge_f (by decide)) <| o_aloadN j (y d15_10) rfl rfl <| o_iloadN j (y d15_11) rfl <| o_caload (v := (.int c0)) X0 hx hZ e0 pr0 ⟨by decide, by decide⟩ rfl (y d15_12) <| o_istore j (y d15_13) (l' := #[.val (.ref ca), .val (.int 0), .val (.ref ba), .val (.int 0), .val (.int 1), .val (.int 0), .val (.int c0)]) rfl <| o_iload j (y d15_15) rfl <| o_sipushV j 255 (y d15_17) rfl <| o_icmpYes j (pc' := 26) (y d15_20) (XT.ii_le_t H3) <| o_aloadN j (y d15_26) rfl rfl <| o_iloadN j (y d15_27) rfl <| o_iload j (y d15_28) rfl <| o_i2bO j (y d15_30) <| k) ?_
  refine sB (v := own_b c0) 0 X0 hx hZ e0 pr1 (own_nar_b _) (y d15_31) (fun T1 h1 X1 e1 W1 A1 => ?_)
  have N1 := Fr.snoc X1 (Fr.nil n0) H2
  have P1 := (Keep.refl h0 [ba]).wr W1 (Or.inl (List.mem_of_getElem? (i := 0) rfl))
  have A1v : Arv Z h1 ba bk .byte (1 : Int32) [(.int (own_b c0))] (.int 0) := A1
  refine og2 X1 hx (fun j _ k => o_iincL j 1 (y d15_32) rfl (1 : Int32) (by decide) rfl (l' := #[.val (.ref ca), .val (.int 1), .val (.ref ba), .val (.int 0), .val (.int 1), .val (.int 0), .val (.int c0)]) rfl <| o_iincL j 1 (y d15_35) rfl (1 : Int32) (by decide) rfl (l' := #[.val (.ref ca), .val (.int 1), .val (.ref ba), .val (.int 1), .val (.int 1), .val (.int 0), .val (.int c0)]) rfl <| o_iincL j 1 (y d15_38) rfl (1 : Int32) (by decide) rfl (l' := #[.val (.ref ca), .val (.int 1), .val (.ref ba), .val (.int 1), .val (.int 1), .val (.int 1), .val (.int c0)]) rfl <| o_goto j (pc' := 3) (y d15_41) <| o_iload j (y d15_3) rfl <| o_iload j (y d15_5) rfl <| o_icmpYes j (pc' := 44) (y d15_7) (XT.ii_ge_t (by decide)) <| o_iload j (y d15_44) rfl <| k) ?_
  exact rI X1 hx Bd (y d15_46) e1 ⟨rfl, N1, P1, A1v⟩

abbrev R_1_1_1_18 : Room := ({ frames := 1, cells := 1, slots := 1, locals := 18 } : Room)
abbrev k14 := jdk_52_method_16_code
theorem d14_0 : decode k14 0 = .ok (.iload_n 2, 1) := by decide +kernel
theorem d14_1 : decode k14 1 = .ok (.newarray .byte, 2) := by decide +kernel
theorem d14_3 : decode k14 3 = .ok (.astore_n 3, 1) := by decide +kernel
theorem d14_4 : decode k14 4 = .ok (.aload_n 0, 1) := by decide +kernel
theorem d14_5 : decode k14 5 = .ok (.iload_n 1, 1) := by decide +kernel
theorem d14_6 : decode k14 6 = .ok (.aload_n 3, 1) := by decide +kernel
theorem d14_7 : decode k14 7 = .ok (.iconst 0, 1) := by decide +kernel
theorem d14_8 : decode k14 8 = .ok (.iload_n 2, 1) := by decide +kernel
theorem d14_9 : decode k14 9 = .ok (.invokestatic 115, 3) := by decide +kernel
theorem d14_12 : decode k14 12 = .ok (.istore 4, 2) := by decide +kernel
theorem d14_14 : decode k14 14 = .ok (.iload 4, 2) := by decide +kernel
theorem d14_16 : decode k14 16 = .ok (.iload_n 2, 1) := by decide +kernel
theorem d14_17 : decode k14 17 = .ok (.if_icmp .eq 40, 3) := by decide +kernel
theorem d14_57 : decode k14 57 = .ok (.aload_n 3, 1) := by decide +kernel
theorem d14_58 : decode k14 58 = .ok (.areturn, 1) := by decide +kernel
theorem pd_oaCIaBIIcI : parseMethodDescriptor "([CI[BII)I" = some ⟨[(.array .char), .int, (.array .byte), .int, .int], some .int⟩ := by decide +kernel
theorem ef6 (m : MethodId) (x0 : Addr) (x1 : Int32) (x2 : Int32) : entryFrame m #[(.ref x0), (.int x1), (.int x2)] 6 = (mkF m 0 #[.val (.ref x0), .val (.int x1), .val (.int x2), .unset, .unset, .unset] []) := by first | (simp [entryFrame, mkF, argsToLocals, Value.category]; done) | rfl
def QC31k (Z : State) (cs : Int32) (u8 : Addr) (ca : Addr) (ck : ClassId) (c0 : Int32) (h0 : Heap) (n0 : Nat) (v : Option Value) (h : Heap) (L : List Loc) : Prop := ∃ r : Addr, ∃ rk : ClassId, v = some (.ref r) ∧ Fr n0 L ∧ Keep h0 h [] ∧ Arv Z h r rk .byte (1 : Int32) [(.int (own_b c0))] (.int 0) ∧ Exa Z h r "[B" ∧ h0.size ≤ r
theorem rmC31k (l : Launch) (Z : State) (a0 : Array Value) (hw : HW a0 Z) (ws : List Jvm.Cond) (cs : Int32) (u8 : Addr) (ca : Addr) (ck : ClassId) (c0 : Int32) (h0 : Heap) (n0 : Nat) (Z0 : n0 ≤ h0.size) (H0 : OSt Z cs u8) (pr1 : Old Z n0 h0) (pr2 : Arv Z h0 ca ck .char (1 : Int32) [(.int c0)] (.int 0)) (H3 : ¬ (255 : Int32) < c0) (H4 : OCh c0) :
    MF l Z ⟨"java/lang/StringUTF16", "compress", "([CII)[B"⟩ jdk_52_method_16_code 6 (some (.array .byte)) ws R_1_1_1_18 #[(.ref ca), (.int 0), (.int 1)] h0 (QC31k Z cs u8 ca ck c0 h0 n0) := by
  refine og_start (plainFor_of_name pn_java_lang_StringUTF16) fun p e s m below meth c s₁ Bd hx hby hml hZ hown hnm X0 e0 => ?_
  have y := @hb _ _ hby
  have w := @wd _ _ hw
  refine og (fun t k => castTop (ef6 m ca (0 : Int32) (1 : Int32)) k) ?_
  refine og2 X0 hx (fun j _ k => o_iloadN j (y d14_0) rfl <| k) ?_
  refine nP .byte 1 "[B" X0 hx hZ (w 20 rfl) e0 (y d14_1) (fun T1 h1 a1 kc1 g1 X1 e1 E1 A1 D1 => ?_)
  have Z1 : n0 ≤ h1.size := Nat.le_trans Z0 E1.1
  have G1 : n0 ≤ a1 := Nat.le_trans Z0 (Nat.le_of_eq g1.symm)
  have GK1 : h0.size ≤ a1 := Nat.le_trans (Keep.refl h0 []).1 (Nat.le_of_eq g1.symm)
  have P1 := (Keep.refl h0 []).ext E1
  have A3 := (pr2.ext E1)
  have A4 : Arv Z h1 a1 kc1 .byte (1 : Int32) [(.int 0)] (.int 0) := (A1.pad (pad_rep [] _ 1))
  refine og2 X1 hx (fun j _ k => o_astoreN j (y d14_3) rfl (l' := #[.val (.ref ca), .val (.int 0), .val (.int 1), .val (.ref a1), .unset, .unset]) rfl <| o_aloadN j (y d14_4) rfl rfl <| o_iloadN j (y d14_5) rfl <| o_aloadN j (y d14_6) rfl rfl <| o_iconstV j 0 (y d14_7) rfl <| o_iloadN j (y d14_8) rfl <| k) ?_
  refine cS [(.ref ca), (.int 0), (.ref a1), (.int 0), (.int 1)] [] 0 X1 hx hZ hown (w 90 rfl) (w 91 rfl) (w 88 rfl) (w 92 rfl) (rmC51k l Z a0 hw [] ca ck a1 kc1 c0 (0 : Int32) h1 n0 Z1 A3 A4 G1 H3) e1 hml pd_oaCIaBIIcI (y d14_9) (fun v5 T5 L5 hQ5 X5 => ?_)
  obtain ⟨rfl, N5a, K5, Q5_0⟩ := hQ5
  have N5 := Fr.app (Fr.nil n0) N5a
  have e5 : T5.heap = T5.heap := rfl
  have P5 : Keep h0 T5.heap [] := (P1.trans K5 (allS (Or.inr GK1) all0))
  have E8 := (D1.keep K5)
  refine og2 X5 hx (fun j _ k => o_istore j (y d14_12) (l' := #[.val (.ref ca), .val (.int 0), .val (.int 1), .val (.ref a1), .val (.int 1), .unset]) rfl <| o_iload j (y d14_14) rfl <| o_iloadN j (y d14_16) rfl <| o_icmpYes j (pc' := 57) (y d14_17) (XT.ii_eq_t rfl) <| o_aloadN j (y d14_57) rfl rfl <| k) ?_
  exact rA X5 hx Bd rfl rfl rfl (y d14_58) e5 ⟨a1, _, rfl, N5, P5, Q5_0, E8, GK1⟩

theorem d15_23 : decode k15 23 = .ok (.iload 5, 2) := by decide +kernel
theorem d15_25 : decode k15 25 = .ok (.ireturn, 1) := by decide +kernel
def QC510 (Z : State) (ca : Addr) (ck : ClassId) (ba : Addr) (bk : ClassId) (c0 : Int32) (x0 : Int32) (h0 : Heap) (n0 : Nat) (v : Option Value) (h : Heap) (L : List Loc) : Prop := v = some (.int 0) ∧ Fr n0 L ∧ Keep h0 h [ba] ∧ Arv Z h ba bk .byte (1 : Int32) [(.int x0)] (.int 0)
theorem rmC510 (l : Launch) (Z : State) (a0 : Array Value) (hw : HW a0 Z) (ws : List Jvm.Cond) (ca : Addr) (ck : ClassId) (ba : Addr) (bk : ClassId) (c0 : Int32) (x0 : Int32) (h0 : Heap) (n0 : Nat) (Z0 : n0 ≤ h0.size) (pr0 : Arv Z h0 ca ck .char (1 : Int32) [(.int c0)] (.int 0)) (pr1 : Arv Z h0 ba bk .byte (1 : Int32) [(.int x0)] (.int 0)) (H2 : n0 ≤ ba) (H3 : (255 : Int32) < c0) :
    MF l Z ⟨"java/lang/StringUTF16", "compress", "([CI[BII)I"⟩ jdk_52_method_21_code 7 (some .int) ws R_0_0_0_0 #[(.ref ca), (.int 0), (.ref ba), (.int 0), (.int 1)] h0 (QC510 Z ca ck ba bk c0 x0 h0 n0) := by
  refine og_start (plainFor_of_name pn_java_lang_StringUTF16) fun p e s m below meth c s₁ Bd hx hby hml hZ hown hnm X0 e0 => ?_
  have y := @hb _ _ hby
  refine og (fun t k => castTop (ef5 m ca (0 : Int32) ba (0 : Int32) (1 : Int32)) k) ?_
  refine og2 X0 hx (fun j _ k => o_iconstV j 0 (y d15_0) rfl <| o_istore j (y d15_1) (l' := #[.val (.ref ca), .val (.int 0), .val (.ref ba), .val (.int 0), .val (.int 1), .val (.int 0), .unset]) rfl <| o_iload j (y d15_3) rfl <| o_iload j (y d15_5) rfl <| o_icmpNo j (y d15_7) (XT.ii_ge_f (by decide)) <| o_aloadN j (y d15_10) rfl rfl <| o_iloadN j (y d15_11) rfl <| o_caload (v := (.int c0)) X0 hx hZ e0 pr0 ⟨by decide, by decide⟩ rfl (y d15_12) <| o_istore j (y d15_13) (l' := #[.val (.ref ca), .val (.int 0), .val (.ref ba), .val (.int 0), .val (.int 1), .val (.int 0), .val (.int c0)]) rfl <| o_iload j (y d15_15) rfl <| o_sipushV j 255 (y d15_17) rfl <| o_icmpNo j (y d15_20) (XT.ii_le_f H3) <| o_iload j (y d15_23) rfl <| k) ?_
  exact rI X0 hx Bd (y d15_25) e0 ⟨rfl, (Fr.nil n0), (Keep.refl h0 [ba]), pr1⟩

abbrev R_3_2_3_40 : Room := ({ frames := 3, cells := 2, slots := 3, locals := 40 } : Room)
theorem d14_20 : decode k14 20 = .ok (.aload_n 0, 1) := by decide +kernel
theorem d14_21 : decode k14 21 = .ok (.iload_n 1, 1) := by decide +kernel
theorem d14_22 : decode k14 22 = .ok (.iload_n 2, 1) := by decide +kernel
theorem d14_23 : decode k14 23 = .ok (.invokestatic 119, 3) := by decide +kernel
theorem d14_26 : decode k14 26 = .ok (.astore 5, 2) := by decide +kernel
theorem d14_28 : decode k14 28 = .ok (.aload 5, 2) := by decide +kernel
theorem d14_30 : decode k14 30 = .ok (.iload 4, 2) := by decide +kernel
theorem d14_32 : decode k14 32 = .ok (.invokestatic 71, 3) := by decide +kernel
theorem d14_35 : decode k14 35 = .ok (.sipush 255, 3) := by decide +kernel
theorem d14_38 : decode k14 38 = .ok (.if_icmp .gt 16, 3) := by decide +kernel
theorem d14_54 : decode k14 54 = .ok (.aload 5, 2) := by decide +kernel
theorem d14_56 : decode k14 56 = .ok (.areturn, 1) := by decide +kernel
theorem pd_oaCIIcaB : parseMethodDescriptor "([CII)[B" = some ⟨[(.array .char), .int, .int], some (.array .byte)⟩ := by decide +kernel
theorem pd_oaBIcC : parseMethodDescriptor "([BI)C" = some ⟨[(.array .byte), .int], some .char⟩ := by decide +kernel
def QC310 (Z : State) (cs : Int32) (u8 : Addr) (ca : Addr) (ck : ClassId) (c0 : Int32) (h0 : Heap) (n0 : Nat) (v : Option Value) (h : Heap) (L : List Loc) : Prop := ∃ r : Addr, ∃ rk : ClassId, v = some (.ref r) ∧ Fr n0 L ∧ Keep h0 h [] ∧ Arv Z h r rk .byte (2 : Int32) [(.int (own_lo c0)), (.int (own_hi c0))] (.int 0) ∧ h0.size ≤ r
theorem rmC310 (l : Launch) (Z : State) (a0 : Array Value) (hw : HW a0 Z) (ws : List Jvm.Cond) (cs : Int32) (u8 : Addr) (ca : Addr) (ck : ClassId) (c0 : Int32) (h0 : Heap) (n0 : Nat) (Z0 : n0 ≤ h0.size) (H0 : OSt Z cs u8) (pr1 : Old Z n0 h0) (pr2 : Arv Z h0 ca ck .char (1 : Int32) [(.int c0)] (.int 0)) (H3 : (255 : Int32) < c0) (H4 : OCh c0) :
    MF l Z ⟨"java/lang/StringUTF16", "compress", "([CII)[B"⟩ jdk_52_method_16_code 6 (some (.array .byte)) ws R_3_2_3_40 #[(.ref ca), (.int 0), (.int 1)] h0 (QC310 Z cs u8 ca ck c0 h0 n0) := by
  refine og_start (plainFor_of_name pn_java_lang_StringUTF16) fun p e s m below meth c s₁ Bd hx hby hml hZ hown hnm X0 e0 => ?_
  have y := @hb _ _ hby
  have w := @wd _ _ hw
  refine og (fun t k => castTop (ef6 m ca (0 : Int32) (1 : Int32)) k) ?_
  refine og2 X0 hx (fun j _ k => o_iloadN j (y d14_0) rfl <| k) ?_
  refine nP .byte 1 "[B" X0 hx hZ (w 20 rfl) e0 (y d14_1) (fun T1 h1 a1 kc1 g1 X1 e1 E1 A1 D1 => ?_)
  have Z1 : n0 ≤ h1.size := Nat.le_trans Z0 E1.1
  have G1 : n0 ≤ a1 := Nat.le_trans Z0 (Nat.le_of_eq g1.symm)
  have GK1 : h0.size ≤ a1 := Nat.le_trans (Keep.refl h0 []).1 (Nat.le_of_eq g1.symm)
  have P1 := (Keep.refl h0 []).ext E1
  have O2 := (pr1.ext E1)
  have A3 := (pr2.ext E1)
  have A4 : Arv Z h1 a1 kc1 .byte (1 : Int32) [(.int 0)] (.int 0) := (A1.pad (pad_rep [] _ 1))
  refine og2 X1 hx (fun j _ k => o_astoreN j (y d14_3) rfl (l' := #[.val (.ref ca), .val (.int 0), .val (.int 1), .val (.ref a1), .unset, .unset]) rfl <| o_aloadN j (y d14_4) rfl rfl <| o_iloadN j (y d14_5) rfl <| o_aloadN j (y d14_6) rfl rfl <| o_iconstV j 0 (y d14_7) rfl <| o_iloadN j (y d14_8) rfl <| k) ?_
  refine cS [(.ref ca), (.int 0), (.ref a1), (.int 0), (.int 1)] [] 0 X1 hx hZ hown (w 90 rfl) (w 91 rfl) (w 88 rfl) (w 92 rfl) (rmC510 l Z a0 hw [] ca ck a1 kc1 c0 (0 : Int32) h1 n0 Z1 A3 A4 G1 H3) e1 hml pd_oaCIaBIIcI (y d14_9) (fun v5 T5 L5 hQ5 X5 => ?_)
  obtain ⟨rfl, N5a, K5, Q5_0⟩ := hQ5
  have N5 := Fr.app (Fr.nil n0) N5a
  have e5 : T5.heap = T5.heap := rfl
  have Z5 : n0 ≤ T5.heap.size := (Nat.le_trans Z1 K5.1)
  have P5 : Keep h0 T5.heap [] := (P1.trans K5 (allS (Or.inr GK1) all0))
  have O6 := (O2.keep K5 (allS G1 all0))
  have A7 := (A3.keep K5 (ninS (Nat.ne_of_lt (Nat.lt_of_lt_of_eq pr2.lt g1.symm)) nin0))
  have E8 := (D1.keep K5)
  refine og2 X5 hx (fun j _ k => o_istore j (y d14_12) (l' := #[.val (.ref ca), .val (.int 0), .val (.int 1), .val (.ref a1), .val (.int 0), .unset]) rfl <| o_iload j (y d14_14) rfl <| o_iloadN j (y d14_16) rfl <| o_icmpNo j (y d14_17) (XT.ii_eq_f (by decide)) <| o_aloadN j (y d14_20) rfl rfl <| o_iloadN j (y d14_21) rfl <| o_iloadN j (y d14_22) rfl <| k) ?_
  refine cS [(.ref ca), (.int 0), (.int 1)] [] 0 X5 hx hZ hown (w 93 rfl) (w 94 rfl) (w 88 rfl) (w 95 rfl) (rmTB1 l Z a0 hw [] cs u8 ca ck c0 T5.heap n0 Z5 H0 O6 A7) e5 hml pd_oaCIIcaB (y d14_23) (fun v9 T9 L9 hQ9 X9 => ?_)
  obtain ⟨r_9, rk_9, rfl, N9a, K9, Q9_0, Q9_1⟩ := hQ9
  have N9 := Fr.app N5 N9a
  have e9 : T9.heap = T9.heap := rfl
  have Z9 : n0 ≤ T9.heap.size := (Nat.le_trans Z5 K9.1)
  have P9 : Keep h0 T9.heap [] := (P5.trans K9 all0)
  have O10 := (O6.keep K9 all0)
  have GK9_r : h0.size ≤ r_9 := Nat.le_trans P5.1 Q9_1
  have ne9_ca_r : ca ≠ r_9 := Nat.ne_of_lt (Nat.lt_of_lt_of_le A7.lt Q9_1)
  have ne9_a1_r : a1 ≠ r_9 := Nat.ne_of_lt (Nat.lt_of_lt_of_le E8.lt Q9_1)
  refine og2 X9 hx (fun j _ k => o_astore j (y d14_26) rfl (l' := #[.val (.ref ca), .val (.int 0), .val (.int 1), .val (.ref a1), .val (.int 0), .val (.ref r_9)]) rfl <| o_aload j (y d14_28) rfl rfl <| o_iload j (y d14_30) rfl <| k) ?_
  refine cS [(.ref r_9), (.int 0)] [] 0 X9 hx hZ hown (w 109 rfl) (w 110 rfl) (w 88 rfl) (w 111 rfl) (rmGC10 l Z a0 hw [] cs u8 r_9 rk_9 c0 T9.heap n0 Z9 H0 O10 Q9_0 H4) e9 hml pd_oaBIcC (y d14_32) (fun v14 T14 L14 hQ14 X14 => ?_)
  obtain ⟨rfl, N14a, eh14⟩ := hQ14
  have N14 := Fr.app N9 N14a
  have e14 : T14.heap = T9.heap := eh14
  refine og2 X14 hx (fun j _ k => o_sipushV j 255 (y d14_35) rfl <| o_icmpYes j (pc' := 54) (y d14_38) (XT.ii_gt_t H3) <| o_aload j (y d14_54) rfl rfl <| k) ?_
  exact rA X14 hx Bd rfl rfl rfl (y d14_56) e14 ⟨r_9, _, rfl, N14, P9, Q9_0, GK9_r⟩

def QC52k (Z : State) (ca : Addr) (ck : ClassId) (ba : Addr) (bk : ClassId) (c0 : Int32) (c1 : Int32) (x0 : Int32) (x1 : Int32) (h0 : Heap) (n0 : Nat) (v : Option Value) (h : Heap) (L : List Loc) : Prop := v = some (.int 2) ∧ Fr n0 L ∧ Keep h0 h [ba] ∧ Arv Z h ba bk .byte (2 : Int32) [(.int (own_b c0)), (.int (own_b c1))] (.int 0)
theorem rmC52k (l : Launch) (Z : State) (a0 : Array Value) (hw : HW a0 Z) (ws : List Jvm.Cond) (ca : Addr) (ck : ClassId) (ba : Addr) (bk : ClassId) (c0 : Int32) (c1 : Int32) (x0 : Int32) (x1 : Int32) (h0 : Heap) (n0 : Nat) (Z0 : n0 ≤ h0.size) (pr0 : Arv Z h0 ca ck .char (2 : Int32) [(.int c0), (.int c1)] (.int 0)) (pr1 : Arv Z h0 ba bk .byte (2 : Int32) [(.int x0), (.int x1)] (.int 0)) (H2 : n0 ≤ ba) (H3 : ¬ (255 : Int32) < c0) (H4 : ¬ (255 : Int32) < c1) :
    MF l Z ⟨"java/lang/StringUTF16", "compress", "([CI[BII)I"⟩ jdk_52_method_21_code 7 (some .int) ws R_0_0_0_0 #[(.ref ca), (.int 0), (.ref ba), (.int 0), (.int 2)] h0 (QC52k Z ca ck ba bk c0 c1 x0 x1 h0 n0) := by
  refine og_start (plainFor_of_name pn_java_lang_StringUTF16) fun p e s m below meth c s₁ Bd hx hby hml hZ hown hnm X0 e0 => ?_
  have y := @hb _ _ hby
  refine og (fun t k => castTop (ef5 m ca (0 : Int32) ba (0 : Int32) (2 : Int32)) k) ?_
  refine og2 X0 hx (fun j _ k => o_iconstV j 0 (y d15_0) rfl <| o_istore j (y d15_1) (l' := #[.val (.ref ca), .val (.int 0), .val (.ref ba), .val (.int 0), .val (.int 2), .val (.int 0), .unset]) rfl <| o_iload j (y d15_3) rfl <| o_iload j (y d15_5) rfl <| o_icmpNo j (y d15_7) (XT.ii_ge_f (by decide)) <| o_aloadN j (y d15_10) rfl rfl <| o_iloadN j (y d15_11) rfl <| o_caload (v := (.int c0)) X0 hx hZ e0 pr0 ⟨by decide, by decide⟩ rfl (y d15_12) <| o_istore j (y d15_13) (l' := #[.val (.ref ca), .val (.int 0), .val (.ref ba), .val (.int 0), .val (.int 2), .val (.int 0), .val (.int c0)]) rfl <| o_iload j (y d15_15) rfl <| o_sipushV j 255 (y d15_17) rfl <| o_icmpYes j (pc' := 26) (y d15_20) (XT.ii_le_t H3) <| o_aloadN j (y d15_26) rfl rfl <| o_iloadN j (y d15_27) rfl <| o_iload j (y d15_28) rfl <| o_i2bO j (y d15_30) <| k) ?_
  refine sB (v := own_b c0) 0 X0 hx hZ e0 pr1 (own_nar_b _) (y d15_31) (fun T1 h1 X1 e1 W1 A1 => ?_)
  have N1 := Fr.snoc X1 (Fr.nil n0) H2
  have P1 := (Keep.refl h0 [ba]).wr W1 (Or.inl (List.mem_of_getElem? (i := 0) rfl))
  have A2 := (pr0.other W1 (own_ane pr0 pr1 (by decide)))
  have A1v : Arv Z h1 ba bk .byte (2 : Int32) [(.int (own_b c0)), (.int x1)] (.int 0) := A1
  refine og2 X1 hx (fun j _ k => o_iincL j 1 (y d15_32) rfl (1 : Int32) (by decide) rfl (l' := #[.val (.ref ca), .val (.int 1), .val (.ref ba), .val (.int 0), .val (.int 2), .val (.int 0), .val (.int c0)]) rfl <| o_iincL j 1 (y d15_35) rfl (1 : Int32) (by decide) rfl (l' := #[.val (.ref ca), .val (.int 1), .val (.ref ba), .val (.int 1), .val (.int 2), .val (.int 0), .val (.int c0)]) rfl <| o_iincL j 1 (y d15_38) rfl (1 : Int32) (by decide) rfl (l' := #[.val (.ref ca), .val (.int 1), .val (.ref ba), .val (.int 1), .val (.int 2), .val (.int 1), .val (.int c0)]) rfl <| o_goto j (pc' := 3) (y d15_41) <| o_iload j (y d15_3) rfl <| o_iload j (y d15_5) rfl <| o_icmpNo j (y d15_7) (XT.ii_ge_f (by decide)) <| o_aloadN j (y d15_10) rfl rfl <| o_iloadN j (y d15_11) rfl <| o_caload (v := (.int c1)) X1 hx hZ e1 A2 ⟨by decide, by decide⟩ rfl (y d15_12) <| o_istore j (y d15_13) (l' := #[.val (.ref ca), .val (.int 1), .val (.ref ba), .val (.int 1), .val (.int 2), .val (.int 1), .val (.int c1)]) rfl <| o_iload j (y d15_15) rfl <| o_sipushV j 255 (y d15_17) rfl <| o_icmpYes j (pc' := 26) (y d15_20) (XT.ii_le_t H4) <| o_aloadN j (y d15_26) rfl rfl <| o_iloadN j (y d15_27) rfl <| o_iload j (y d15_28) rfl <| o_i2bO j (y d15_30) <| k) ?_
  refine sB (v := own_b c1) 1 X1 hx hZ e1 A1v (own_nar_b _) (y d15_31) (fun T3 h3 X3 e3 W3 A3 => ?_)
  have N3 := Fr.snoc X3 N1 H2
  have P3 := P1.wr W3 (Or.inl (List.mem_of_getElem? (i := 0) rfl))
  have A3v : Arv Z h3 ba bk .byte (2 : Int32) [(.int (own_b c0)), (.int (own_b c1))] (.int 0) := A3
  refine og2 X3 hx (fun j _ k => o_iincL j 1 (y d15_32) rfl (2 : Int32) (by decide) rfl (l' := #[.val (.ref ca), .val (.int 2), .val (.ref ba), .val (.int 1), .val (.int 2), .val (.int 1), .val (.int c1)]) rfl <| o_iincL j 1 (y d15_35) rfl (2 : Int32) (by decide) rfl (l' := #[.val (.ref ca), .val (.int 2), .val (.ref ba), .val (.int 2), .val (.int 2), .val (.int 1), .val (.int c1)]) rfl <| o_iincL j 1 (y d15_38) rfl (2 : Int32) (by decide) rfl (l' := #[.val (.ref ca), .val (.int 2), .val (.ref ba), .val (.int 2), .val (.int 2), .val (.int 2), .val (.int c1)]) rfl <| o_goto j (pc' := 3) (y d15_41) <| o_iload j (y d15_3) rfl <| o_iload j (y d15_5) rfl <| o_icmpYes j (pc' := 44) (y d15_7) (XT.ii_ge_t (by decide)) <| o_iload j (y d15_44) rfl <| k) ?_
  exact rI X3 hx Bd (y d15_46) e3 ⟨rfl, N3, P3, A3v⟩

abbrev R_1_1_2_18 : Room := ({ frames := 1, cells := 1, slots := 2, locals := 18 } : Room)
def QC32k (Z : State) (cs : Int32) (u8 : Addr) (ca : Addr) (ck : ClassId) (c0 : Int32) (c1 : Int32) (h0 : Heap) (n0 : Nat) (v : Option Value) (h : Heap) (L : List Loc) : Prop := ∃ r : Addr, ∃ rk : ClassId, v = some (.ref r) ∧ Fr n0 L ∧ Keep h0 h [] ∧ Arv Z h r rk .byte (2 : Int32) [(.int (own_b c0)), (.int (own_b c1))] (.int 0) ∧ Exa Z h r "[B" ∧ h0.size ≤ r
theorem rmC32k (l : Launch) (Z : State) (a0 : Array Value) (hw : HW a0 Z) (ws : List Jvm.Cond) (cs : Int32) (u8 : Addr) (ca : Addr) (ck : ClassId) (c0 : Int32) (c1 : Int32) (h0 : Heap) (n0 : Nat) (Z0 : n0 ≤ h0.size) (H0 : OSt Z cs u8) (pr1 : Old Z n0 h0) (pr2 : Arv Z h0 ca ck .char (2 : Int32) [(.int c0), (.int c1)] (.int 0)) (H3 : ¬ (255 : Int32) < c0) (H4 : ¬ (255 : Int32) < c1) (H5 : OCh c0) (H6 : OCh c1) :
    MF l Z ⟨"java/lang/StringUTF16", "compress", "([CII)[B"⟩ jdk_52_method_16_code 6 (some (.array .byte)) ws R_1_1_2_18 #[(.ref ca), (.int 0), (.int 2)] h0 (QC32k Z cs u8 ca ck c0 c1 h0 n0) := by
  refine og_start (plainFor_of_name pn_java_lang_StringUTF16) fun p e s m below meth c s₁ Bd hx hby hml hZ hown hnm X0 e0 => ?_
  have y := @hb _ _ hby
  have w := @wd _ _ hw
  refine og (fun t k => castTop (ef6 m ca (0 : Int32) (2 : Int32)) k) ?_
  refine og2 X0 hx (fun j _ k => o_iloadN j (y d14_0) rfl <| k) ?_
  refine nP .byte 2 "[B" X0 hx hZ (w 20 rfl) e0 (y d14_1) (fun T1 h1 a1 kc1 g1 X1 e1 E1 A1 D1 => ?_)
  have Z1 : n0 ≤ h1.size := Nat.le_trans Z0 E1.1
  have G1 : n0 ≤ a1 := Nat.le_trans Z0 (Nat.le_of_eq g1.symm)
  have GK1 : h0.size ≤ a1 := Nat.le_trans (Keep.refl h0 []).1 (Nat.le_of_eq g1.symm)
  have P1 := (Keep.refl h0 []).ext E1
  have A3 := (pr2.ext E1)
  have A4 : Arv Z h1 a1 kc1 .byte (2 : Int32) [(.int 0), (.int 0)] (.int 0) := (A1.pad (pad_rep [] _ 2))
  refine og2 X1 hx (fun j _ k => o_astoreN j (y d14_3) rfl (l' := #[.val (.ref ca), .val (.int 0), .val (.int 2), .val (.ref a1), .unset, .unset]) rfl <| o_aloadN j (y d14_4) rfl rfl <| o_iloadN j (y d14_5) rfl <| o_aloadN j (y d14_6) rfl rfl <| o_iconstV j 0 (y d14_7) rfl <| o_iloadN j (y d14_8) rfl <| k) ?_
  refine cS [(.ref ca), (.int 0), (.ref a1), (.int 0), (.int 2)] [] 0 X1 hx hZ hown (w 90 rfl) (w 91 rfl) (w 88 rfl) (w 92 rfl) (rmC52k l Z a0 hw [] ca ck a1 kc1 c0 c1 (0 : Int32) (0 : Int32) h1 n0 Z1 A3 A4 G1 H3 H4) e1 hml pd_oaCIaBIIcI (y d14_9) (fun v5 T5 L5 hQ5 X5 => ?_)
  obtain ⟨rfl, N5a, K5, Q5_0⟩ := hQ5
  have N5 := Fr.app (Fr.nil n0) N5a
  have e5 : T5.heap = T5.heap := rfl
  have P5 : Keep h0 T5.heap [] := (P1.trans K5 (allS (Or.inr GK1) all0))
  have E8 := (D1.keep K5)
  refine og2 X5 hx (fun j _ k => o_istore j (y d14_12) (l' := #[.val (.ref ca), .val (.int 0), .val (.int 2), .val (.ref a1), .val (.int 2), .unset]) rfl <| o_iload j (y d14_14) rfl <| o_iloadN j (y d14_16) rfl <| o_icmpYes j (pc' := 57) (y d14_17) (XT.ii_eq_t rfl) <| o_aloadN j (y d14_57) rfl rfl <| k) ?_
  exact rA X5 hx Bd rfl rfl rfl (y d14_58) e5 ⟨a1, _, rfl, N5, P5, Q5_0, E8, GK1⟩

def QC520 (Z : State) (ca : Addr) (ck : ClassId) (ba : Addr) (bk : ClassId) (c0 : Int32) (c1 : Int32) (x0 : Int32) (x1 : Int32) (h0 : Heap) (n0 : Nat) (v : Option Value) (h : Heap) (L : List Loc) : Prop := v = some (.int 0) ∧ Fr n0 L ∧ Keep h0 h [ba] ∧ Arv Z h ba bk .byte (2 : Int32) [(.int x0), (.int x1)] (.int 0)
theorem rmC520 (l : Launch) (Z : State) (a0 : Array Value) (hw : HW a0 Z) (ws : List Jvm.Cond) (ca : Addr) (ck : ClassId) (ba : Addr) (bk : ClassId) (c0 : Int32) (c1 : Int32) (x0 : Int32) (x1 : Int32) (h0 : Heap) (n0 : Nat) (Z0 : n0 ≤ h0.size) (pr0 : Arv Z h0 ca ck .char (2 : Int32) [(.int c0), (.int c1)] (.int 0)) (pr1 : Arv Z h0 ba bk .byte (2 : Int32) [(.int x0), (.int x1)] (.int 0)) (H2 : n0 ≤ ba) (H3 : (255 : Int32) < c0) :
    MF l Z ⟨"java/lang/StringUTF16", "compress", "([CI[BII)I"⟩ jdk_52_method_21_code 7 (some .int) ws R_0_0_0_0 #[(.ref ca), (.int 0), (.ref ba), (.int 0), (.int 2)] h0 (QC520 Z ca ck ba bk c0 c1 x0 x1 h0 n0) := by
  refine og_start (plainFor_of_name pn_java_lang_StringUTF16) fun p e s m below meth c s₁ Bd hx hby hml hZ hown hnm X0 e0 => ?_
  have y := @hb _ _ hby
  refine og (fun t k => castTop (ef5 m ca (0 : Int32) ba (0 : Int32) (2 : Int32)) k) ?_
  refine og2 X0 hx (fun j _ k => o_iconstV j 0 (y d15_0) rfl <| o_istore j (y d15_1) (l' := #[.val (.ref ca), .val (.int 0), .val (.ref ba), .val (.int 0), .val (.int 2), .val (.int 0), .unset]) rfl <| o_iload j (y d15_3) rfl <| o_iload j (y d15_5) rfl <| o_icmpNo j (y d15_7) (XT.ii_ge_f (by decide)) <| o_aloadN j (y d15_10) rfl rfl <| o_iloadN j (y d15_11) rfl <| o_caload (v := (.int c0)) X0 hx hZ e0 pr0 ⟨by decide, by decide⟩ rfl (y d15_12) <| o_istore j (y d15_13) (l' := #[.val (.ref ca), .val (.int 0), .val (.ref ba), .val (.int 0), .val (.int 2), .val (.int 0), .val (.int c0)]) rfl <| o_iload j (y d15_15) rfl <| o_sipushV j 255 (y d15_17) rfl <| o_icmpNo j (y d15_20) (XT.ii_le_f H3) <| o_iload j (y d15_23) rfl <| k) ?_
  exact rI X0 hx Bd (y d15_25) e0 ⟨rfl, (Fr.nil n0), (Keep.refl h0 [ba]), pr1⟩

abbrev R_3_2_6_40 : Room := ({ frames := 3, cells := 2, slots := 6, locals := 40 } : Room)
def QC320 (Z : State) (cs : Int32) (u8 : Addr) (ca : Addr) (ck : ClassId) (c0 : Int32) (c1 : Int32) (h0 : Heap) (n0 : Nat) (v : Option Value) (h : Heap) (L : List Loc) : Prop := ∃ r : Addr, ∃ rk : ClassId, v = some (.ref r) ∧ Fr n0 L ∧ Keep h0 h [] ∧ Arv Z h r rk .byte (4 : Int32) [(.int (own_lo c0)), (.int (own_hi c0)), (.int (own_lo c1)), (.int (own_hi c1))] (.int 0) ∧ h0.size ≤ r
theorem rmC320 (l : Launch) (Z : State) (a0 : Array Value) (hw : HW a0 Z) (ws : List Jvm.Cond) (cs : Int32) (u8 : Addr) (ca : Addr) (ck : ClassId) (c0 : Int32) (c1 : Int32) (h0 : Heap) (n0 : Nat) (Z0 : n0 ≤ h0.size) (H0 : OSt Z cs u8) (pr1 : Old Z n0 h0) (pr2 : Arv Z h0 ca ck .char (2 : Int32) [(.int c0), (.int c1)] (.int 0)) (H3 : (255 : Int32) < c0) (H4 : OCh c0) (H5 : OCh c1) :
    MF l Z ⟨"java/lang/StringUTF16", "compress", "([CII)[B"⟩ jdk_52_method_16_code 6 (some (.array .byte)) ws R_3_2_6_40 #[(.ref ca), (.int 0), (.int 2)] h0 (QC320 Z cs u8 ca ck c0 c1 h0 n0) := by
  refine og_start (plainFor_of_name pn_java_lang_StringUTF16) fun p e s m below meth c s₁ Bd hx hby hml hZ hown hnm X0 e0 => ?_
  have y := @hb _ _ hby
  have w := @wd _ _ hw
  refine og (fun t k => castTop (ef6 m ca (0 : Int32) (2 : Int32)) k) ?_
  refine og2 X0 hx (fun j _ k => o_iloadN j (y d14_0) rfl <| k) ?_
  refine nP .byte 2 "[B" X0 hx hZ (w 20 rfl) e0 (y d14_1) (fun T1 h1 a1 kc1 g1 X1 e1 E1 A1 D1 => ?_)
  have Z1 : n0 ≤ h1.size := Nat.le_trans Z0 E1.1
  have G1 : n0 ≤ a1 := Nat.le_trans Z0 (Nat.le_of_eq g1.symm)
  have GK1 : h0.size ≤ a1 := Nat.le_trans (Keep.refl h0 []).1 (Nat.le_of_eq g1.symm)
  have P1 := (Keep.refl h0 []).ext E1
  have O2 := (pr1.ext E1)
  have A3 := (pr2.ext E1)
  have A4 : Arv Z h1 a1 kc1 .byte (2 : Int32) [(.int 0), (.int 0)] (.int 0) := (A1.pad (pad_rep [] _ 2))
  refine og2 X1 hx (fun j _ k => o_astoreN j (y d14_3) rfl (l' := #[.val (.ref ca), .val (.int 0), .val (.int 2), .val (.ref a1), .unset, .unset]) rfl <| o_aloadN j (y d14_4) rfl rfl <| o_iloadN j (y d14_5) rfl <| o_aloadN j (y d14_6) rfl rfl <| o_iconstV j 0 (y d14_7) rfl <| o_iloadN j (y d14_8) rfl <| k) ?_
  refine cS [(.ref ca), (.int 0), (.ref a1), (.int 0), (.int 2)] [] 0 X1 hx hZ hown (w 90 rfl) (w 91 rfl) (w 88 rfl) (w 92 rfl) (rmC520 l Z a0 hw [] ca ck a1 kc1 c0 c1 (0 : Int32) (0 : Int32) h1 n0 Z1 A3 A4 G1 H3) e1 hml pd_oaCIaBIIcI (y d14_9) (fun v5 T5 L5 hQ5 X5 => ?_)
  obtain ⟨rfl, N5a, K5, Q5_0⟩ := hQ5
  have N5 := Fr.app (Fr.nil n0) N5a
  have e5 : T5.heap = T5.heap := rfl
  have Z5 : n0 ≤ T5.heap.size := (Nat.le_trans Z1 K5.1)
  have P5 : Keep h0 T5.heap [] := (P1.trans K5 (allS (Or.inr GK1) all0))
  have O6 := (O2.keep K5 (allS G1 all0))
  have A7 := (A3.keep K5 (ninS (Nat.ne_of_lt (Nat.lt_of_lt_of_eq pr2.lt g1.symm)) nin0))
  have E8 := (D1.keep K5)
  refine og2 X5 hx (fun j _ k => o_istore j (y d14_12) (l' := #[.val (.ref ca), .val (.int 0), .val (.int 2), .val (.ref a1), .val (.int 0), .unset]) rfl <| o_iload j (y d14_14) rfl <| o_iloadN j (y d14_16) rfl <| o_icmpNo j (y d14_17) (XT.ii_eq_f (by decide)) <| o_aloadN j (y d14_20) rfl rfl <| o_iloadN j (y d14_21) rfl <| o_iloadN j (y d14_22) rfl <| k) ?_
  refine cS [(.ref ca), (.int 0), (.int 2)] [] 0 X5 hx hZ hown (w 93 rfl) (w 94 rfl) (w 88 rfl) (w 95 rfl) (rmTB2 l Z a0 hw [] cs u8 ca ck c0 c1 T5.heap n0 Z5 H0 O6 A7) e5 hml pd_oaCIIcaB (y d14_23) (fun v9 T9 L9 hQ9 X9 => ?_)
  obtain ⟨r_9, rk_9, rfl, N9a, K9, Q9_0, Q9_1⟩ := hQ9
  have N9 := Fr.app N5 N9a
  have e9 : T9.heap = T9.heap := rfl
  have Z9 : n0 ≤ T9.heap.size := (Nat.le_trans Z5 K9.1)
  have P9 : Keep h0 T9.heap [] := (P5.trans K9 all0)
  have O10 := (O6.keep K9 all0)
  have GK9_r : h0.size ≤ r_9 := Nat.le_trans P5.1 Q9_1
  have ne9_ca_r : ca ≠ r_9 := Nat.ne_of_lt (Nat.lt_of_lt_of_le A7.lt Q9_1)
  have ne9_a1_r : a1 ≠ r_9 := Nat.ne_of_lt (Nat.lt_of_lt_of_le E8.lt Q9_1)
  refine og2 X9 hx (fun j _ k => o_astore j (y d14_26) rfl (l' := #[.val (.ref ca), .val (.int 0), .val (.int 2), .val (.ref a1), .val (.int 0), .val (.ref r_9)]) rfl <| o_aload j (y d14_28) rfl rfl <| o_iload j (y d14_30) rfl <| k) ?_
  refine cS [(.ref r_9), (.int 0)] [] 0 X9 hx hZ hown (w 109 rfl) (w 110 rfl) (w 88 rfl) (w 111 rfl) (rmGC20 l Z a0 hw [] cs u8 r_9 rk_9 c0 c1 T9.heap n0 Z9 H0 O10 Q9_0 H4) e9 hml pd_oaBIcC (y d14_32) (fun v14 T14 L14 hQ14 X14 => ?_)
  obtain ⟨rfl, N14a, eh14⟩ := hQ14
  have N14 := Fr.app N9 N14a
  have e14 : T14.heap = T9.heap := eh14
  refine og2 X14 hx (fun j _ k => o_sipushV j 255 (y d14_35) rfl <| o_icmpYes j (pc' := 54) (y d14_38) (XT.ii_gt_t H3) <| o_aload j (y d14_54) rfl rfl <| k) ?_
  exact rA X14 hx Bd rfl rfl rfl (y d14_56) e14 ⟨r_9, _, rfl, N14, P9, Q9_0, GK9_r⟩

def QC521 (Z : State) (ca : Addr) (ck : ClassId) (ba : Addr) (bk : ClassId) (c0 : Int32) (c1 : Int32) (x0 : Int32) (x1 : Int32) (h0 : Heap) (n0 : Nat) (v : Option Value) (h : Heap) (L : List Loc) : Prop := v = some (.int 1) ∧ Fr n0 L ∧ Keep h0 h [ba] ∧ Arv Z h ba bk .byte (2 : Int32) [(.int (own_b c0)), (.int x1)] (.int 0)
theorem rmC521 (l : Launch) (Z : State) (a0 : Array Value) (hw : HW a0 Z) (ws : List Jvm.Cond) (ca : Addr) (ck : ClassId) (ba : Addr) (bk : ClassId) (c0 : Int32) (c1 : Int32) (x0 : Int32) (x1 : Int32) (h0 : Heap) (n0 : Nat) (Z0 : n0 ≤ h0.size) (pr0 : Arv Z h0 ca ck .char (2 : Int32) [(.int c0), (.int c1)] (.int 0)) (pr1 : Arv Z h0 ba bk .byte (2 : Int32) [(.int x0), (.int x1)] (.int 0)) (H2 : n0 ≤ ba) (H3 : ¬ (255 : Int32) < c0) (H4 : (255 : Int32) < c1) :
    MF l Z ⟨"java/lang/StringUTF16", "compress", "([CI[BII)I"⟩ jdk_52_method_21_code 7 (some .int) ws R_0_0_0_0 #[(.ref ca), (.int 0), (.ref ba), (.int 0), (.int 2)] h0 (QC521 Z ca ck ba bk c0 c1 x0 x1 h0 n0) := by
  refine og_start (plainFor_of_name pn_java_lang_StringUTF16) fun p e s m below meth c s₁ Bd hx hby hml hZ hown hnm X0 e0 => ?_
  have y := @hb _ _ hby
  refine og (fun t k => castTop (ef5 m ca (0 : Int32) ba (0 : Int32) (2 : Int32)) k) ?_
  refine og2 X0 hx (fun j _ k => o_iconstV j 0 (y d15_0) rfl <| o_istore j (y d15_1) (l' := #[.val (.ref ca), .val (.int 0), .val (.ref ba), .val (.int 0), .val (.int 2), .val (.int 0), .unset]) rfl <| o_iload j (y d15_3) rfl <| o_iload j (y d15_5) rfl <| o_icmpNo j (y d15_7) (XT.ii_ge_f (by decide)) <| o_aloadN j (y d15_10) rfl rfl <| o_iloadN j (y d15_11) rfl <| o_caload (v := (.int c0)) X0 hx hZ e0 pr0 ⟨by decide, by decide⟩ rfl (y d15_12) <| o_istore j (y d15_13) (l' := #[.val (.ref ca), .val (.int 0), .val (.ref ba), .val (.int 0), .val (.int 2), .val (.int 0), .val (.int c0)]) rfl <| o_iload j (y d15_15) rfl <| o_sipushV j 255 (y d15_17) rfl <| o_icmpYes j (pc' := 26) (y d15_20) (XT.ii_le_t H3) <| o_aloadN j (y d15_26) rfl rfl <| o_iloadN j (y d15_27) rfl <| o_iload j (y d15_28) rfl <| o_i2bO j (y d15_30) <| k) ?_
  refine sB (v := own_b c0) 0 X0 hx hZ e0 pr1 (own_nar_b _) (y d15_31) (fun T1 h1 X1 e1 W1 A1 => ?_)
  have N1 := Fr.snoc X1 (Fr.nil n0) H2
  have P1 := (Keep.refl h0 [ba]).wr W1 (Or.inl (List.mem_of_getElem? (i := 0) rfl))
  have A2 := (pr0.other W1 (own_ane pr0 pr1 (by decide)))
  have A1v : Arv Z h1 ba bk .byte (2 : Int32) [(.int (own_b c0)), (.int x1)] (.int 0) := A1
  refine og2 X1 hx (fun j _ k => o_iincL j 1 (y d15_32) rfl (1 : Int32) (by decide) rfl (l' := #[.val (.ref ca), .val (.int 1), .val (.ref ba), .val (.int 0), .val (.int 2), .val (.int 0), .val (.int c0)]) rfl <| o_iincL j 1 (y d15_35) rfl (1 : Int32) (by decide) rfl (l' := #[.val (.ref ca), .val (.int 1), .val (.ref ba), .val (.int 1), .val (.int 2), .val (.int 0), .val (.int c0)]) rfl <| o_iincL j 1 (y d15_38) rfl (1 : Int32) (by decide) rfl (l' := #[.val (.ref ca), .val (.int 1), .val (.ref ba), .val (.int 1), .val (.int 2), .val (.int 1), .val (.int c0)]) rfl <| o_goto j (pc' := 3) (y d15_41) <| o_iload j (y d15_3) rfl <| o_iload j (y d15_5) rfl <| o_icmpNo j (y d15_7) (XT.ii_ge_f (by decide)) <| o_aloadN j (y d15_10) rfl rfl <| o_iloadN j (y d15_11) rfl <| o_caload (v := (.int c1)) X1 hx hZ e1 A2 ⟨by decide, by decide⟩ rfl (y d15_12) <| o_istore j (y d15_13) (l' := #[.val (.ref ca), .val (.int 1), .val (.ref ba), .val (.int 1), .val (.int 2), .val (.int 1), .val (.int c1)]) rfl <| o_iload j (y d15_15) rfl <| o_sipushV j 255 (y d15_17) rfl <| o_icmpNo j (y d15_20) (XT.ii_le_f H4) <| o_iload j (y d15_23) rfl <| k) ?_
  exact rI X1 hx Bd (y d15_25) e1 ⟨rfl, N1, P1, A1v⟩

def QC321 (Z : State) (cs : Int32) (u8 : Addr) (ca : Addr) (ck : ClassId) (c0 : Int32) (c1 : Int32) (h0 : Heap) (n0 : Nat) (v : Option Value) (h : Heap) (L : List Loc) : Prop := ∃ r : Addr, ∃ rk : ClassId, v = some (.ref r) ∧ Fr n0 L ∧ Keep h0 h [] ∧ Arv Z h r rk .byte (4 : Int32) [(.int (own_lo c0)), (.int (own_hi c0)), (.int (own_lo c1)), (.int (own_hi c1))] (.int 0) ∧ h0.size ≤ r
theorem rmC321 (l : Launch) (Z : State) (a0 : Array Value) (hw : HW a0 Z) (ws : List Jvm.Cond) (cs : Int32) (u8 : Addr) (ca : Addr) (ck : ClassId) (c0 : Int32) (c1 : Int32) (h0 : Heap) (n0 : Nat) (Z0 : n0 ≤ h0.size) (H0 : OSt Z cs u8) (pr1 : Old Z n0 h0) (pr2 : Arv Z h0 ca ck .char (2 : Int32) [(.int c0), (.int c1)] (.int 0)) (H3 : ¬ (255 : Int32) < c0) (H4 : (255 : Int32) < c1) (H5 : OCh c0) (H6 : OCh c1) :
    MF l Z ⟨"java/lang/StringUTF16", "compress", "([CII)[B"⟩ jdk_52_method_16_code 6 (some (.array .byte)) ws R_3_2_6_40 #[(.ref ca), (.int 0), (.int 2)] h0 (QC321 Z cs u8 ca ck c0 c1 h0 n0) := by
  refine og_start (plainFor_of_name pn_java_lang_StringUTF16) fun p e s m below meth c s₁ Bd hx hby hml hZ hown hnm X0 e0 => ?_
  have y := @hb _ _ hby
  have w := @wd _ _ hw
  refine og (fun t k => castTop (ef6 m ca (0 : Int32) (2 : Int32)) k) ?_
  refine og2 X0 hx (fun j _ k => o_iloadN j (y d14_0) rfl <| k) ?_
  refine nP .byte 2 "[B" X0 hx hZ (w 20 rfl) e0 (y d14_1) (fun T1 h1 a1 kc1 g1 X1 e1 E1 A1 D1 => ?_)
  have Z1 : n0 ≤ h1.size := Nat.le_trans Z0 E1.1
  have G1 : n0 ≤ a1 := Nat.le_trans Z0 (Nat.le_of_eq g1.symm)
  have GK1 : h0.size ≤ a1 := Nat.le_trans (Keep.refl h0 []).1 (Nat.le_of_eq g1.symm)
  have P1 := (Keep.refl h0 []).ext E1
  have O2 := (pr1.ext E1)
  have A3 := (pr2.ext E1)
  have A4 : Arv Z h1 a1 kc1 .byte (2 : Int32) [(.int 0), (.int 0)] (.int 0) := (A1.pad (pad_rep [] _ 2))
  refine og2 X1 hx (fun j _ k => o_astoreN j (y d14_3) rfl (l' := #[.val (.ref ca), .val (.int 0), .val (.int 2), .val (.ref a1), .unset, .unset]) rfl <| o_aloadN j (y d14_4) rfl rfl <| o_iloadN j (y d14_5) rfl <| o_aloadN j (y d14_6) rfl rfl <| o_iconstV j 0 (y d14_7) rfl <| o_iloadN j (y d14_8) rfl <| k) ?_
  refine cS [(.ref ca), (.int 0), (.ref a1), (.int 0), (.int 2)] [] 0 X1 hx hZ hown (w 90 rfl) (w 91 rfl) (w 88 rfl) (w 92 rfl) (rmC521 l Z a0 hw [] ca ck a1 kc1 c0 c1 (0 : Int32) (0 : Int32) h1 n0 Z1 A3 A4 G1 H3 H4) e1 hml pd_oaCIaBIIcI (y d14_9) (fun v5 T5 L5 hQ5 X5 => ?_)
  obtain ⟨rfl, N5a, K5, Q5_0⟩ := hQ5
  have N5 := Fr.app (Fr.nil n0) N5a
  have e5 : T5.heap = T5.heap := rfl
  have Z5 : n0 ≤ T5.heap.size := (Nat.le_trans Z1 K5.1)
  have P5 : Keep h0 T5.heap [] := (P1.trans K5 (allS (Or.inr GK1) all0))
  have O6 := (O2.keep K5 (allS G1 all0))
  have A7 := (A3.keep K5 (ninS (Nat.ne_of_lt (Nat.lt_of_lt_of_eq pr2.lt g1.symm)) nin0))
  have E8 := (D1.keep K5)
  refine og2 X5 hx (fun j _ k => o_istore j (y d14_12) (l' := #[.val (.ref ca), .val (.int 0), .val (.int 2), .val (.ref a1), .val (.int 1), .unset]) rfl <| o_iload j (y d14_14) rfl <| o_iloadN j (y d14_16) rfl <| o_icmpNo j (y d14_17) (XT.ii_eq_f (by decide)) <| o_aloadN j (y d14_20) rfl rfl <| o_iloadN j (y d14_21) rfl <| o_iloadN j (y d14_22) rfl <| k) ?_
  refine cS [(.ref ca), (.int 0), (.int 2)] [] 0 X5 hx hZ hown (w 93 rfl) (w 94 rfl) (w 88 rfl) (w 95 rfl) (rmTB2 l Z a0 hw [] cs u8 ca ck c0 c1 T5.heap n0 Z5 H0 O6 A7) e5 hml pd_oaCIIcaB (y d14_23) (fun v9 T9 L9 hQ9 X9 => ?_)
  obtain ⟨r_9, rk_9, rfl, N9a, K9, Q9_0, Q9_1⟩ := hQ9
  have N9 := Fr.app N5 N9a
  have e9 : T9.heap = T9.heap := rfl
  have Z9 : n0 ≤ T9.heap.size := (Nat.le_trans Z5 K9.1)
  have P9 : Keep h0 T9.heap [] := (P5.trans K9 all0)
  have O10 := (O6.keep K9 all0)
  have GK9_r : h0.size ≤ r_9 := Nat.le_trans P5.1 Q9_1
  have ne9_ca_r : ca ≠ r_9 := Nat.ne_of_lt (Nat.lt_of_lt_of_le A7.lt Q9_1)
  have ne9_a1_r : a1 ≠ r_9 := Nat.ne_of_lt (Nat.lt_of_lt_of_le E8.lt Q9_1)
  refine og2 X9 hx (fun j _ k => o_astore j (y d14_26) rfl (l' := #[.val (.ref ca), .val (.int 0), .val (.int 2), .val (.ref a1), .val (.int 1), .val (.ref r_9)]) rfl <| o_aload j (y d14_28) rfl rfl <| o_iload j (y d14_30) rfl <| k) ?_
  refine cS [(.ref r_9), (.int 1)] [] 0 X9 hx hZ hown (w 109 rfl) (w 110 rfl) (w 88 rfl) (w 111 rfl) (rmGC21 l Z a0 hw [] cs u8 r_9 rk_9 c0 c1 T9.heap n0 Z9 H0 O10 Q9_0 H6) e9 hml pd_oaBIcC (y d14_32) (fun v14 T14 L14 hQ14 X14 => ?_)
  obtain ⟨rfl, N14a, eh14⟩ := hQ14
  have N14 := Fr.app N9 N14a
  have e14 : T14.heap = T9.heap := eh14
  refine og2 X14 hx (fun j _ k => o_sipushV j 255 (y d14_35) rfl <| o_icmpYes j (pc' := 54) (y d14_38) (XT.ii_gt_t H4) <| o_aload j (y d14_54) rfl rfl <| k) ?_
  exact rA X14 hx Bd rfl rfl rfl (y d14_56) e14 ⟨r_9, _, rfl, N14, P9, Q9_0, GK9_r⟩

abbrev k13 := jdk_52_method_15_code
theorem d21_0 : decode k13 0 = .ok (.iload_n 1, 1) := by decide +kernel
theorem d21_1 : decode k13 1 = .ok (.aload_n 0, 1) := by decide +kernel
theorem d21_2 : decode k13 2 = .ok (.arraylength, 1) := by decide +kernel
theorem d21_3 : decode k13 3 = .ok (.isub, 1) := by decide +kernel
theorem d21_4 : decode k13 4 = .ok (.bipush 31, 2) := by decide +kernel
theorem d21_6 : decode k13 6 = .ok (.iushr, 1) := by decide +kernel
theorem d21_7 : decode k13 7 = .ok (.i2b, 1) := by decide +kernel
theorem d21_8 : decode k13 8 = .ok (.ireturn, 1) := by decide +kernel
def QCF11 (Z : State) (ba : Addr) (bk : ClassId) (x0 : Int32) (h0 : Heap) (n0 : Nat) (v : Option Value) (h : Heap) (L : List Loc) : Prop := v = some (.int 0) ∧ Fr n0 L ∧ h = h0
theorem rmCF11 (l : Launch) (Z : State) (a0 : Array Value) (hw : HW a0 Z) (ws : List Jvm.Cond) (ba : Addr) (bk : ClassId) (x0 : Int32) (h0 : Heap) (n0 : Nat) (Z0 : n0 ≤ h0.size) (pr0 : Arv Z h0 ba bk .byte (1 : Int32) [(.int x0)] (.int 0)) :
    MF l Z ⟨"java/lang/StringUTF16", "coderFromArrayLen", "([BI)B"⟩ jdk_52_method_15_code 2 (some .byte) ws R_0_0_0_0 #[(.ref ba), (.int 1)] h0 (QCF11 Z ba bk x0 h0 n0) := by
  refine og_start (plainFor_of_name pn_java_lang_StringUTF16) fun p e s m below meth c s₁ Bd hx hby hml hZ hown hnm X0 e0 => ?_
  have y := @hb _ _ hby
  refine og (fun t k => castTop (ef3 m ba (1 : Int32)) k) ?_
  refine og2 X0 hx (fun j _ k => o_iloadN j (y d21_0) rfl <| o_aloadN j (y d21_1) rfl rfl <| o_alen X0 hx hZ e0 pr0 (y d21_2) <| o_isub j (y d21_3) <| k) ?_
  rw [(by decide : (1 : Int32) - (1 : Int32) = (0 : Int32))]
  refine og2 X0 hx (fun j _ k => o_bipushV j 31 (y d21_4) rfl <| o_iushr j (y d21_6) <| k) ?_
  rw [(by decide : XT.ushr (0 : Int32) (31 : Int32) = (0 : Int32))]
  refine og2 X0 hx (fun j _ k => o_i2b j (y d21_7) <| k) ?_
  rw [(by decide : (0 : Int32).toInt8.toInt32 = (0 : Int32))]
  exact rN (v := (0 : Int32)) X0 hx Bd (by simp) rfl (y d21_8) e0 ⟨rfl, (Fr.nil n0), rfl⟩

def QCF12 (Z : State) (ba : Addr) (bk : ClassId) (x0 : Int32) (x1 : Int32) (h0 : Heap) (n0 : Nat) (v : Option Value) (h : Heap) (L : List Loc) : Prop := v = some (.int 1) ∧ Fr n0 L ∧ h = h0
theorem rmCF12 (l : Launch) (Z : State) (a0 : Array Value) (hw : HW a0 Z) (ws : List Jvm.Cond) (ba : Addr) (bk : ClassId) (x0 : Int32) (x1 : Int32) (h0 : Heap) (n0 : Nat) (Z0 : n0 ≤ h0.size) (pr0 : Arv Z h0 ba bk .byte (2 : Int32) [(.int x0), (.int x1)] (.int 0)) :
    MF l Z ⟨"java/lang/StringUTF16", "coderFromArrayLen", "([BI)B"⟩ jdk_52_method_15_code 2 (some .byte) ws R_0_0_0_0 #[(.ref ba), (.int 1)] h0 (QCF12 Z ba bk x0 x1 h0 n0) := by
  refine og_start (plainFor_of_name pn_java_lang_StringUTF16) fun p e s m below meth c s₁ Bd hx hby hml hZ hown hnm X0 e0 => ?_
  have y := @hb _ _ hby
  refine og (fun t k => castTop (ef3 m ba (1 : Int32)) k) ?_
  refine og2 X0 hx (fun j _ k => o_iloadN j (y d21_0) rfl <| o_aloadN j (y d21_1) rfl rfl <| o_alen X0 hx hZ e0 pr0 (y d21_2) <| o_isub j (y d21_3) <| k) ?_
  rw [(by decide : (1 : Int32) - (2 : Int32) = (-1 : Int32))]
  refine og2 X0 hx (fun j _ k => o_bipushV j 31 (y d21_4) rfl <| o_iushr j (y d21_6) <| k) ?_
  rw [(by decide : XT.ushr (-1 : Int32) (31 : Int32) = (1 : Int32))]
  refine og2 X0 hx (fun j _ k => o_i2b j (y d21_7) <| k) ?_
  rw [(by decide : (1 : Int32).toInt8.toInt32 = (1 : Int32))]
  exact rN (v := (1 : Int32)) X0 hx Bd (by simp) rfl (y d21_8) e0 ⟨rfl, (Fr.nil n0), rfl⟩

def QCF22 (Z : State) (ba : Addr) (bk : ClassId) (x0 : Int32) (x1 : Int32) (h0 : Heap) (n0 : Nat) (v : Option Value) (h : Heap) (L : List Loc) : Prop := v = some (.int 0) ∧ Fr n0 L ∧ h = h0
theorem rmCF22 (l : Launch) (Z : State) (a0 : Array Value) (hw : HW a0 Z) (ws : List Jvm.Cond) (ba : Addr) (bk : ClassId) (x0 : Int32) (x1 : Int32) (h0 : Heap) (n0 : Nat) (Z0 : n0 ≤ h0.size) (pr0 : Arv Z h0 ba bk .byte (2 : Int32) [(.int x0), (.int x1)] (.int 0)) :
    MF l Z ⟨"java/lang/StringUTF16", "coderFromArrayLen", "([BI)B"⟩ jdk_52_method_15_code 2 (some .byte) ws R_0_0_0_0 #[(.ref ba), (.int 2)] h0 (QCF22 Z ba bk x0 x1 h0 n0) := by
  refine og_start (plainFor_of_name pn_java_lang_StringUTF16) fun p e s m below meth c s₁ Bd hx hby hml hZ hown hnm X0 e0 => ?_
  have y := @hb _ _ hby
  refine og (fun t k => castTop (ef3 m ba (2 : Int32)) k) ?_
  refine og2 X0 hx (fun j _ k => o_iloadN j (y d21_0) rfl <| o_aloadN j (y d21_1) rfl rfl <| o_alen X0 hx hZ e0 pr0 (y d21_2) <| o_isub j (y d21_3) <| k) ?_
  rw [(by decide : (2 : Int32) - (2 : Int32) = (0 : Int32))]
  refine og2 X0 hx (fun j _ k => o_bipushV j 31 (y d21_4) rfl <| o_iushr j (y d21_6) <| k) ?_
  rw [(by decide : XT.ushr (0 : Int32) (31 : Int32) = (0 : Int32))]
  refine og2 X0 hx (fun j _ k => o_i2b j (y d21_7) <| k) ?_
  rw [(by decide : (0 : Int32).toInt8.toInt32 = (0 : Int32))]
  exact rN (v := (0 : Int32)) X0 hx Bd (by simp) rfl (y d21_8) e0 ⟨rfl, (Fr.nil n0), rfl⟩

def QCF24 (Z : State) (ba : Addr) (bk : ClassId) (x0 : Int32) (x1 : Int32) (x2 : Int32) (x3 : Int32) (h0 : Heap) (n0 : Nat) (v : Option Value) (h : Heap) (L : List Loc) : Prop := v = some (.int 1) ∧ Fr n0 L ∧ h = h0
theorem rmCF24 (l : Launch) (Z : State) (a0 : Array Value) (hw : HW a0 Z) (ws : List Jvm.Cond) (ba : Addr) (bk : ClassId) (x0 : Int32) (x1 : Int32) (x2 : Int32) (x3 : Int32) (h0 : Heap) (n0 : Nat) (Z0 : n0 ≤ h0.size) (pr0 : Arv Z h0 ba bk .byte (4 : Int32) [(.int x0), (.int x1), (.int x2), (.int x3)] (.int 0)) :
    MF l Z ⟨"java/lang/StringUTF16", "coderFromArrayLen", "([BI)B"⟩ jdk_52_method_15_code 2 (some .byte) ws R_0_0_0_0 #[(.ref ba), (.int 2)] h0 (QCF24 Z ba bk x0 x1 x2 x3 h0 n0) := by
  refine og_start (plainFor_of_name pn_java_lang_StringUTF16) fun p e s m below meth c s₁ Bd hx hby hml hZ hown hnm X0 e0 => ?_
  have y := @hb _ _ hby
  refine og (fun t k => castTop (ef3 m ba (2 : Int32)) k) ?_
  refine og2 X0 hx (fun j _ k => o_iloadN j (y d21_0) rfl <| o_aloadN j (y d21_1) rfl rfl <| o_alen X0 hx hZ e0 pr0 (y d21_2) <| o_isub j (y d21_3) <| k) ?_
  rw [(by decide : (2 : Int32) - (4 : Int32) = (-2 : Int32))]
  refine og2 X0 hx (fun j _ k => o_bipushV j 31 (y d21_4) rfl <| o_iushr j (y d21_6) <| k) ?_
  rw [(by decide : XT.ushr (-2 : Int32) (31 : Int32) = (1 : Int32))]
  refine og2 X0 hx (fun j _ k => o_i2b j (y d21_7) <| k) ?_
  rw [(by decide : (1 : Int32).toInt8.toInt32 = (1 : Int32))]
  exact rN (v := (1 : Int32)) X0 hx Bd (by simp) rfl (y d21_8) e0 ⟨rfl, (Fr.nil n0), rfl⟩

abbrev R_1_2_4_12 : Room := ({ frames := 1, cells := 2, slots := 4, locals := 12 } : Room)
abbrev k5 := jdk_42_method_149_code
theorem d2_0 : decode k5 0 = .ok (.aload_n 0, 1) := by decide +kernel
theorem d2_1 : decode k5 1 = .ok (.invokespecial 1, 3) := by decide +kernel
theorem d2_4 : decode k5 4 = .ok (.iload_n 3, 1) := by decide +kernel
theorem d2_5 : decode k5 5 = .ok (.ifCond .ne 22, 3) := by decide +kernel
theorem d2_8 : decode k5 8 = .ok (.aload_n 0, 1) := by decide +kernel
theorem d2_9 : decode k5 9 = .ok (.ldc 7, 2) := by decide +kernel
theorem d2_11 : decode k5 11 = .ok (.getfield 9, 3) := by decide +kernel
theorem d2_14 : decode k5 14 = .ok (.putfield 9, 3) := by decide +kernel
theorem d2_17 : decode k5 17 = .ok (.aload_n 0, 1) := by decide +kernel
theorem d2_18 : decode k5 18 = .ok (.ldc 7, 2) := by decide +kernel
theorem d2_20 : decode k5 20 = .ok (.getfield 15, 3) := by decide +kernel
theorem d2_23 : decode k5 23 = .ok (.putfield 15, 3) := by decide +kernel
theorem d2_26 : decode k5 26 = .ok (.return_, 1) := by decide +kernel
theorem pn_java_lang_String : plainName "java/lang/String" = true := by first | (simp [plainName, overriddenIn]; done) | decide +kernel
theorem ef7 (m : MethodId) (x0 : Addr) (x1 : Addr) (x2 : Int32) (x3 : Int32) : entryFrame m #[(.ref x0), (.ref x1), (.int x2), (.int x3), .null] 6 = (mkF m 0 #[.val (.ref x0), .val (.ref x1), .val (.int x2), .val (.int x3), .val .null, .unset] []) := by first | (simp [entryFrame, mkF, argsToLocals, Value.category]; done) | rfl
def QI30k (Z : State) (cs : Int32) (u8 : Addr) (sa : Addr) (ca : Addr) (ck : ClassId) (h0 : Heap) (n0 : Nat) (v : Option Value) (h : Heap) (L : List Loc) : Prop := ∃ b : Addr, ∃ bk : ClassId, v = none ∧ Fr n0 L ∧ Keep h0 h [sa] ∧ Fld Z h sa "java/lang/String" "value" "[B" (.ref b) ∧ Fld Z h sa "java/lang/String" "coder" "B" (.int 0) ∧ Exa Z h sa "java/lang/String" ∧ Arv Z h b bk .byte (0 : Int32) [] (.int 0) ∧ Exa Z h b "[B"
theorem rmI30k (l : Launch) (Z : State) (a0 : Array Value) (hw : HW a0 Z) (ws : List Jvm.Cond) (cs : Int32) (u8 : Addr) (sa : Addr) (ca : Addr) (ck : ClassId) (h0 : Heap) (n0 : Nat) (Z0 : n0 ≤ h0.size) (H0 : OSt Z cs u8) (pr1 : Old Z n0 h0) (pr2 : Fld Z h0 sa "java/lang/String" "value" "[B" .null) (pr3 : Fld Z h0 sa "java/lang/String" "coder" "B" (.int 0)) (pr4 : Exa Z h0 sa "java/lang/String") (pr5 : Arv Z h0 ca ck .char (0 : Int32) [] (.int 0)) (H6 : n0 ≤ sa) :
    MetFree l (⟨"java/lang/String", "<init>", "([CIILjava/lang/Void;)V"⟩ : MethodName) (head1 (Jvm.Cond.code (⟨"java/lang/String", "<init>", "([CIILjava/lang/Void;)V"⟩ : MethodName) jdk_42_method_149_code 6 none :: ws) R_1_2_4_12) (fun a U => a = #[(.ref sa), (.ref ca), (.int 0), (.int 0), .null] ∧ Z.Warmed39 U.vm ∧ U.heap = h0 ∧ CHv Z own_EL U.vm h0) (fun _ _ _ _ _ => True) (fun _ U o U' => ∃ v L, o = .returned v ∧ QI30k Z cs u8 sa ca ck h0 n0 v U'.heap L ∧ ReturnedEndW U o U' L R_1_2_4_12.cells R_1_2_4_12.slots) := by
  refine og_startH (plainFor_of_name pn_java_lang_String) fun p e s m below meth c s₁ Bd hx hby hml hZ hown hnm X0 e0 hS hkS hC0 => ?_
  have y := @hb _ _ hby
  have w := @wd _ _ hw
  refine og (fun t k => castTop (ef7 m sa ca (0 : Int32) (0 : Int32)) k) ?_
  refine og2 X0 hx (fun j _ k => o_aloadN j (y d2_0) rfl rfl <| k) ?_
  refine cO 0 X0 hx hZ hown (w 16 rfl) (w 17 rfl) (w 18 rfl) e0 hml (y d2_1) (fun T1 X1 e1 => ?_)
  refine og2 X1 hx (fun j _ k => o_iloadN j (y d2_4) rfl <| o_ifNo j (y d2_5) (by decide) <| o_aloadN j (y d2_8) rfl rfl <| k) ?_
  obtain ⟨a2, T2, h2, ks2, b2, kb2, X2, e2, E2, hS, hkS, hZ, hown, EA2, FC2, FV2, AB2, la2, lb2, CR2, LT2, -, st2⟩ := ldcCH X1 hx hZ hown (w 19 rfl) (fun d hd => hw d (own_strAtoms d hd)) e1 hS hkS (own_EW hw) (by decide) hC0 (vs := []) (z := (0 : Int32)) (by decide) (by decide) (by decide) (g := (mkF m 9 #[.val (.ref sa), .val (.ref ca), .val (.int 0), .val (.int 0), .val .null, .unset] [(.ref sa)])) rfl (y d2_9) (n := 0) (by decide) (by decide) (by decide) (by decide)
  have P2 : Keep h0 h2 [sa] := ((Keep.refl h0 [sa]).ext E2)
  have F4 := (Fld.ext E2 pr2)
  have F5 := (Fld.ext E2 pr3)
  have E6 := (Exa.ext E2 pr4)
  have EB2 := own_litB hZ hown (w 19 rfl) LT2 CR2.1 (by decide) FV2 AB2
  have nl2_sa : sa ≠ a2 := Fld.ne F4 FV2 (fun q => nomatch q)
  refine og st2 ?_
  change OG _ _ _ _ (T2.setTop (mkF m 11 #[.val (.ref sa), .val (.ref ca), .val (.int 0), .val (.int 0), .val .null, .unset] [(.ref a2), (.ref sa)]))
  refine g_getF X2 hx hZ hown (w 25 rfl) e2 FV2 (y d2_11) (fun T8 X8 e8 => ?_)
  refine pF (.array .byte) X8 hx hZ hown (w 25 rfl) e8 F4 E6 (Or.inr ⟨(w 21 rfl), rfl, hnm⟩) (w 6 rfl) (y d2_14) (fun T9 h9 X9 e9 W9 => ?_)
  have N9 := Fr.snoc X9 (Fr.nil n0) H6
  have P9 := P2.wr W9 (Or.inl (List.mem_of_getElem? (i := 0) rfl))
  have E11 := (Exa.wr W9 E6)
  have F14 := (Fld.other W9 FC2 (Or.inl (Ne.symm nl2_sa)))
  have A16 := (AB2.other W9 (Ne.symm (Exa.neArv E6 AB2 (w 6 rfl))))
  have E17 := (Exa.wr W9 EB2)
  have F18 := (Fld.same W9 F4)
  have F19 := (Fld.other W9 F5 (Or.inr (slot_ne (C := "java/lang/String") (Or.inr (w 22 rfl)) (Or.inr (w 21 rfl)) (by decide) (t := .byte) (t' := (.array .byte)) (by decide) (by decide))))
  refine og2 X9 hx (fun j _ k => o_aloadN j (y d2_17) rfl rfl <| k) ?_
  refine og (ldcAgain X9 hx hZ hown (w 19 rfl) LT2 (g := (mkF m 18 #[.val (.ref sa), .val (.ref ca), .val (.int 0), .val (.int 0), .val .null, .unset] [(.ref sa)])) rfl (y d2_18)) ?_
  change OG _ _ _ _ (T9.setTop (mkF m 20 #[.val (.ref sa), .val (.ref ca), .val (.int 0), .val (.int 0), .val .null, .unset] [(.ref a2), (.ref sa)]))
  refine g_getF X9 hx hZ hown (w 26 rfl) e9 F14 (y d2_20) (fun T20 X20 e20 => ?_)
  refine pF .byte X20 hx hZ hown (w 26 rfl) e20 F19 E11 (Or.inr ⟨(w 22 rfl), rfl, hnm⟩) (w 6 rfl) (y d2_23) (fun T21 h21 X21 e21 W21 => ?_)
  have N21 := Fr.snoc X21 N9 H6
  have P21 := P9.wr W21 (Or.inl (List.mem_of_getElem? (i := 0) rfl))
  have E23 := (Exa.wr W21 E11)
  have A28 := (A16.other W21 (Ne.symm (Exa.neArv E11 A16 (w 6 rfl))))
  have E29 := (Exa.wr W21 E17)
  have F30 := (Fld.other W21 F18 (Or.inr (slot_ne (C := "java/lang/String") (Or.inr (w 21 rfl)) (Or.inr (w 22 rfl)) (by decide) (t := (.array .byte)) (t' := .byte) (by decide) (by decide))))
  have F31 := (Fld.same W21 F19)
  exact r0W X21 hx Bd hS (Nat.le_trans (Nat.le_trans hkS (Nat.le_of_eq W9.size.symm)) (Nat.le_of_eq W21.size.symm)) (y d2_26) e21 ⟨b2, kb2, rfl, N21, P21, F30, F31, E23, A28, E29⟩

abbrev R_2_2_4_29 : Room := ({ frames := 2, cells := 2, slots := 4, locals := 29 } : Room)
abbrev k8 := jdk_42_method_3_code
theorem d1_0 : decode k8 0 = .ok (.aload_n 0, 1) := by decide +kernel
theorem d1_1 : decode k8 1 = .ok (.aload_n 1, 1) := by decide +kernel
theorem d1_2 : decode k8 2 = .ok (.iconst 0, 1) := by decide +kernel
theorem d1_3 : decode k8 3 = .ok (.aload_n 1, 1) := by decide +kernel
theorem d1_4 : decode k8 4 = .ok (.arraylength, 1) := by decide +kernel
theorem d1_5 : decode k8 5 = .ok (.aconst_null, 1) := by decide +kernel
theorem d1_6 : decode k8 6 = .ok (.invokespecial 27, 3) := by decide +kernel
theorem d1_9 : decode k8 9 = .ok (.return_, 1) := by decide +kernel
theorem pd_oaCIILjava_lang_VoidscV : parseMethodDescriptor "([CIILjava/lang/Void;)V" = some ⟨[(.array .char), .int, .int, (.object "java/lang/Void")], none⟩ := by decide +kernel
theorem ef8 (m : MethodId) (x0 : Addr) (x1 : Addr) : entryFrame m #[(.ref x0), (.ref x1)] 2 = (mkF m 0 #[.val (.ref x0), .val (.ref x1)] []) := by first | (simp [entryFrame, mkF, argsToLocals, Value.category]; done) | rfl
def QI10k (Z : State) (cs : Int32) (u8 : Addr) (sa : Addr) (ca : Addr) (ck : ClassId) (h0 : Heap) (n0 : Nat) (v : Option Value) (h : Heap) (L : List Loc) : Prop := ∃ b : Addr, ∃ bk : ClassId, v = none ∧ Fr n0 L ∧ Keep h0 h [sa] ∧ Fld Z h sa "java/lang/String" "value" "[B" (.ref b) ∧ Fld Z h sa "java/lang/String" "coder" "B" (.int 0) ∧ Exa Z h sa "java/lang/String" ∧ Arv Z h b bk .byte (0 : Int32) [] (.int 0) ∧ Exa Z h b "[B"
theorem rmI10k (l : Launch) (Z : State) (a0 : Array Value) (hw : HW a0 Z) (ws : List Jvm.Cond) (cs : Int32) (u8 : Addr) (sa : Addr) (ca : Addr) (ck : ClassId) (h0 : Heap) (n0 : Nat) (Z0 : n0 ≤ h0.size) (H0 : OSt Z cs u8) (pr1 : Old Z n0 h0) (pr2 : Fld Z h0 sa "java/lang/String" "value" "[B" .null) (pr3 : Fld Z h0 sa "java/lang/String" "coder" "B" (.int 0)) (pr4 : Exa Z h0 sa "java/lang/String") (pr5 : Arv Z h0 ca ck .char (0 : Int32) [] (.int 0)) (H6 : n0 ≤ sa) :
    MetFree l (⟨"java/lang/String", "<init>", "([C)V"⟩ : MethodName) (head1 (Jvm.Cond.code (⟨"java/lang/String", "<init>", "([C)V"⟩ : MethodName) jdk_42_method_3_code 2 none :: ws) R_2_2_4_29) (fun a U => a = #[(.ref sa), (.ref ca)] ∧ Z.Warmed39 U.vm ∧ U.heap = h0 ∧ CHv Z own_EL U.vm h0) (fun _ _ _ _ _ => True) (fun _ U o U' => ∃ v L, o = .returned v ∧ QI10k Z cs u8 sa ca ck h0 n0 v U'.heap L ∧ ReturnedEndW U o U' L R_2_2_4_29.cells R_2_2_4_29.slots) := by
  refine og_startH (plainFor_of_name pn_java_lang_String) fun p e s m below meth c s₁ Bd hx hby hml hZ hown hnm X0 e0 hS hkS hC0 => ?_
  have y := @hb _ _ hby
  have w := @wd _ _ hw
  refine og (fun t k => castTop (ef8 m sa ca) k) ?_
  refine og2 X0 hx (fun j _ k => o_aloadN j (y d1_0) rfl rfl <| o_aloadN j (y d1_1) rfl rfl <| o_iconstV j 0 (y d1_2) rfl <| o_aloadN j (y d1_3) rfl rfl <| o_alen X0 hx hZ e0 pr5 (y d1_4) <| o_aconstNull j (y d1_5) <| k) ?_
  refine cIS sa [(.ref ca), (.int 0), (.int 0), .null] [] 0 X0 hx hZ hown hS hkS (w 12 rfl) (w 13 rfl) (w 15 rfl) (own_backSH (W := 0) (rmI30k l Z a0 hw [] cs u8 sa ca ck h0 n0 Z0 H0 pr1 pr2 pr3 pr4 pr5 H6) hZ (w 15 rfl) (w 7 rfl) (by decide) (by decide) (own_EW hw) hC0) e0 hml pd_oaCIILjava_lang_VoidscV (y d1_6) (fun v1 T1 L1 hQ1 X1 hS hZ hown => ?_)
  obtain ⟨b_1, bk_1, rfl, N1a, K1, Q1_0, Q1_1, Q1_2, Q1_3, Q1_4⟩ := hQ1
  have N1 := Fr.app (Fr.nil n0) N1a
  have e1 : T1.heap = T1.heap := rfl
  have P1 : Keep h0 T1.heap [sa] := ((Keep.refl h0 [sa]).trans K1 (allS (Or.inl (List.mem_of_getElem? (i := 0) rfl)) all0))
  have hkS : T1.heap.size ≤ T1.heap.size := Nat.le_refl _
  exact r0W X1 hx Bd hS hkS (y d1_9) e1 ⟨b_1, bk_1, rfl, N1, P1, Q1_0, Q1_1, Q1_2, Q1_3, Q1_4⟩

abbrev R_2_1_1_35 : Room := ({ frames := 2, cells := 1, slots := 1, locals := 35 } : Room)
theorem d2_27 : decode k5 27 = .ok (.getstatic 38, 3) := by decide +kernel
theorem d2_30 : decode k5 30 = .ok (.ifCond .eq 28, 3) := by decide +kernel
theorem d2_33 : decode k5 33 = .ok (.aload_n 1, 1) := by decide +kernel
theorem d2_34 : decode k5 34 = .ok (.iload_n 2, 1) := by decide +kernel
theorem d2_35 : decode k5 35 = .ok (.iload_n 3, 1) := by decide +kernel
theorem d2_36 : decode k5 36 = .ok (.invokestatic 177, 3) := by decide +kernel
theorem d2_39 : decode k5 39 = .ok (.astore 5, 2) := by decide +kernel
theorem d2_41 : decode k5 41 = .ok (.aload_n 0, 1) := by decide +kernel
theorem d2_42 : decode k5 42 = .ok (.aload 5, 2) := by decide +kernel
theorem d2_44 : decode k5 44 = .ok (.iload_n 3, 1) := by decide +kernel
theorem d2_45 : decode k5 45 = .ok (.invokestatic 47, 3) := by decide +kernel
theorem d2_48 : decode k5 48 = .ok (.putfield 15, 3) := by decide +kernel
theorem d2_51 : decode k5 51 = .ok (.aload_n 0, 1) := by decide +kernel
theorem d2_52 : decode k5 52 = .ok (.aload 5, 2) := by decide +kernel
theorem d2_54 : decode k5 54 = .ok (.putfield 9, 3) := by decide +kernel
theorem d2_57 : decode k5 57 = .ok (.return_, 1) := by decide +kernel
theorem pd_oaBIcB : parseMethodDescriptor "([BI)B" = some ⟨[(.array .byte), .int], some .byte⟩ := by decide +kernel
def QI31k (Z : State) (cs : Int32) (u8 : Addr) (sa : Addr) (ca : Addr) (ck : ClassId) (c0 : Int32) (h0 : Heap) (n0 : Nat) (v : Option Value) (h : Heap) (L : List Loc) : Prop := ∃ b : Addr, ∃ bk : ClassId, v = none ∧ Fr n0 L ∧ Keep h0 h [sa] ∧ Fld Z h sa "java/lang/String" "value" "[B" (.ref b) ∧ Fld Z h sa "java/lang/String" "coder" "B" (.int 0) ∧ Exa Z h sa "java/lang/String" ∧ Arv Z h b bk .byte (1 : Int32) [(.int (own_b c0))] (.int 0) ∧ Exa Z h b "[B"
theorem rmI31k (l : Launch) (Z : State) (a0 : Array Value) (hw : HW a0 Z) (ws : List Jvm.Cond) (cs : Int32) (u8 : Addr) (sa : Addr) (ca : Addr) (ck : ClassId) (c0 : Int32) (h0 : Heap) (n0 : Nat) (Z0 : n0 ≤ h0.size) (H0 : OSt Z cs u8) (pr1 : Old Z n0 h0) (pr2 : Fld Z h0 sa "java/lang/String" "value" "[B" .null) (pr3 : Fld Z h0 sa "java/lang/String" "coder" "B" (.int 0)) (pr4 : Exa Z h0 sa "java/lang/String") (pr5 : Arv Z h0 ca ck .char (1 : Int32) [(.int c0)] (.int 0)) (H6 : n0 ≤ sa) (H7 : ¬ (255 : Int32) < c0) (H8 : OCh c0) :
    MF l Z ⟨"java/lang/String", "<init>", "([CIILjava/lang/Void;)V"⟩ jdk_42_method_149_code 6 none ws R_2_1_1_35 #[(.ref sa), (.ref ca), (.int 0), (.int 1), .null] h0 (QI31k Z cs u8 sa ca ck c0 h0 n0) := by
  refine og_start (plainFor_of_name pn_java_lang_String) fun p e s m below meth c s₁ Bd hx hby hml hZ hown hnm X0 e0 => ?_
  have y := @hb _ _ hby
  have w := @wd _ _ hw
  refine og (fun t k => castTop (ef7 m sa ca (0 : Int32) (1 : Int32)) k) ?_
  refine og2 X0 hx (fun j _ k => o_aloadN j (y d2_0) rfl rfl <| k) ?_
  refine cO 0 X0 hx hZ hown (w 16 rfl) (w 17 rfl) (w 18 rfl) e0 hml (y d2_1) (fun T1 X1 e1 => ?_)
  refine og2 X1 hx (fun j _ k => o_iloadN j (y d2_4) rfl <| o_ifYes j (pc' := 27) (y d2_5) (by decide) <| k) ?_
  refine g_getS X1 hx hZ hown (w 57 rfl) e1 (Sta.ext pr1.2 H0.1) (y d2_27) (fun T2 X2 e2 => ?_)
  refine og2 X2 hx (fun j _ k => o_ifNo j (y d2_30) (XT.i0_eq_f H0.2.1) <| o_aloadN j (y d2_33) rfl rfl <| o_iloadN j (y d2_34) rfl <| o_iloadN j (y d2_35) rfl <| k) ?_
  refine cS [(.ref ca), (.int 0), (.int 1)] [] 0 X2 hx hZ hown (w 86 rfl) (w 87 rfl) (w 88 rfl) (w 89 rfl) (rmC31k l Z a0 hw [] cs u8 ca ck c0 h0 n0 Z0 H0 pr1 pr5 H7 H8) e2 hml pd_oaCIIcaB (y d2_36) (fun v3 T3 L3 hQ3 X3 => ?_)
  obtain ⟨r_3, rk_3, rfl, N3a, K3, Q3_0, Q3_1, Q3_2⟩ := hQ3
  have N3 := Fr.app (Fr.nil n0) N3a
  have e3 : T3.heap = T3.heap := rfl
  have Z3 : n0 ≤ T3.heap.size := (Nat.le_trans Z0 K3.1)
  have P3 : Keep h0 T3.heap [sa] := ((Keep.refl h0 [sa]).trans K3 all0)
  have F5 := (pr2.keep K3 nin0)
  have F6 := (pr3.keep K3 nin0)
  have E7 := (pr4.keep K3)
  have ne3_sa_r : sa ≠ r_3 := Nat.ne_of_lt (Nat.lt_of_lt_of_le pr2.lt Q3_2)
  have ne3_ca_r : ca ≠ r_3 := Nat.ne_of_lt (Nat.lt_of_lt_of_le pr5.lt Q3_2)
  refine og2 X3 hx (fun j _ k => o_astore j (y d2_39) rfl (l' := #[.val (.ref sa), .val (.ref ca), .val (.int 0), .val (.int 1), .val .null, .val (.ref r_3)]) rfl <| o_aloadN j (y d2_41) rfl rfl <| o_aload j (y d2_42) rfl rfl <| o_iloadN j (y d2_44) rfl <| k) ?_
  refine cS [(.ref r_3), (.int 1)] [(.ref sa)] 1 X3 hx hZ hown (w 112 rfl) (w 113 rfl) (w 88 rfl) (w 114 rfl) (rmCF11 l Z a0 hw [] r_3 rk_3 (own_b c0) T3.heap n0 Z3 Q3_0) e3 hml pd_oaBIcB (y d2_45) (fun v9 T9 L9 hQ9 X9 => ?_)
  obtain ⟨rfl, N9a, eh9⟩ := hQ9
  have N9 := Fr.app N3 N9a
  have e9 : T9.heap = T3.heap := eh9
  refine pF .byte X9 hx hZ hown (w 26 rfl) e9 F6 E7 (Or.inr ⟨(w 22 rfl), rfl, hnm⟩) (w 6 rfl) (y d2_48) (fun T10 h10 X10 e10 W10 => ?_)
  have N10 := Fr.snoc X10 N9 H6
  have P10 := P3.wr W10 (Or.inl (List.mem_of_getElem? (i := 0) rfl))
  have E12 := (Exa.wr W10 E7)
  have A14 := (Q3_0.other W10 (Ne.symm ne3_sa_r))
  have E15 := (Exa.wr W10 Q3_1)
  have F16 := (Fld.other W10 F5 (Or.inr (slot_ne (C := "java/lang/String") (Or.inr (w 21 rfl)) (Or.inr (w 22 rfl)) (by decide) (t := (.array .byte)) (t' := .byte) (by decide) (by decide))))
  have F17 := (Fld.same W10 F6)
  refine og2 X10 hx (fun j _ k => o_aloadN j (y d2_51) rfl rfl <| o_aload j (y d2_52) rfl rfl <| k) ?_
  refine pF (.array .byte) X10 hx hZ hown (w 25 rfl) e10 F16 E12 (Or.inr ⟨(w 21 rfl), rfl, hnm⟩) (w 6 rfl) (y d2_54) (fun T18 h18 X18 e18 W18 => ?_)
  have N18 := Fr.snoc X18 N10 H6
  have P18 := P10.wr W18 (Or.inl (List.mem_of_getElem? (i := 0) rfl))
  have E20 := (Exa.wr W18 E12)
  have A22 := (A14.other W18 (Ne.symm ne3_sa_r))
  have E23 := (Exa.wr W18 E15)
  have F24 := (Fld.same W18 F16)
  have F25 := (Fld.other W18 F17 (Or.inr (slot_ne (C := "java/lang/String") (Or.inr (w 22 rfl)) (Or.inr (w 21 rfl)) (by decide) (t := .byte) (t' := (.array .byte)) (by decide) (by decide))))
  exact r0 X18 hx Bd (y d2_57) e18 ⟨r_3, rk_3, rfl, N18, P18, F24, F25, E20, A22, E23⟩

abbrev R_3_1_1_52 : Room := ({ frames := 3, cells := 1, slots := 1, locals := 52 } : Room)
def QI11k (Z : State) (cs : Int32) (u8 : Addr) (sa : Addr) (ca : Addr) (ck : ClassId) (c0 : Int32) (h0 : Heap) (n0 : Nat) (v : Option Value) (h : Heap) (L : List Loc) : Prop := ∃ b : Addr, ∃ bk : ClassId, v = none ∧ Fr n0 L ∧ Keep h0 h [sa] ∧ Fld Z h sa "java/lang/String" "value" "[B" (.ref b) ∧ Fld Z h sa "java/lang/String" "coder" "B" (.int 0) ∧ Exa Z h sa "java/lang/String" ∧ Arv Z h b bk .byte (1 : Int32) [(.int (own_b c0))] (.int 0) ∧ Exa Z h b "[B"
theorem rmI11k (l : Launch) (Z : State) (a0 : Array Value) (hw : HW a0 Z) (ws : List Jvm.Cond) (cs : Int32) (u8 : Addr) (sa : Addr) (ca : Addr) (ck : ClassId) (c0 : Int32) (h0 : Heap) (n0 : Nat) (Z0 : n0 ≤ h0.size) (H0 : OSt Z cs u8) (pr1 : Old Z n0 h0) (pr2 : Fld Z h0 sa "java/lang/String" "value" "[B" .null) (pr3 : Fld Z h0 sa "java/lang/String" "coder" "B" (.int 0)) (pr4 : Exa Z h0 sa "java/lang/String") (pr5 : Arv Z h0 ca ck .char (1 : Int32) [(.int c0)] (.int 0)) (H6 : n0 ≤ sa) (H7 : ¬ (255 : Int32) < c0) (H8 : OCh c0) :
    MF l Z ⟨"java/lang/String", "<init>", "([C)V"⟩ jdk_42_method_3_code 2 none ws R_3_1_1_52 #[(.ref sa), (.ref ca)] h0 (QI11k Z cs u8 sa ca ck c0 h0 n0) := by
  refine og_start (plainFor_of_name pn_java_lang_String) fun p e s m below meth c s₁ Bd hx hby hml hZ hown hnm X0 e0 => ?_
  have y := @hb _ _ hby
  have w := @wd _ _ hw
  refine og (fun t k => castTop (ef8 m sa ca) k) ?_
  refine og2 X0 hx (fun j _ k => o_aloadN j (y d1_0) rfl rfl <| o_aloadN j (y d1_1) rfl rfl <| o_iconstV j 0 (y d1_2) rfl <| o_aloadN j (y d1_3) rfl rfl <| o_alen X0 hx hZ e0 pr5 (y d1_4) <| o_aconstNull j (y d1_5) <| k) ?_
  refine cI sa [(.ref ca), (.int 0), (.int 1), .null] [] 0 X0 hx hZ hown (w 12 rfl) (w 13 rfl) (w 7 rfl) (w 15 rfl) (rmI31k l Z a0 hw [] cs u8 sa ca ck c0 h0 n0 Z0 H0 pr1 pr2 pr3 pr4 pr5 H6 H7 H8) e0 hml pd_oaCIILjava_lang_VoidscV (y d1_6) (fun v1 T1 L1 hQ1 X1 => ?_)
  obtain ⟨b_1, bk_1, rfl, N1a, K1, Q1_0, Q1_1, Q1_2, Q1_3, Q1_4⟩ := hQ1
  have N1 := Fr.app (Fr.nil n0) N1a
  have e1 : T1.heap = T1.heap := rfl
  have P1 : Keep h0 T1.heap [sa] := ((Keep.refl h0 [sa]).trans K1 (allS (Or.inl (List.mem_of_getElem? (i := 0) rfl)) all0))
  exact r0 X1 hx Bd (y d1_9) e1 ⟨b_1, bk_1, rfl, N1, P1, Q1_0, Q1_1, Q1_2, Q1_3, Q1_4⟩

abbrev R_4_2_3_57 : Room := ({ frames := 4, cells := 2, slots := 3, locals := 57 } : Room)
def QI310 (Z : State) (cs : Int32) (u8 : Addr) (sa : Addr) (ca : Addr) (ck : ClassId) (c0 : Int32) (h0 : Heap) (n0 : Nat) (v : Option Value) (h : Heap) (L : List Loc) : Prop := ∃ b : Addr, ∃ bk : ClassId, v = none ∧ Fr n0 L ∧ Keep h0 h [sa] ∧ Fld Z h sa "java/lang/String" "value" "[B" (.ref b) ∧ Fld Z h sa "java/lang/String" "coder" "B" (.int 1) ∧ Exa Z h sa "java/lang/String" ∧ Arv Z h b bk .byte (2 : Int32) [(.int (own_lo c0)), (.int (own_hi c0))] (.int 0)
theorem rmI310 (l : Launch) (Z : State) (a0 : Array Value) (hw : HW a0 Z) (ws : List Jvm.Cond) (cs : Int32) (u8 : Addr) (sa : Addr) (ca : Addr) (ck : ClassId) (c0 : Int32) (h0 : Heap) (n0 : Nat) (Z0 : n0 ≤ h0.size) (H0 : OSt Z cs u8) (pr1 : Old Z n0 h0) (pr2 : Fld Z h0 sa "java/lang/String" "value" "[B" .null) (pr3 : Fld Z h0 sa "java/lang/String" "coder" "B" (.int 0)) (pr4 : Exa Z h0 sa "java/lang/String") (pr5 : Arv Z h0 ca ck .char (1 : Int32) [(.int c0)] (.int 0)) (H6 : n0 ≤ sa) (H7 : (255 : Int32) < c0) (H8 : OCh c0) :
    MF l Z ⟨"java/lang/String", "<init>", "([CIILjava/lang/Void;)V"⟩ jdk_42_method_149_code 6 none ws R_4_2_3_57 #[(.ref sa), (.ref ca), (.int 0), (.int 1), .null] h0 (QI310 Z cs u8 sa ca ck c0 h0 n0) := by
  refine og_start (plainFor_of_name pn_java_lang_String) fun p e s m below meth c s₁ Bd hx hby hml hZ hown hnm X0 e0 => ?_
  have y := @hb _ _ hby
  have w := @wd _ _ hw
  refine og (fun t k => castTop (ef7 m sa ca (0 : Int32) (1 : Int32)) k) ?_
  refine og2 X0 hx (fun j _ k => o_aloadN j (y d2_0) rfl rfl <| k) ?_
  refine cO 0 X0 hx hZ hown (w 16 rfl) (w 17 rfl) (w 18 rfl) e0 hml (y d2_1) (fun T1 X1 e1 => ?_)
  refine og2 X1 hx (fun j _ k => o_iloadN j (y d2_4) rfl <| o_ifYes j (pc' := 27) (y d2_5) (by decide) <| k) ?_
  refine g_getS X1 hx hZ hown (w 57 rfl) e1 (Sta.ext pr1.2 H0.1) (y d2_27) (fun T2 X2 e2 => ?_)
  refine og2 X2 hx (fun j _ k => o_ifNo j (y d2_30) (XT.i0_eq_f H0.2.1) <| o_aloadN j (y d2_33) rfl rfl <| o_iloadN j (y d2_34) rfl <| o_iloadN j (y d2_35) rfl <| k) ?_
  refine cS [(.ref ca), (.int 0), (.int 1)] [] 0 X2 hx hZ hown (w 86 rfl) (w 87 rfl) (w 88 rfl) (w 89 rfl) (rmC310 l Z a0 hw [] cs u8 ca ck c0 h0 n0 Z0 H0 pr1 pr5 H7 H8) e2 hml pd_oaCIIcaB (y d2_36) (fun v3 T3 L3 hQ3 X3 => ?_)
  obtain ⟨r_3, rk_3, rfl, N3a, K3, Q3_0, Q3_1⟩ := hQ3
  have N3 := Fr.app (Fr.nil n0) N3a
  have e3 : T3.heap = T3.heap := rfl
  have Z3 : n0 ≤ T3.heap.size := (Nat.le_trans Z0 K3.1)
  have P3 : Keep h0 T3.heap [sa] := ((Keep.refl h0 [sa]).trans K3 all0)
  have F5 := (pr2.keep K3 nin0)
  have F6 := (pr3.keep K3 nin0)
  have E7 := (pr4.keep K3)
  have ne3_sa_r : sa ≠ r_3 := Nat.ne_of_lt (Nat.lt_of_lt_of_le pr2.lt Q3_1)
  have ne3_ca_r : ca ≠ r_3 := Nat.ne_of_lt (Nat.lt_of_lt_of_le pr5.lt Q3_1)
  refine og2 X3 hx (fun j _ k => o_astore j (y d2_39) rfl (l' := #[.val (.ref sa), .val (.ref ca), .val (.int 0), .val (.int 1), .val .null, .val (.ref r_3)]) rfl <| o_aloadN j (y d2_41) rfl rfl <| o_aload j (y d2_42) rfl rfl <| o_iloadN j (y d2_44) rfl <| k) ?_
  refine cS [(.ref r_3), (.int 1)] [(.ref sa)] 1 X3 hx hZ hown (w 112 rfl) (w 113 rfl) (w 88 rfl) (w 114 rfl) (rmCF12 l Z a0 hw [] r_3 rk_3 (own_lo c0) (own_hi c0) T3.heap n0 Z3 Q3_0) e3 hml pd_oaBIcB (y d2_45) (fun v9 T9 L9 hQ9 X9 => ?_)
  obtain ⟨rfl, N9a, eh9⟩ := hQ9
  have N9 := Fr.app N3 N9a
  have e9 : T9.heap = T3.heap := eh9
  refine pF .byte X9 hx hZ hown (w 26 rfl) e9 F6 E7 (Or.inr ⟨(w 22 rfl), rfl, hnm⟩) (w 6 rfl) (y d2_48) (fun T10 h10 X10 e10 W10 => ?_)
  have N10 := Fr.snoc X10 N9 H6
  have P10 := P3.wr W10 (Or.inl (List.mem_of_getElem? (i := 0) rfl))
  have E12 := (Exa.wr W10 E7)
  have A14 := (Q3_0.other W10 (Ne.symm ne3_sa_r))
  have F15 := (Fld.other W10 F5 (Or.inr (slot_ne (C := "java/lang/String") (Or.inr (w 21 rfl)) (Or.inr (w 22 rfl)) (by decide) (t := (.array .byte)) (t' := .byte) (by decide) (by decide))))
  have F16 := (Fld.same W10 F6)
  refine og2 X10 hx (fun j _ k => o_aloadN j (y d2_51) rfl rfl <| o_aload j (y d2_52) rfl rfl <| k) ?_
  refine pF (.array .byte) X10 hx hZ hown (w 25 rfl) e10 F15 E12 (Or.inr ⟨(w 21 rfl), rfl, hnm⟩) (w 6 rfl) (y d2_54) (fun T17 h17 X17 e17 W17 => ?_)
  have N17 := Fr.snoc X17 N10 H6
  have P17 := P10.wr W17 (Or.inl (List.mem_of_getElem? (i := 0) rfl))
  have E19 := (Exa.wr W17 E12)
  have A21 := (A14.other W17 (Ne.symm ne3_sa_r))
  have F22 := (Fld.same W17 F15)
  have F23 := (Fld.other W17 F16 (Or.inr (slot_ne (C := "java/lang/String") (Or.inr (w 22 rfl)) (Or.inr (w 21 rfl)) (by decide) (t := .byte) (t' := (.array .byte)) (by decide) (by decide))))
  exact r0 X17 hx Bd (y d2_57) e17 ⟨r_3, rk_3, rfl, N17, P17, F22, F23, E19, A21⟩

abbrev R_5_2_3_74 : Room := ({ frames := 5, cells := 2, slots := 3, locals := 74 } : Room)
def QI110 (Z : State) (cs : Int32) (u8 : Addr) (sa : Addr) (ca : Addr) (ck : ClassId) (c0 : Int32) (h0 : Heap) (n0 : Nat) (v : Option Value) (h : Heap) (L : List Loc) : Prop := ∃ b : Addr, ∃ bk : ClassId, v = none ∧ Fr n0 L ∧ Keep h0 h [sa] ∧ Fld Z h sa "java/lang/String" "value" "[B" (.ref b) ∧ Fld Z h sa "java/lang/String" "coder" "B" (.int 1) ∧ Exa Z h sa "java/lang/String" ∧ Arv Z h b bk .byte (2 : Int32) [(.int (own_lo c0)), (.int (own_hi c0))] (.int 0)
theorem rmI110 (l : Launch) (Z : State) (a0 : Array Value) (hw : HW a0 Z) (ws : List Jvm.Cond) (cs : Int32) (u8 : Addr) (sa : Addr) (ca : Addr) (ck : ClassId) (c0 : Int32) (h0 : Heap) (n0 : Nat) (Z0 : n0 ≤ h0.size) (H0 : OSt Z cs u8) (pr1 : Old Z n0 h0) (pr2 : Fld Z h0 sa "java/lang/String" "value" "[B" .null) (pr3 : Fld Z h0 sa "java/lang/String" "coder" "B" (.int 0)) (pr4 : Exa Z h0 sa "java/lang/String") (pr5 : Arv Z h0 ca ck .char (1 : Int32) [(.int c0)] (.int 0)) (H6 : n0 ≤ sa) (H7 : (255 : Int32) < c0) (H8 : OCh c0) :
    MF l Z ⟨"java/lang/String", "<init>", "([C)V"⟩ jdk_42_method_3_code 2 none ws R_5_2_3_74 #[(.ref sa), (.ref ca)] h0 (QI110 Z cs u8 sa ca ck c0 h0 n0) := by
  refine og_start (plainFor_of_name pn_java_lang_String) fun p e s m below meth c s₁ Bd hx hby hml hZ hown hnm X0 e0 => ?_
  have y := @hb _ _ hby
  have w := @wd _ _ hw
  refine og (fun t k => castTop (ef8 m sa ca) k) ?_
  refine og2 X0 hx (fun j _ k => o_aloadN j (y d1_0) rfl rfl <| o_aloadN j (y d1_1) rfl rfl <| o_iconstV j 0 (y d1_2) rfl <| o_aloadN j (y d1_3) rfl rfl <| o_alen X0 hx hZ e0 pr5 (y d1_4) <| o_aconstNull j (y d1_5) <| k) ?_
  refine cI sa [(.ref ca), (.int 0), (.int 1), .null] [] 0 X0 hx hZ hown (w 12 rfl) (w 13 rfl) (w 7 rfl) (w 15 rfl) (rmI310 l Z a0 hw [] cs u8 sa ca ck c0 h0 n0 Z0 H0 pr1 pr2 pr3 pr4 pr5 H6 H7 H8) e0 hml pd_oaCIILjava_lang_VoidscV (y d1_6) (fun v1 T1 L1 hQ1 X1 => ?_)
  obtain ⟨b_1, bk_1, rfl, N1a, K1, Q1_0, Q1_1, Q1_2, Q1_3⟩ := hQ1
  have N1 := Fr.app (Fr.nil n0) N1a
  have e1 : T1.heap = T1.heap := rfl
  have P1 : Keep h0 T1.heap [sa] := ((Keep.refl h0 [sa]).trans K1 (allS (Or.inl (List.mem_of_getElem? (i := 0) rfl)) all0))
  exact r0 X1 hx Bd (y d1_9) e1 ⟨b_1, bk_1, rfl, N1, P1, Q1_0, Q1_1, Q1_2, Q1_3⟩

abbrev R_2_1_2_35 : Room := ({ frames := 2, cells := 1, slots := 2, locals := 35 } : Room)
def QI32k (Z : State) (cs : Int32) (u8 : Addr) (sa : Addr) (ca : Addr) (ck : ClassId) (c0 : Int32) (c1 : Int32) (h0 : Heap) (n0 : Nat) (v : Option Value) (h : Heap) (L : List Loc) : Prop := ∃ b : Addr, ∃ bk : ClassId, v = none ∧ Fr n0 L ∧ Keep h0 h [sa] ∧ Fld Z h sa "java/lang/String" "value" "[B" (.ref b) ∧ Fld Z h sa "java/lang/String" "coder" "B" (.int 0) ∧ Exa Z h sa "java/lang/String" ∧ Arv Z h b bk .byte (2 : Int32) [(.int (own_b c0)), (.int (own_b c1))] (.int 0) ∧ Exa Z h b "[B"
theorem rmI32k (l : Launch) (Z : State) (a0 : Array Value) (hw : HW a0 Z) (ws : List Jvm.Cond) (cs : Int32) (u8 : Addr) (sa : Addr) (ca : Addr) (ck : ClassId) (c0 : Int32) (c1 : Int32) (h0 : Heap) (n0 : Nat) (Z0 : n0 ≤ h0.size) (H0 : OSt Z cs u8) (pr1 : Old Z n0 h0) (pr2 : Fld Z h0 sa "java/lang/String" "value" "[B" .null) (pr3 : Fld Z h0 sa "java/lang/String" "coder" "B" (.int 0)) (pr4 : Exa Z h0 sa "java/lang/String") (pr5 : Arv Z h0 ca ck .char (2 : Int32) [(.int c0), (.int c1)] (.int 0)) (H6 : n0 ≤ sa) (H7 : ¬ (255 : Int32) < c0) (H8 : ¬ (255 : Int32) < c1) (H9 : OCh c0) (H10 : OCh c1) :
    MF l Z ⟨"java/lang/String", "<init>", "([CIILjava/lang/Void;)V"⟩ jdk_42_method_149_code 6 none ws R_2_1_2_35 #[(.ref sa), (.ref ca), (.int 0), (.int 2), .null] h0 (QI32k Z cs u8 sa ca ck c0 c1 h0 n0) := by
  refine og_start (plainFor_of_name pn_java_lang_String) fun p e s m below meth c s₁ Bd hx hby hml hZ hown hnm X0 e0 => ?_
  have y := @hb _ _ hby
  have w := @wd _ _ hw
  refine og (fun t k => castTop (ef7 m sa ca (0 : Int32) (2 : Int32)) k) ?_
  refine og2 X0 hx (fun j _ k => o_aloadN j (y d2_0) rfl rfl <| k) ?_
  refine cO 0 X0 hx hZ hown (w 16 rfl) (w 17 rfl) (w 18 rfl) e0 hml (y d2_1) (fun T1 X1 e1 => ?_)
  refine og2 X1 hx (fun j _ k => o_iloadN j (y d2_4) rfl <| o_ifYes j (pc' := 27) (y d2_5) (by decide) <| k) ?_
  refine g_getS X1 hx hZ hown (w 57 rfl) e1 (Sta.ext pr1.2 H0.1) (y d2_27) (fun T2 X2 e2 => ?_)
  refine og2 X2 hx (fun j _ k => o_ifNo j (y d2_30) (XT.i0_eq_f H0.2.1) <| o_aloadN j (y d2_33) rfl rfl <| o_iloadN j (y d2_34) rfl <| o_iloadN j (y d2_35) rfl <| k) ?_
  refine cS [(.ref ca), (.int 0), (.int 2)] [] 0 X2 hx hZ hown (w 86 rfl) (w 87 rfl) (w 88 rfl) (w 89 rfl) (rmC32k l Z a0 hw [] cs u8 ca ck c0 c1 h0 n0 Z0 H0 pr1 pr5 H7 H8 H9 H10) e2 hml pd_oaCIIcaB (y d2_36) (fun v3 T3 L3 hQ3 X3 => ?_)
  obtain ⟨r_3, rk_3, rfl, N3a, K3, Q3_0, Q3_1, Q3_2⟩ := hQ3
  have N3 := Fr.app (Fr.nil n0) N3a
  have e3 : T3.heap = T3.heap := rfl
  have Z3 : n0 ≤ T3.heap.size := (Nat.le_trans Z0 K3.1)
  have P3 : Keep h0 T3.heap [sa] := ((Keep.refl h0 [sa]).trans K3 all0)
  have F5 := (pr2.keep K3 nin0)
  have F6 := (pr3.keep K3 nin0)
  have E7 := (pr4.keep K3)
  have ne3_sa_r : sa ≠ r_3 := Nat.ne_of_lt (Nat.lt_of_lt_of_le pr2.lt Q3_2)
  have ne3_ca_r : ca ≠ r_3 := Nat.ne_of_lt (Nat.lt_of_lt_of_le pr5.lt Q3_2)
  refine og2 X3 hx (fun j _ k => o_astore j (y d2_39) rfl (l' := #[.val (.ref sa), .val (.ref ca), .val (.int 0), .val (.int 2), .val .null, .val (.ref r_3)]) rfl <| o_aloadN j (y d2_41) rfl rfl <| o_aload j (y d2_42) rfl rfl <| o_iloadN j (y d2_44) rfl <| k) ?_
  refine cS [(.ref r_3), (.int 2)] [(.ref sa)] 1 X3 hx hZ hown (w 112 rfl) (w 113 rfl) (w 88 rfl) (w 114 rfl) (rmCF22 l Z a0 hw [] r_3 rk_3 (own_b c0) (own_b c1) T3.heap n0 Z3 Q3_0) e3 hml pd_oaBIcB (y d2_45) (fun v9 T9 L9 hQ9 X9 => ?_)
  obtain ⟨rfl, N9a, eh9⟩ := hQ9
  have N9 := Fr.app N3 N9a
  have e9 : T9.heap = T3.heap := eh9
  refine pF .byte X9 hx hZ hown (w 26 rfl) e9 F6 E7 (Or.inr ⟨(w 22 rfl), rfl, hnm⟩) (w 6 rfl) (y d2_48) (fun T10 h10 X10 e10 W10 => ?_)
  have N10 := Fr.snoc X10 N9 H6
  have P10 := P3.wr W10 (Or.inl (List.mem_of_getElem? (i := 0) rfl))
  have E12 := (Exa.wr W10 E7)
  have A14 := (Q3_0.other W10 (Ne.symm ne3_sa_r))
  have E15 := (Exa.wr W10 Q3_1)
  have F16 := (Fld.other W10 F5 (Or.inr (slot_ne (C := "java/lang/String") (Or.inr (w 21 rfl)) (Or.inr (w 22 rfl)) (by decide) (t := (.array .byte)) (t' := .byte) (by decide) (by decide))))
  have F17 := (Fld.same W10 F6)
  refine og2 X10 hx (fun j _ k => o_aloadN j (y d2_51) rfl rfl <| o_aload j (y d2_52) rfl rfl <| k) ?_
  refine pF (.array .byte) X10 hx hZ hown (w 25 rfl) e10 F16 E12 (Or.inr ⟨(w 21 rfl), rfl, hnm⟩) (w 6 rfl) (y d2_54) (fun T18 h18 X18 e18 W18 => ?_)
  have N18 := Fr.snoc X18 N10 H6
  have P18 := P10.wr W18 (Or.inl (List.mem_of_getElem? (i := 0) rfl))
  have E20 := (Exa.wr W18 E12)
  have A22 := (A14.other W18 (Ne.symm ne3_sa_r))
  have E23 := (Exa.wr W18 E15)
  have F24 := (Fld.same W18 F16)
  have F25 := (Fld.other W18 F17 (Or.inr (slot_ne (C := "java/lang/String") (Or.inr (w 22 rfl)) (Or.inr (w 21 rfl)) (by decide) (t := .byte) (t' := (.array .byte)) (by decide) (by decide))))
  exact r0 X18 hx Bd (y d2_57) e18 ⟨r_3, rk_3, rfl, N18, P18, F24, F25, E20, A22, E23⟩

abbrev R_3_1_2_52 : Room := ({ frames := 3, cells := 1, slots := 2, locals := 52 } : Room)
def QI12k (Z : State) (cs : Int32) (u8 : Addr) (sa : Addr) (ca : Addr) (ck : ClassId) (c0 : Int32) (c1 : Int32) (h0 : Heap) (n0 : Nat) (v : Option Value) (h : Heap) (L : List Loc) : Prop := ∃ b : Addr, ∃ bk : ClassId, v = none ∧ Fr n0 L ∧ Keep h0 h [sa] ∧ Fld Z h sa "java/lang/String" "value" "[B" (.ref b) ∧ Fld Z h sa "java/lang/String" "coder" "B" (.int 0) ∧ Exa Z h sa "java/lang/String" ∧ Arv Z h b bk .byte (2 : Int32) [(.int (own_b c0)), (.int (own_b c1))] (.int 0) ∧ Exa Z h b "[B"
theorem rmI12k (l : Launch) (Z : State) (a0 : Array Value) (hw : HW a0 Z) (ws : List Jvm.Cond) (cs : Int32) (u8 : Addr) (sa : Addr) (ca : Addr) (ck : ClassId) (c0 : Int32) (c1 : Int32) (h0 : Heap) (n0 : Nat) (Z0 : n0 ≤ h0.size) (H0 : OSt Z cs u8) (pr1 : Old Z n0 h0) (pr2 : Fld Z h0 sa "java/lang/String" "value" "[B" .null) (pr3 : Fld Z h0 sa "java/lang/String" "coder" "B" (.int 0)) (pr4 : Exa Z h0 sa "java/lang/String") (pr5 : Arv Z h0 ca ck .char (2 : Int32) [(.int c0), (.int c1)] (.int 0)) (H6 : n0 ≤ sa) (H7 : ¬ (255 : Int32) < c0) (H8 : ¬ (255 : Int32) < c1) (H9 : OCh c0) (H10 : OCh c1) :
    MF l Z ⟨"java/lang/String", "<init>", "([C)V"⟩ jdk_42_method_3_code 2 none ws R_3_1_2_52 #[(.ref sa), (.ref ca)] h0 (QI12k Z cs u8 sa ca ck c0 c1 h0 n0) := by
  refine og_start (plainFor_of_name pn_java_lang_String) fun p e s m below meth c s₁ Bd hx hby hml hZ hown hnm X0 e0 => ?_
  have y := @hb _ _ hby
  have w := @wd _ _ hw
  refine og (fun t k => castTop (ef8 m sa ca) k) ?_
  refine og2 X0 hx (fun j _ k => o_aloadN j (y d1_0) rfl rfl <| o_aloadN j (y d1_1) rfl rfl <| o_iconstV j 0 (y d1_2) rfl <| o_aloadN j (y d1_3) rfl rfl <| o_alen X0 hx hZ e0 pr5 (y d1_4) <| o_aconstNull j (y d1_5) <| k) ?_
  refine cI sa [(.ref ca), (.int 0), (.int 2), .null] [] 0 X0 hx hZ hown (w 12 rfl) (w 13 rfl) (w 7 rfl) (w 15 rfl) (rmI32k l Z a0 hw [] cs u8 sa ca ck c0 c1 h0 n0 Z0 H0 pr1 pr2 pr3 pr4 pr5 H6 H7 H8 H9 H10) e0 hml pd_oaCIILjava_lang_VoidscV (y d1_6) (fun v1 T1 L1 hQ1 X1 => ?_)
  obtain ⟨b_1, bk_1, rfl, N1a, K1, Q1_0, Q1_1, Q1_2, Q1_3, Q1_4⟩ := hQ1
  have N1 := Fr.app (Fr.nil n0) N1a
  have e1 : T1.heap = T1.heap := rfl
  have P1 : Keep h0 T1.heap [sa] := ((Keep.refl h0 [sa]).trans K1 (allS (Or.inl (List.mem_of_getElem? (i := 0) rfl)) all0))
  exact r0 X1 hx Bd (y d1_9) e1 ⟨b_1, bk_1, rfl, N1, P1, Q1_0, Q1_1, Q1_2, Q1_3, Q1_4⟩

abbrev R_4_2_6_57 : Room := ({ frames := 4, cells := 2, slots := 6, locals := 57 } : Room)
def QI320 (Z : State) (cs : Int32) (u8 : Addr) (sa : Addr) (ca : Addr) (ck : ClassId) (c0 : Int32) (c1 : Int32) (h0 : Heap) (n0 : Nat) (v : Option Value) (h : Heap) (L : List Loc) : Prop := ∃ b : Addr, ∃ bk : ClassId, v = none ∧ Fr n0 L ∧ Keep h0 h [sa] ∧ Fld Z h sa "java/lang/String" "value" "[B" (.ref b) ∧ Fld Z h sa "java/lang/String" "coder" "B" (.int 1) ∧ Exa Z h sa "java/lang/String" ∧ Arv Z h b bk .byte (4 : Int32) [(.int (own_lo c0)), (.int (own_hi c0)), (.int (own_lo c1)), (.int (own_hi c1))] (.int 0)
theorem rmI320 (l : Launch) (Z : State) (a0 : Array Value) (hw : HW a0 Z) (ws : List Jvm.Cond) (cs : Int32) (u8 : Addr) (sa : Addr) (ca : Addr) (ck : ClassId) (c0 : Int32) (c1 : Int32) (h0 : Heap) (n0 : Nat) (Z0 : n0 ≤ h0.size) (H0 : OSt Z cs u8) (pr1 : Old Z n0 h0) (pr2 : Fld Z h0 sa "java/lang/String" "value" "[B" .null) (pr3 : Fld Z h0 sa "java/lang/String" "coder" "B" (.int 0)) (pr4 : Exa Z h0 sa "java/lang/String") (pr5 : Arv Z h0 ca ck .char (2 : Int32) [(.int c0), (.int c1)] (.int 0)) (H6 : n0 ≤ sa) (H7 : (255 : Int32) < c0) (H8 : OCh c0) (H9 : OCh c1) :
    MF l Z ⟨"java/lang/String", "<init>", "([CIILjava/lang/Void;)V"⟩ jdk_42_method_149_code 6 none ws R_4_2_6_57 #[(.ref sa), (.ref ca), (.int 0), (.int 2), .null] h0 (QI320 Z cs u8 sa ca ck c0 c1 h0 n0) := by
  refine og_start (plainFor_of_name pn_java_lang_String) fun p e s m below meth c s₁ Bd hx hby hml hZ hown hnm X0 e0 => ?_
  have y := @hb _ _ hby
  have w := @wd _ _ hw
  refine og (fun t k => castTop (ef7 m sa ca (0 : Int32) (2 : Int32)) k) ?_
  refine og2 X0 hx (fun j _ k => o_aloadN j (y d2_0) rfl rfl <| k) ?_
  refine cO 0 X0 hx hZ hown (w 16 rfl) (w 17 rfl) (w 18 rfl) e0 hml (y d2_1) (fun T1 X1 e1 => ?_)
  refine og2 X1 hx (fun j _ k => o_iloadN j (y d2_4) rfl <| o_ifYes j (pc' := 27) (y d2_5) (by decide) <| k) ?_
  refine g_getS X1 hx hZ hown (w 57 rfl) e1 (Sta.ext pr1.2 H0.1) (y d2_27) (fun T2 X2 e2 => ?_)
  refine og2 X2 hx (fun j _ k => o_ifNo j (y d2_30) (XT.i0_eq_f H0.2.1) <| o_aloadN j (y d2_33) rfl rfl <| o_iloadN j (y d2_34) rfl <| o_iloadN j (y d2_35) rfl <| k) ?_
  refine cS [(.ref ca), (.int 0), (.int 2)] [] 0 X2 hx hZ hown (w 86 rfl) (w 87 rfl) (w 88 rfl) (w 89 rfl) (rmC320 l Z a0 hw [] cs u8 ca ck c0 c1 h0 n0 Z0 H0 pr1 pr5 H7 H8 H9) e2 hml pd_oaCIIcaB (y d2_36) (fun v3 T3 L3 hQ3 X3 => ?_)
  obtain ⟨r_3, rk_3, rfl, N3a, K3, Q3_0, Q3_1⟩ := hQ3
  have N3 := Fr.app (Fr.nil n0) N3a
  have e3 : T3.heap = T3.heap := rfl
  have Z3 : n0 ≤ T3.heap.size := (Nat.le_trans Z0 K3.1)
  have P3 : Keep h0 T3.heap [sa] := ((Keep.refl h0 [sa]).trans K3 all0)
  have F5 := (pr2.keep K3 nin0)
  have F6 := (pr3.keep K3 nin0)
  have E7 := (pr4.keep K3)
  have ne3_sa_r : sa ≠ r_3 := Nat.ne_of_lt (Nat.lt_of_lt_of_le pr2.lt Q3_1)
  have ne3_ca_r : ca ≠ r_3 := Nat.ne_of_lt (Nat.lt_of_lt_of_le pr5.lt Q3_1)
  refine og2 X3 hx (fun j _ k => o_astore j (y d2_39) rfl (l' := #[.val (.ref sa), .val (.ref ca), .val (.int 0), .val (.int 2), .val .null, .val (.ref r_3)]) rfl <| o_aloadN j (y d2_41) rfl rfl <| o_aload j (y d2_42) rfl rfl <| o_iloadN j (y d2_44) rfl <| k) ?_
  refine cS [(.ref r_3), (.int 2)] [(.ref sa)] 1 X3 hx hZ hown (w 112 rfl) (w 113 rfl) (w 88 rfl) (w 114 rfl) (rmCF24 l Z a0 hw [] r_3 rk_3 (own_lo c0) (own_hi c0) (own_lo c1) (own_hi c1) T3.heap n0 Z3 Q3_0) e3 hml pd_oaBIcB (y d2_45) (fun v9 T9 L9 hQ9 X9 => ?_)
  obtain ⟨rfl, N9a, eh9⟩ := hQ9
  have N9 := Fr.app N3 N9a
  have e9 : T9.heap = T3.heap := eh9
  refine pF .byte X9 hx hZ hown (w 26 rfl) e9 F6 E7 (Or.inr ⟨(w 22 rfl), rfl, hnm⟩) (w 6 rfl) (y d2_48) (fun T10 h10 X10 e10 W10 => ?_)
  have N10 := Fr.snoc X10 N9 H6
  have P10 := P3.wr W10 (Or.inl (List.mem_of_getElem? (i := 0) rfl))
  have E12 := (Exa.wr W10 E7)
  have A14 := (Q3_0.other W10 (Ne.symm ne3_sa_r))
  have F15 := (Fld.other W10 F5 (Or.inr (slot_ne (C := "java/lang/String") (Or.inr (w 21 rfl)) (Or.inr (w 22 rfl)) (by decide) (t := (.array .byte)) (t' := .byte) (by decide) (by decide))))
  have F16 := (Fld.same W10 F6)
  refine og2 X10 hx (fun j _ k => o_aloadN j (y d2_51) rfl rfl <| o_aload j (y d2_52) rfl rfl <| k) ?_
  refine pF (.array .byte) X10 hx hZ hown (w 25 rfl) e10 F15 E12 (Or.inr ⟨(w 21 rfl), rfl, hnm⟩) (w 6 rfl) (y d2_54) (fun T17 h17 X17 e17 W17 => ?_)
  have N17 := Fr.snoc X17 N10 H6
  have P17 := P10.wr W17 (Or.inl (List.mem_of_getElem? (i := 0) rfl))
  have E19 := (Exa.wr W17 E12)
  have A21 := (A14.other W17 (Ne.symm ne3_sa_r))
  have F22 := (Fld.same W17 F15)
  have F23 := (Fld.other W17 F16 (Or.inr (slot_ne (C := "java/lang/String") (Or.inr (w 22 rfl)) (Or.inr (w 21 rfl)) (by decide) (t := .byte) (t' := (.array .byte)) (by decide) (by decide))))
  exact r0 X17 hx Bd (y d2_57) e17 ⟨r_3, rk_3, rfl, N17, P17, F22, F23, E19, A21⟩

abbrev R_5_2_6_74 : Room := ({ frames := 5, cells := 2, slots := 6, locals := 74 } : Room)
def QI120 (Z : State) (cs : Int32) (u8 : Addr) (sa : Addr) (ca : Addr) (ck : ClassId) (c0 : Int32) (c1 : Int32) (h0 : Heap) (n0 : Nat) (v : Option Value) (h : Heap) (L : List Loc) : Prop := ∃ b : Addr, ∃ bk : ClassId, v = none ∧ Fr n0 L ∧ Keep h0 h [sa] ∧ Fld Z h sa "java/lang/String" "value" "[B" (.ref b) ∧ Fld Z h sa "java/lang/String" "coder" "B" (.int 1) ∧ Exa Z h sa "java/lang/String" ∧ Arv Z h b bk .byte (4 : Int32) [(.int (own_lo c0)), (.int (own_hi c0)), (.int (own_lo c1)), (.int (own_hi c1))] (.int 0)
theorem rmI120 (l : Launch) (Z : State) (a0 : Array Value) (hw : HW a0 Z) (ws : List Jvm.Cond) (cs : Int32) (u8 : Addr) (sa : Addr) (ca : Addr) (ck : ClassId) (c0 : Int32) (c1 : Int32) (h0 : Heap) (n0 : Nat) (Z0 : n0 ≤ h0.size) (H0 : OSt Z cs u8) (pr1 : Old Z n0 h0) (pr2 : Fld Z h0 sa "java/lang/String" "value" "[B" .null) (pr3 : Fld Z h0 sa "java/lang/String" "coder" "B" (.int 0)) (pr4 : Exa Z h0 sa "java/lang/String") (pr5 : Arv Z h0 ca ck .char (2 : Int32) [(.int c0), (.int c1)] (.int 0)) (H6 : n0 ≤ sa) (H7 : (255 : Int32) < c0) (H8 : OCh c0) (H9 : OCh c1) :
    MF l Z ⟨"java/lang/String", "<init>", "([C)V"⟩ jdk_42_method_3_code 2 none ws R_5_2_6_74 #[(.ref sa), (.ref ca)] h0 (QI120 Z cs u8 sa ca ck c0 c1 h0 n0) := by
  refine og_start (plainFor_of_name pn_java_lang_String) fun p e s m below meth c s₁ Bd hx hby hml hZ hown hnm X0 e0 => ?_
  have y := @hb _ _ hby
  have w := @wd _ _ hw
  refine og (fun t k => castTop (ef8 m sa ca) k) ?_
  refine og2 X0 hx (fun j _ k => o_aloadN j (y d1_0) rfl rfl <| o_aloadN j (y d1_1) rfl rfl <| o_iconstV j 0 (y d1_2) rfl <| o_aloadN j (y d1_3) rfl rfl <| o_alen X0 hx hZ e0 pr5 (y d1_4) <| o_aconstNull j (y d1_5) <| k) ?_
  refine cI sa [(.ref ca), (.int 0), (.int 2), .null] [] 0 X0 hx hZ hown (w 12 rfl) (w 13 rfl) (w 7 rfl) (w 15 rfl) (rmI320 l Z a0 hw [] cs u8 sa ca ck c0 c1 h0 n0 Z0 H0 pr1 pr2 pr3 pr4 pr5 H6 H7 H8 H9) e0 hml pd_oaCIILjava_lang_VoidscV (y d1_6) (fun v1 T1 L1 hQ1 X1 => ?_)
  obtain ⟨b_1, bk_1, rfl, N1a, K1, Q1_0, Q1_1, Q1_2, Q1_3⟩ := hQ1
  have N1 := Fr.app (Fr.nil n0) N1a
  have e1 : T1.heap = T1.heap := rfl
  have P1 : Keep h0 T1.heap [sa] := ((Keep.refl h0 [sa]).trans K1 (allS (Or.inl (List.mem_of_getElem? (i := 0) rfl)) all0))
  exact r0 X1 hx Bd (y d1_9) e1 ⟨b_1, bk_1, rfl, N1, P1, Q1_0, Q1_1, Q1_2, Q1_3⟩

def QI321 (Z : State) (cs : Int32) (u8 : Addr) (sa : Addr) (ca : Addr) (ck : ClassId) (c0 : Int32) (c1 : Int32) (h0 : Heap) (n0 : Nat) (v : Option Value) (h : Heap) (L : List Loc) : Prop := ∃ b : Addr, ∃ bk : ClassId, v = none ∧ Fr n0 L ∧ Keep h0 h [sa] ∧ Fld Z h sa "java/lang/String" "value" "[B" (.ref b) ∧ Fld Z h sa "java/lang/String" "coder" "B" (.int 1) ∧ Exa Z h sa "java/lang/String" ∧ Arv Z h b bk .byte (4 : Int32) [(.int (own_lo c0)), (.int (own_hi c0)), (.int (own_lo c1)), (.int (own_hi c1))] (.int 0)
theorem rmI321 (l : Launch) (Z : State) (a0 : Array Value) (hw : HW a0 Z) (ws : List Jvm.Cond) (cs : Int32) (u8 : Addr) (sa : Addr) (ca : Addr) (ck : ClassId) (c0 : Int32) (c1 : Int32) (h0 : Heap) (n0 : Nat) (Z0 : n0 ≤ h0.size) (H0 : OSt Z cs u8) (pr1 : Old Z n0 h0) (pr2 : Fld Z h0 sa "java/lang/String" "value" "[B" .null) (pr3 : Fld Z h0 sa "java/lang/String" "coder" "B" (.int 0)) (pr4 : Exa Z h0 sa "java/lang/String") (pr5 : Arv Z h0 ca ck .char (2 : Int32) [(.int c0), (.int c1)] (.int 0)) (H6 : n0 ≤ sa) (H7 : ¬ (255 : Int32) < c0) (H8 : (255 : Int32) < c1) (H9 : OCh c0) (H10 : OCh c1) :
    MF l Z ⟨"java/lang/String", "<init>", "([CIILjava/lang/Void;)V"⟩ jdk_42_method_149_code 6 none ws R_4_2_6_57 #[(.ref sa), (.ref ca), (.int 0), (.int 2), .null] h0 (QI321 Z cs u8 sa ca ck c0 c1 h0 n0) := by
  refine og_start (plainFor_of_name pn_java_lang_String) fun p e s m below meth c s₁ Bd hx hby hml hZ hown hnm X0 e0 => ?_
  have y := @hb _ _ hby
  have w := @wd _ _ hw
  refine og (fun t k => castTop (ef7 m sa ca (0 : Int32) (2 : Int32)) k) ?_
  refine og2 X0 hx (fun j _ k => o_aloadN j (y d2_0) rfl rfl <| k) ?_
  refine cO 0 X0 hx hZ hown (w 16 rfl) (w 17 rfl) (w 18 rfl) e0 hml (y d2_1) (fun T1 X1 e1 => ?_)
  refine og2 X1 hx (fun j _ k => o_iloadN j (y d2_4) rfl <| o_ifYes j (pc' := 27) (y d2_5) (by decide) <| k) ?_
  refine g_getS X1 hx hZ hown (w 57 rfl) e1 (Sta.ext pr1.2 H0.1) (y d2_27) (fun T2 X2 e2 => ?_)
  refine og2 X2 hx (fun j _ k => o_ifNo j (y d2_30) (XT.i0_eq_f H0.2.1) <| o_aloadN j (y d2_33) rfl rfl <| o_iloadN j (y d2_34) rfl <| o_iloadN j (y d2_35) rfl <| k) ?_
  refine cS [(.ref ca), (.int 0), (.int 2)] [] 0 X2 hx hZ hown (w 86 rfl) (w 87 rfl) (w 88 rfl) (w 89 rfl) (rmC321 l Z a0 hw [] cs u8 ca ck c0 c1 h0 n0 Z0 H0 pr1 pr5 H7 H8 H9 H10) e2 hml pd_oaCIIcaB (y d2_36) (fun v3 T3 L3 hQ3 X3 => ?_)
  obtain ⟨r_3, rk_3, rfl, N3a, K3, Q3_0, Q3_1⟩ := hQ3
  have N3 := Fr.app (Fr.nil n0) N3a
  have e3 : T3.heap = T3.heap := rfl
  have Z3 : n0 ≤ T3.heap.size := (Nat.le_trans Z0 K3.1)
  have P3 : Keep h0 T3.heap [sa] := ((Keep.refl h0 [sa]).trans K3 all0)
  have F5 := (pr2.keep K3 nin0)
  have F6 := (pr3.keep K3 nin0)
  have E7 := (pr4.keep K3)
  have ne3_sa_r : sa ≠ r_3 := Nat.ne_of_lt (Nat.lt_of_lt_of_le pr2.lt Q3_1)
  have ne3_ca_r : ca ≠ r_3 := Nat.ne_of_lt (Nat.lt_of_lt_of_le pr5.lt Q3_1)
  refine og2 X3 hx (fun j _ k => o_astore j (y d2_39) rfl (l' := #[.val (.ref sa), .val (.ref ca), .val (.int 0), .val (.int 2), .val .null, .val (.ref r_3)]) rfl <| o_aloadN j (y d2_41) rfl rfl <| o_aload j (y d2_42) rfl rfl <| o_iloadN j (y d2_44) rfl <| k) ?_
  refine cS [(.ref r_3), (.int 2)] [(.ref sa)] 1 X3 hx hZ hown (w 112 rfl) (w 113 rfl) (w 88 rfl) (w 114 rfl) (rmCF24 l Z a0 hw [] r_3 rk_3 (own_lo c0) (own_hi c0) (own_lo c1) (own_hi c1) T3.heap n0 Z3 Q3_0) e3 hml pd_oaBIcB (y d2_45) (fun v9 T9 L9 hQ9 X9 => ?_)
  obtain ⟨rfl, N9a, eh9⟩ := hQ9
  have N9 := Fr.app N3 N9a
  have e9 : T9.heap = T3.heap := eh9
  refine pF .byte X9 hx hZ hown (w 26 rfl) e9 F6 E7 (Or.inr ⟨(w 22 rfl), rfl, hnm⟩) (w 6 rfl) (y d2_48) (fun T10 h10 X10 e10 W10 => ?_)
  have N10 := Fr.snoc X10 N9 H6
  have P10 := P3.wr W10 (Or.inl (List.mem_of_getElem? (i := 0) rfl))
  have E12 := (Exa.wr W10 E7)
  have A14 := (Q3_0.other W10 (Ne.symm ne3_sa_r))
  have F15 := (Fld.other W10 F5 (Or.inr (slot_ne (C := "java/lang/String") (Or.inr (w 21 rfl)) (Or.inr (w 22 rfl)) (by decide) (t := (.array .byte)) (t' := .byte) (by decide) (by decide))))
  have F16 := (Fld.same W10 F6)
  refine og2 X10 hx (fun j _ k => o_aloadN j (y d2_51) rfl rfl <| o_aload j (y d2_52) rfl rfl <| k) ?_
  refine pF (.array .byte) X10 hx hZ hown (w 25 rfl) e10 F15 E12 (Or.inr ⟨(w 21 rfl), rfl, hnm⟩) (w 6 rfl) (y d2_54) (fun T17 h17 X17 e17 W17 => ?_)
  have N17 := Fr.snoc X17 N10 H6
  have P17 := P10.wr W17 (Or.inl (List.mem_of_getElem? (i := 0) rfl))
  have E19 := (Exa.wr W17 E12)
  have A21 := (A14.other W17 (Ne.symm ne3_sa_r))
  have F22 := (Fld.same W17 F15)
  have F23 := (Fld.other W17 F16 (Or.inr (slot_ne (C := "java/lang/String") (Or.inr (w 22 rfl)) (Or.inr (w 21 rfl)) (by decide) (t := .byte) (t' := (.array .byte)) (by decide) (by decide))))
  exact r0 X17 hx Bd (y d2_57) e17 ⟨r_3, rk_3, rfl, N17, P17, F22, F23, E19, A21⟩

def QI121 (Z : State) (cs : Int32) (u8 : Addr) (sa : Addr) (ca : Addr) (ck : ClassId) (c0 : Int32) (c1 : Int32) (h0 : Heap) (n0 : Nat) (v : Option Value) (h : Heap) (L : List Loc) : Prop := ∃ b : Addr, ∃ bk : ClassId, v = none ∧ Fr n0 L ∧ Keep h0 h [sa] ∧ Fld Z h sa "java/lang/String" "value" "[B" (.ref b) ∧ Fld Z h sa "java/lang/String" "coder" "B" (.int 1) ∧ Exa Z h sa "java/lang/String" ∧ Arv Z h b bk .byte (4 : Int32) [(.int (own_lo c0)), (.int (own_hi c0)), (.int (own_lo c1)), (.int (own_hi c1))] (.int 0)
theorem rmI121 (l : Launch) (Z : State) (a0 : Array Value) (hw : HW a0 Z) (ws : List Jvm.Cond) (cs : Int32) (u8 : Addr) (sa : Addr) (ca : Addr) (ck : ClassId) (c0 : Int32) (c1 : Int32) (h0 : Heap) (n0 : Nat) (Z0 : n0 ≤ h0.size) (H0 : OSt Z cs u8) (pr1 : Old Z n0 h0) (pr2 : Fld Z h0 sa "java/lang/String" "value" "[B" .null) (pr3 : Fld Z h0 sa "java/lang/String" "coder" "B" (.int 0)) (pr4 : Exa Z h0 sa "java/lang/String") (pr5 : Arv Z h0 ca ck .char (2 : Int32) [(.int c0), (.int c1)] (.int 0)) (H6 : n0 ≤ sa) (H7 : ¬ (255 : Int32) < c0) (H8 : (255 : Int32) < c1) (H9 : OCh c0) (H10 : OCh c1) :
    MF l Z ⟨"java/lang/String", "<init>", "([C)V"⟩ jdk_42_method_3_code 2 none ws R_5_2_6_74 #[(.ref sa), (.ref ca)] h0 (QI121 Z cs u8 sa ca ck c0 c1 h0 n0) := by
  refine og_start (plainFor_of_name pn_java_lang_String) fun p e s m below meth c s₁ Bd hx hby hml hZ hown hnm X0 e0 => ?_
  have y := @hb _ _ hby
  have w := @wd _ _ hw
  refine og (fun t k => castTop (ef8 m sa ca) k) ?_
  refine og2 X0 hx (fun j _ k => o_aloadN j (y d1_0) rfl rfl <| o_aloadN j (y d1_1) rfl rfl <| o_iconstV j 0 (y d1_2) rfl <| o_aloadN j (y d1_3) rfl rfl <| o_alen X0 hx hZ e0 pr5 (y d1_4) <| o_aconstNull j (y d1_5) <| k) ?_
  refine cI sa [(.ref ca), (.int 0), (.int 2), .null] [] 0 X0 hx hZ hown (w 12 rfl) (w 13 rfl) (w 7 rfl) (w 15 rfl) (rmI321 l Z a0 hw [] cs u8 sa ca ck c0 c1 h0 n0 Z0 H0 pr1 pr2 pr3 pr4 pr5 H6 H7 H8 H9 H10) e0 hml pd_oaCIILjava_lang_VoidscV (y d1_6) (fun v1 T1 L1 hQ1 X1 => ?_)
  obtain ⟨b_1, bk_1, rfl, N1a, K1, Q1_0, Q1_1, Q1_2, Q1_3⟩ := hQ1
  have N1 := Fr.app (Fr.nil n0) N1a
  have e1 : T1.heap = T1.heap := rfl
  have P1 : Keep h0 T1.heap [sa] := ((Keep.refl h0 [sa]).trans K1 (allS (Or.inl (List.mem_of_getElem? (i := 0) rfl)) all0))
  exact r0 X1 hx Bd (y d1_9) e1 ⟨b_1, bk_1, rfl, N1, P1, Q1_0, Q1_1, Q1_2, Q1_3⟩

abbrev k3 := jdk_31_method_11_code
theorem d5_0 : decode k3 0 = .ok (.aload_n 0, 1) := by decide +kernel
theorem d5_1 : decode k3 1 = .ok (.ifnonnull 12, 3) := by decide +kernel
theorem d5_13 : decode k3 13 = .ok (.aload_n 0, 1) := by decide +kernel
theorem d5_14 : decode k3 14 = .ok (.areturn, 1) := by decide +kernel
theorem pn_java_util_Objects : plainName "java/util/Objects" = true := by first | (simp [plainName, overriddenIn]; done) | decide +kernel
def QRN (Z : State) (qa : Addr) (qb : Addr) (h0 : Heap) (n0 : Nat) (v : Option Value) (h : Heap) (L : List Loc) : Prop := v = some (.ref qa) ∧ Fr n0 L ∧ h = h0
theorem rmRN (l : Launch) (Z : State) (a0 : Array Value) (hw : HW a0 Z) (ws : List Jvm.Cond) (qa : Addr) (qb : Addr) (h0 : Heap) (n0 : Nat) (Z0 : n0 ≤ h0.size) :
    MF l Z ⟨"java/util/Objects", "requireNonNull", "(Ljava/lang/Object;Ljava/lang/String;)Ljava/lang/Object;"⟩ jdk_31_method_11_code 2 (some (.object "java/lang/Object")) ws R_0_0_0_0 #[(.ref qa), (.ref qb)] h0 (QRN Z qa qb h0 n0) := by
  refine og_start (plainFor_of_name pn_java_util_Objects) fun p e s m below meth c s₁ Bd hx hby hml hZ hown hnm X0 e0 => ?_
  have y := @hb _ _ hby
  refine og (fun t k => castTop (ef8 m qa qb) k) ?_
  refine og2 X0 hx (fun j _ k => o_aloadN j (y d5_0) rfl rfl <| o_ifnonnullYes j (pc' := 13) (y d5_1) <| o_aloadN j (y d5_13) rfl rfl <| k) ?_
  exact rA X0 hx Bd rfl rfl rfl (y d5_14) e0 ⟨rfl, (Fr.nil n0), rfl⟩

abbrev k4 := jdk_42_method_126_code
theorem d6_0 : decode k4 0 = .ok (.aload_n 0, 1) := by decide +kernel
theorem d6_1 : decode k4 1 = .ok (.areturn, 1) := by decide +kernel
theorem ef9 (m : MethodId) (x0 : Addr) : entryFrame m #[(.ref x0)] 1 = (mkF m 0 #[.val (.ref x0)] []) := by first | (simp [entryFrame, mkF, argsToLocals, Value.category]; done) | rfl
def QTS (Z : State) (sa : Addr) (h0 : Heap) (n0 : Nat) (v : Option Value) (h : Heap) (L : List Loc) : Prop := v = some (.ref sa) ∧ Fr n0 L ∧ h = h0
theorem rmTS (l : Launch) (Z : State) (a0 : Array Value) (hw : HW a0 Z) (ws : List Jvm.Cond) (sa : Addr) (h0 : Heap) (n0 : Nat) (Z0 : n0 ≤ h0.size) :
    MF l Z ⟨"java/lang/String", "toString", "()Ljava/lang/String;"⟩ jdk_42_method_126_code 1 (some (.object "java/lang/String")) ws R_0_0_0_0 #[(.ref sa)] h0 (QTS Z sa h0 n0) := by
  refine og_start (plainFor_of_name pn_java_lang_String) fun p e s m below meth c s₁ Bd hx hby hml hZ hown hnm X0 e0 => ?_
  have y := @hb _ _ hby
  refine og (fun t k => castTop (ef9 m sa) k) ?_
  refine og2 X0 hx (fun j _ k => o_aloadN j (y d6_0) rfl rfl <| k) ?_
  exact rA X0 hx Bd rfl rfl rfl (y d6_1) e0 ⟨rfl, (Fr.nil n0), rfl⟩

abbrev k6 := jdk_42_method_152_code
theorem d8_0 : decode k6 0 = .ok (.getstatic 38, 3) := by decide +kernel
theorem d8_3 : decode k6 3 = .ok (.ifCond .eq 10, 3) := by decide +kernel
theorem d8_6 : decode k6 6 = .ok (.aload_n 0, 1) := by decide +kernel
theorem d8_7 : decode k6 7 = .ok (.getfield 15, 3) := by decide +kernel
theorem d8_10 : decode k6 10 = .ok (.goto 4, 3) := by decide +kernel
theorem d8_14 : decode k6 14 = .ok (.ireturn, 1) := by decide +kernel
def QCO0 (Z : State) (cs : Int32) (u8 : Addr) (sa : Addr) (h0 : Heap) (n0 : Nat) (v : Option Value) (h : Heap) (L : List Loc) : Prop := v = some (.int 0) ∧ Fr n0 L ∧ h = h0
theorem rmCO0 (l : Launch) (Z : State) (a0 : Array Value) (hw : HW a0 Z) (ws : List Jvm.Cond) (cs : Int32) (u8 : Addr) (sa : Addr) (h0 : Heap) (n0 : Nat) (Z0 : n0 ≤ h0.size) (H0 : OSt Z cs u8) (pr1 : Old Z n0 h0) (pr2 : Fld Z h0 sa "java/lang/String" "coder" "B" (.int 0)) :
    MF l Z ⟨"java/lang/String", "coder", "()B"⟩ jdk_42_method_152_code 1 (some .byte) ws R_0_0_0_0 #[(.ref sa)] h0 (QCO0 Z cs u8 sa h0 n0) := by
  refine og_start (plainFor_of_name pn_java_lang_String) fun p e s m below meth c s₁ Bd hx hby hml hZ hown hnm X0 e0 => ?_
  have y := @hb _ _ hby
  have w := @wd _ _ hw
  refine og (fun t k => castTop (ef9 m sa) k) ?_
  refine g_getS X0 hx hZ hown (w 57 rfl) e0 (Sta.ext pr1.2 H0.1) (y d8_0) (fun T1 X1 e1 => ?_)
  refine og2 X1 hx (fun j _ k => o_ifNo j (y d8_3) (XT.i0_eq_f H0.2.1) <| o_aloadN j (y d8_6) rfl rfl <| k) ?_
  refine g_getF X1 hx hZ hown (w 26 rfl) e1 pr2 (y d8_7) (fun T2 X2 e2 => ?_)
  refine og2 X2 hx (fun j _ k => o_goto j (pc' := 14) (y d8_10) <| k) ?_
  exact rN (v := (0 : Int32)) X2 hx Bd (by simp) rfl (y d8_14) e2 ⟨rfl, (Fr.nil n0), rfl⟩

def QCO1 (Z : State) (cs : Int32) (u8 : Addr) (sa : Addr) (h0 : Heap) (n0 : Nat) (v : Option Value) (h : Heap) (L : List Loc) : Prop := v = some (.int 1) ∧ Fr n0 L ∧ h = h0
theorem rmCO1 (l : Launch) (Z : State) (a0 : Array Value) (hw : HW a0 Z) (ws : List Jvm.Cond) (cs : Int32) (u8 : Addr) (sa : Addr) (h0 : Heap) (n0 : Nat) (Z0 : n0 ≤ h0.size) (H0 : OSt Z cs u8) (pr1 : Old Z n0 h0) (pr2 : Fld Z h0 sa "java/lang/String" "coder" "B" (.int 1)) :
    MF l Z ⟨"java/lang/String", "coder", "()B"⟩ jdk_42_method_152_code 1 (some .byte) ws R_0_0_0_0 #[(.ref sa)] h0 (QCO1 Z cs u8 sa h0 n0) := by
  refine og_start (plainFor_of_name pn_java_lang_String) fun p e s m below meth c s₁ Bd hx hby hml hZ hown hnm X0 e0 => ?_
  have y := @hb _ _ hby
  have w := @wd _ _ hw
  refine og (fun t k => castTop (ef9 m sa) k) ?_
  refine g_getS X0 hx hZ hown (w 57 rfl) e0 (Sta.ext pr1.2 H0.1) (y d8_0) (fun T1 X1 e1 => ?_)
  refine og2 X1 hx (fun j _ k => o_ifNo j (y d8_3) (XT.i0_eq_f H0.2.1) <| o_aloadN j (y d8_6) rfl rfl <| k) ?_
  refine g_getF X1 hx hZ hown (w 26 rfl) e1 pr2 (y d8_7) (fun T2 X2 e2 => ?_)
  refine og2 X2 hx (fun j _ k => o_goto j (pc' := 14) (y d8_10) <| k) ?_
  exact rN (v := (1 : Int32)) X2 hx Bd (by simp) rfl (y d8_14) e2 ⟨rfl, (Fr.nil n0), rfl⟩

abbrev k23 := jdk_89_method_16_code
theorem d23_0 : decode k23 0 = .ok (.iload_n 0, 1) := by decide +kernel
theorem d23_1 : decode k23 1 = .ok (.ldc 75, 2) := by decide +kernel
theorem d23_3 : decode k23 3 = .ok (.if_icmp .lt 13, 3) := by decide +kernel
theorem d23_6 : decode k23 6 = .ok (.iload_n 0, 1) := by decide +kernel
theorem d23_7 : decode k23 7 = .ok (.ldc 77, 2) := by decide +kernel
theorem d23_9 : decode k23 9 = .ok (.if_icmp .ge 7, 3) := by decide +kernel
theorem d23_12 : decode k23 12 = .ok (.iconst 1, 1) := by decide +kernel
theorem d23_13 : decode k23 13 = .ok (.goto 4, 3) := by decide +kernel
theorem d23_16 : decode k23 16 = .ok (.iconst 0, 1) := by decide +kernel
theorem d23_17 : decode k23 17 = .ok (.ireturn, 1) := by decide +kernel
theorem pn_java_lang_Character : plainName "java/lang/Character" = true := by first | (simp [plainName, overriddenIn]; done) | decide +kernel
def QSU (Z : State) (qc : Int32) (h0 : Heap) (n0 : Nat) (v : Option Value) (h : Heap) (L : List Loc) : Prop := v = some (.int (own_sur qc)) ∧ Fr n0 L ∧ h = h0
theorem rmSU (l : Launch) (Z : State) (a0 : Array Value) (hw : HW a0 Z) (ws : List Jvm.Cond) (qc : Int32) (h0 : Heap) (n0 : Nat) (Z0 : n0 ≤ h0.size) :
    MF l Z ⟨"java/lang/Character", "isSurrogate", "(C)Z"⟩ jdk_89_method_16_code 1 (some .boolean) ws R_0_0_0_0 #[(.int qc)] h0 (QSU Z qc h0 n0) := by
  refine og_start (plainFor_of_name pn_java_lang_Character) fun p e s m below meth c s₁ Bd hx hby hml hZ hown hnm X0 e0 => ?_
  have y := @hb _ _ hby
  have w := @wd _ _ hw
  refine og (fun t k => castTop (ef1 m qc) k) ?_
  refine og2 X0 hx (fun j _ k => o_iloadN j (y d23_0) rfl <| o_ldcI X0 hx hZ hown (w 123 rfl) (y d23_1) <| k) ?_
  by_cases C1 : qc < (55296 : Int32)
  · refine og2 X0 hx (fun j _ k => o_icmpYes j (pc' := 16) (y d23_3) (XT.ii_lt_t C1) <| o_iconstV j 0 (y d23_16) rfl <| k) ?_
    exact rN (v := (0 : Int32)) X0 hx Bd (by simp) rfl (y d23_17) e0 ⟨(by rw [own_sur, if_pos C1]), (Fr.nil n0), rfl⟩
  · refine og2 X0 hx (fun j _ k => o_icmpNo j (y d23_3) (XT.ii_lt_f C1) <| o_iloadN j (y d23_6) rfl <| o_ldcI X0 hx hZ hown (w 124 rfl) (y d23_7) <| k) ?_
    by_cases C2 : qc < (57344 : Int32)
    · refine og2 X0 hx (fun j _ k => o_icmpNo j (y d23_9) (XT.ii_ge_f C2) <| o_iconstV j 1 (y d23_12) rfl <| o_goto j (pc' := 17) (y d23_13) <| k) ?_
      exact rN (v := (1 : Int32)) X0 hx Bd (by simp) rfl (y d23_17) e0 ⟨(by rw [own_sur, if_neg C1, if_pos C2]), (Fr.nil n0), rfl⟩
    · refine og2 X0 hx (fun j _ k => o_icmpYes j (pc' := 16) (y d23_9) (XT.ii_ge_t C2) <| o_iconstV j 0 (y d23_16) rfl <| k) ?_
      exact rN (v := (0 : Int32)) X0 hx Bd (by simp) rfl (y d23_17) e0 ⟨(by rw [own_sur, if_neg C1, if_neg C2]), (Fr.nil n0), rfl⟩

abbrev k21 := jdk_89_method_14_code
theorem d24_0 : decode k21 0 = .ok (.iload_n 0, 1) := by decide +kernel
theorem d24_1 : decode k21 1 = .ok (.ldc 75, 2) := by decide +kernel
theorem d24_3 : decode k21 3 = .ok (.if_icmp .lt 13, 3) := by decide +kernel
theorem d24_6 : decode k21 6 = .ok (.iload_n 0, 1) := by decide +kernel
theorem d24_7 : decode k21 7 = .ok (.ldc 76, 2) := by decide +kernel
theorem d24_9 : decode k21 9 = .ok (.if_icmp .ge 7, 3) := by decide +kernel
theorem d24_12 : decode k21 12 = .ok (.iconst 1, 1) := by decide +kernel
theorem d24_13 : decode k21 13 = .ok (.goto 4, 3) := by decide +kernel
theorem d24_16 : decode k21 16 = .ok (.iconst 0, 1) := by decide +kernel
theorem d24_17 : decode k21 17 = .ok (.ireturn, 1) := by decide +kernel
def QHS (Z : State) (qc : Int32) (h0 : Heap) (n0 : Nat) (v : Option Value) (h : Heap) (L : List Loc) : Prop := v = some (.int (own_high qc)) ∧ Fr n0 L ∧ h = h0
theorem rmHS (l : Launch) (Z : State) (a0 : Array Value) (hw : HW a0 Z) (ws : List Jvm.Cond) (qc : Int32) (h0 : Heap) (n0 : Nat) (Z0 : n0 ≤ h0.size) :
    MF l Z ⟨"java/lang/Character", "isHighSurrogate", "(C)Z"⟩ jdk_89_method_14_code 1 (some .boolean) ws R_0_0_0_0 #[(.int qc)] h0 (QHS Z qc h0 n0) := by
  refine og_start (plainFor_of_name pn_java_lang_Character) fun p e s m below meth c s₁ Bd hx hby hml hZ hown hnm X0 e0 => ?_
  have y := @hb _ _ hby
  have w := @wd _ _ hw
  refine og (fun t k => castTop (ef1 m qc) k) ?_
  refine og2 X0 hx (fun j _ k => o_iloadN j (y d24_0) rfl <| o_ldcI X0 hx hZ hown (w 123 rfl) (y d24_1) <| k) ?_
  by_cases C1 : qc < (55296 : Int32)
  · refine og2 X0 hx (fun j _ k => o_icmpYes j (pc' := 16) (y d24_3) (XT.ii_lt_t C1) <| o_iconstV j 0 (y d24_16) rfl <| k) ?_
    exact rN (v := (0 : Int32)) X0 hx Bd (by simp) rfl (y d24_17) e0 ⟨(by rw [own_high, if_pos C1]), (Fr.nil n0), rfl⟩
  · refine og2 X0 hx (fun j _ k => o_icmpNo j (y d24_3) (XT.ii_lt_f C1) <| o_iloadN j (y d24_6) rfl <| o_ldcI X0 hx hZ hown (w 128 rfl) (y d24_7) <| k) ?_
    by_cases C2 : qc < (56320 : Int32)
    · refine og2 X0 hx (fun j _ k => o_icmpNo j (y d24_9) (XT.ii_ge_f C2) <| o_iconstV j 1 (y d24_12) rfl <| o_goto j (pc' := 17) (y d24_13) <| k) ?_
      exact rN (v := (1 : Int32)) X0 hx Bd (by simp) rfl (y d24_17) e0 ⟨(by rw [own_high, if_neg C1, if_pos C2]), (Fr.nil n0), rfl⟩
    · refine og2 X0 hx (fun j _ k => o_icmpYes j (pc' := 16) (y d24_9) (XT.ii_ge_t C2) <| o_iconstV j 0 (y d24_16) rfl <| k) ?_
      exact rN (v := (0 : Int32)) X0 hx Bd (by simp) rfl (y d24_17) e0 ⟨(by rw [own_high, if_neg C1, if_neg C2]), (Fr.nil n0), rfl⟩

abbrev k22 := jdk_89_method_15_code
theorem d25_0 : decode k22 0 = .ok (.iload_n 0, 1) := by decide +kernel
theorem d25_1 : decode k22 1 = .ok (.ldc 76, 2) := by decide +kernel
theorem d25_3 : decode k22 3 = .ok (.if_icmp .lt 13, 3) := by decide +kernel
theorem d25_6 : decode k22 6 = .ok (.iload_n 0, 1) := by decide +kernel
theorem d25_7 : decode k22 7 = .ok (.ldc 77, 2) := by decide +kernel
theorem d25_9 : decode k22 9 = .ok (.if_icmp .ge 7, 3) := by decide +kernel
theorem d25_12 : decode k22 12 = .ok (.iconst 1, 1) := by decide +kernel
theorem d25_13 : decode k22 13 = .ok (.goto 4, 3) := by decide +kernel
theorem d25_16 : decode k22 16 = .ok (.iconst 0, 1) := by decide +kernel
theorem d25_17 : decode k22 17 = .ok (.ireturn, 1) := by decide +kernel
def QLS (Z : State) (qc : Int32) (h0 : Heap) (n0 : Nat) (v : Option Value) (h : Heap) (L : List Loc) : Prop := v = some (.int (own_low qc)) ∧ Fr n0 L ∧ h = h0
theorem rmLS (l : Launch) (Z : State) (a0 : Array Value) (hw : HW a0 Z) (ws : List Jvm.Cond) (qc : Int32) (h0 : Heap) (n0 : Nat) (Z0 : n0 ≤ h0.size) :
    MF l Z ⟨"java/lang/Character", "isLowSurrogate", "(C)Z"⟩ jdk_89_method_15_code 1 (some .boolean) ws R_0_0_0_0 #[(.int qc)] h0 (QLS Z qc h0 n0) := by
  refine og_start (plainFor_of_name pn_java_lang_Character) fun p e s m below meth c s₁ Bd hx hby hml hZ hown hnm X0 e0 => ?_
  have y := @hb _ _ hby
  have w := @wd _ _ hw
  refine og (fun t k => castTop (ef1 m qc) k) ?_
  refine og2 X0 hx (fun j _ k => o_iloadN j (y d25_0) rfl <| o_ldcI X0 hx hZ hown (w 128 rfl) (y d25_1) <| k) ?_
  by_cases C1 : qc < (56320 : Int32)
  · refine og2 X0 hx (fun j _ k => o_icmpYes j (pc' := 16) (y d25_3) (XT.ii_lt_t C1) <| o_iconstV j 0 (y d25_16) rfl <| k) ?_
    exact rN (v := (0 : Int32)) X0 hx Bd (by simp) rfl (y d25_17) e0 ⟨(by rw [own_low, if_pos C1]), (Fr.nil n0), rfl⟩
  · refine og2 X0 hx (fun j _ k => o_icmpNo j (y d25_3) (XT.ii_lt_f C1) <| o_iloadN j (y d25_6) rfl <| o_ldcI X0 hx hZ hown (w 124 rfl) (y d25_7) <| k) ?_
    by_cases C2 : qc < (57344 : Int32)
    · refine og2 X0 hx (fun j _ k => o_icmpNo j (y d25_9) (XT.ii_ge_f C2) <| o_iconstV j 1 (y d25_12) rfl <| o_goto j (pc' := 17) (y d25_13) <| k) ?_
      exact rN (v := (1 : Int32)) X0 hx Bd (by simp) rfl (y d25_17) e0 ⟨(by rw [own_low, if_neg C1, if_pos C2]), (Fr.nil n0), rfl⟩
    · refine og2 X0 hx (fun j _ k => o_icmpYes j (pc' := 16) (y d25_9) (XT.ii_ge_t C2) <| o_iconstV j 0 (y d25_16) rfl <| k) ?_
      exact rN (v := (0 : Int32)) X0 hx Bd (by simp) rfl (y d25_17) e0 ⟨(by rw [own_low, if_neg C1, if_neg C2]), (Fr.nil n0), rfl⟩

abbrev k24 := jdk_89_method_19_code
theorem d29_0 : decode k24 0 = .ok (.iload_n 0, 1) := by decide +kernel
theorem d29_1 : decode k24 1 = .ok (.bipush 10, 2) := by decide +kernel
theorem d29_3 : decode k24 3 = .ok (.ishl, 1) := by decide +kernel
theorem d29_4 : decode k24 4 = .ok (.iload_n 1, 1) := by decide +kernel
theorem d29_5 : decode k24 5 = .ok (.iadd, 1) := by decide +kernel
theorem d29_6 : decode k24 6 = .ok (.ldc 85, 2) := by decide +kernel
theorem d29_8 : decode k24 8 = .ok (.iadd, 1) := by decide +kernel
theorem d29_9 : decode k24 9 = .ok (.ireturn, 1) := by decide +kernel
def QCPT (Z : State) (qc : Int32) (qd : Int32) (h0 : Heap) (n0 : Nat) (v : Option Value) (h : Heap) (L : List Loc) : Prop := v = some (.int (own_cp qc qd)) ∧ Fr n0 L ∧ h = h0
theorem rmCPT (l : Launch) (Z : State) (a0 : Array Value) (hw : HW a0 Z) (ws : List Jvm.Cond) (qc : Int32) (qd : Int32) (h0 : Heap) (n0 : Nat) (Z0 : n0 ≤ h0.size) :
    MF l Z ⟨"java/lang/Character", "toCodePoint", "(CC)I"⟩ jdk_89_method_19_code 2 (some .int) ws R_0_0_0_0 #[(.int qc), (.int qd)] h0 (QCPT Z qc qd h0 n0) := by
  refine og_start (plainFor_of_name pn_java_lang_Character) fun p e s m below meth c s₁ Bd hx hby hml hZ hown hnm X0 e0 => ?_
  have y := @hb _ _ hby
  have w := @wd _ _ hw
  refine og (fun t k => castTop (ef0 m qc qd) k) ?_
  refine og2 X0 hx (fun j _ k => o_iloadN j (y d29_0) rfl <| o_bipushV j 10 (y d29_1) rfl <| o_ishl j (y d29_3) <| o_iloadN j (y d29_4) rfl <| o_iadd j (y d29_5) <| o_ldcI X0 hx hZ hown (w 154 rfl) (y d29_6) <| o_iadd j (y d29_8) <| k) ?_
  exact rI X0 hx Bd (y d29_9) e0 ⟨(by rw [← own_code_cp]; rfl), (Fr.nil n0), rfl⟩

abbrev k2 := jdk_29_method_69_code
theorem d27_0 : decode k2 0 = .ok (.iload_n 0, 1) := by decide +kernel
theorem d27_1 : decode k2 1 = .ok (.iload_n 1, 1) := by decide +kernel
theorem d27_2 : decode k2 2 = .ok (.if_icmp .gt 7, 3) := by decide +kernel
theorem d27_9 : decode k2 9 = .ok (.iload_n 1, 1) := by decide +kernel
theorem d27_10 : decode k2 10 = .ok (.ireturn, 1) := by decide +kernel
def QMI21 (Z : State)  (h0 : Heap) (n0 : Nat) (v : Option Value) (h : Heap) (L : List Loc) : Prop := v = some (.int 1) ∧ Fr n0 L ∧ h = h0
theorem rmMI21 (l : Launch) (Z : State) (a0 : Array Value) (hw : HW a0 Z) (ws : List Jvm.Cond)  (h0 : Heap) (n0 : Nat) (Z0 : n0 ≤ h0.size) :
    MF l Z ⟨"java/lang/Math", "min", "(II)I"⟩ jdk_29_method_69_code 2 (some .int) ws R_0_0_0_0 #[(.int 2), (.int 1)] h0 (QMI21 Z  h0 n0) := by
  refine og_start (by decide +kernel) fun p e s m below meth c s₁ Bd hx hby hml hZ hown hnm X0 e0 => ?_
  have y := @hb _ _ hby
  refine og (fun t k => castTop (ef0 m (2 : Int32) (1 : Int32)) k) ?_
  refine og2 X0 hx (fun j _ k => o_iloadN j (y d27_0) rfl <| o_iloadN j (y d27_1) rfl <| o_icmpYes j (pc' := 9) (y d27_2) (XT.ii_gt_t (by decide)) <| o_iloadN j (y d27_9) rfl <| k) ?_
  exact rI X0 hx Bd (y d27_10) e0 ⟨rfl, (Fr.nil n0), rfl⟩

abbrev k20 := jdk_65_method_121_code
theorem d26_0 : decode k20 0 = .ok (.iload_n 1, 1) := by decide +kernel
theorem d26_1 : decode k20 1 = .ok (.aload_n 0, 1) := by decide +kernel
theorem d26_2 : decode k20 2 = .ok (.arraylength, 1) := by decide +kernel
theorem d26_3 : decode k20 3 = .ok (.if_icmp .ne 11, 3) := by decide +kernel
theorem d26_14 : decode k20 14 = .ok (.iload_n 1, 1) := by decide +kernel
theorem d26_15 : decode k20 15 = .ok (.newarray .byte, 2) := by decide +kernel
theorem d26_17 : decode k20 17 = .ok (.astore_n 2, 1) := by decide +kernel
theorem d26_18 : decode k20 18 = .ok (.aload_n 0, 1) := by decide +kernel
theorem d26_19 : decode k20 19 = .ok (.iconst 0, 1) := by decide +kernel
theorem d26_20 : decode k20 20 = .ok (.aload_n 2, 1) := by decide +kernel
theorem d26_21 : decode k20 21 = .ok (.iconst 0, 1) := by decide +kernel
theorem d26_22 : decode k20 22 = .ok (.aload_n 0, 1) := by decide +kernel
theorem d26_23 : decode k20 23 = .ok (.arraylength, 1) := by decide +kernel
theorem d26_24 : decode k20 24 = .ok (.iload_n 1, 1) := by decide +kernel
theorem d26_25 : decode k20 25 = .ok (.invokestatic 304, 3) := by decide +kernel
theorem d26_28 : decode k20 28 = .ok (.invokestatic 150, 3) := by decide +kernel
theorem d26_31 : decode k20 31 = .ok (.aload_n 2, 1) := by decide +kernel
theorem d26_32 : decode k20 32 = .ok (.areturn, 1) := by decide +kernel
theorem pd_oIIcI : parseMethodDescriptor "(II)I" = some ⟨[.int, .int], some .int⟩ := by decide +kernel
theorem pn_java_util_Arrays : plainName "java/util/Arrays" = true := by first | (simp [plainName, overriddenIn]; done) | decide +kernel
theorem ef10 (m : MethodId) (x0 : Addr) (x1 : Int32) : entryFrame m #[(.ref x0), (.int x1)] 3 = (mkF m 0 #[.val (.ref x0), .val (.int x1), .unset] []) := by first | (simp [entryFrame, mkF, argsToLocals, Value.category]; done) | rfl
def QAC21 (Z : State) (ba : Addr) (bk : ClassId) (x0 : Int32) (x1 : Int32) (h0 : Heap) (n0 : Nat) (v : Option Value) (h : Heap) (L : List Loc) : Prop := ∃ r : Addr, ∃ rk : ClassId, v = some (.ref r) ∧ Fr n0 L ∧ Keep h0 h [] ∧ Arv Z h r rk .byte (1 : Int32) [(.int x0)] (.int 0) ∧ h0.size ≤ r
theorem rmAC21 (l : Launch) (Z : State) (a0 : Array Value) (hw : HW a0 Z) (ws : List Jvm.Cond) (ba : Addr) (bk : ClassId) (x0 : Int32) (x1 : Int32) (h0 : Heap) (n0 : Nat) (Z0 : n0 ≤ h0.size) (pr0 : Arv Z h0 ba bk .byte (2 : Int32) [(.int x0), (.int x1)] (.int 0)) :
    MF l Z ⟨"java/util/Arrays", "copyOf", "([BI)[B"⟩ jdk_65_method_121_code 3 (some (.array .byte)) ws R_1_1_1_18 #[(.ref ba), (.int 1)] h0 (QAC21 Z ba bk x0 x1 h0 n0) := by
  refine og_start (plainFor_of_name pn_java_util_Arrays) fun p e s m below meth c s₁ Bd hx hby hml hZ hown hnm X0 e0 => ?_
  have y := @hb _ _ hby
  have w := @wd _ _ hw
  refine og (fun t k => castTop (ef10 m ba (1 : Int32)) k) ?_
  refine og2 X0 hx (fun j _ k => o_iloadN j (y d26_0) rfl <| o_aloadN j (y d26_1) rfl rfl <| o_alen X0 hx hZ e0 pr0 (y d26_2) <| o_icmpYes j (pc' := 14) (y d26_3) (XT.ii_ne_t (by decide)) <| o_iloadN j (y d26_14) rfl <| k) ?_
  refine nP .byte 1 "[B" X0 hx hZ (w 20 rfl) e0 (y d26_15) (fun T1 h1 a1 kc1 g1 X1 e1 E1 A1 D1 => ?_)
  have Z1 : n0 ≤ h1.size := Nat.le_trans Z0 E1.1
  have G1 : n0 ≤ a1 := Nat.le_trans Z0 (Nat.le_of_eq g1.symm)
  have GK1 : h0.size ≤ a1 := Nat.le_trans (Keep.refl h0 []).1 (Nat.le_of_eq g1.symm)
  have P1 := (Keep.refl h0 []).ext E1
  have A2 := (pr0.ext E1)
  have A3 : Arv Z h1 a1 kc1 .byte (1 : Int32) [(.int 0)] (.int 0) := (A1.pad (pad_rep [] _ 1))
  refine og2 X1 hx (fun j _ k => o_astoreN j (y d26_17) rfl (l' := #[.val (.ref ba), .val (.int 1), .val (.ref a1)]) rfl <| o_aloadN j (y d26_18) rfl rfl <| o_iconstV j 0 (y d26_19) rfl <| o_aloadN j (y d26_20) rfl rfl <| o_iconstV j 0 (y d26_21) rfl <| o_aloadN j (y d26_22) rfl rfl <| o_alen X1 hx hZ e1 A2 (y d26_23) <| o_iloadN j (y d26_24) rfl <| k) ?_
  refine cS [(.int 2), (.int 1)] [(.int 0), (.ref a1), (.int 0), (.ref ba)] 4 X1 hx hZ hown (w 136 rfl) (w 137 rfl) (w 138 rfl) (w 139 rfl) (rmMI21 l Z a0 hw [] h1 n0 Z1) e1 hml pd_oIIcI (y d26_25) (fun v4 T4 L4 hQ4 X4 => ?_)
  obtain ⟨rfl, N4a, eh4⟩ := hQ4
  have N4 := Fr.app (Fr.nil n0) N4a
  have e4 : T4.heap = h1 := eh4
  obtain ⟨T5, h5, L5, X5, e5, N5, K5, B5, st5⟩ := cpA X4 hx hZ hown (w 140 rfl) (w 143 rfl) (w 141 rfl) (w 142 rfl) e4 A2 A3 (us := [(.int x0)]) (Or.inl ⟨rfl, rfl⟩) (by decide) (by decide) (by decide) (by decide) (by decide) rfl (by decide) N4 G1 (g := (mkF m 28 #[.val (.ref ba), .val (.int 1), .val (.ref a1)] [(.int 1), (.int 0), (.ref a1), (.int 0), (.ref ba)])) rfl (by rw [hml]; rfl) (rest := []) rfl (y d26_28) (by decide) (W := 0) (by show 2 * 0 + _ ≤ _; exact Nat.le_of_eq rfl) (by decide)
  have P5 : Keep h0 h5 [] := (P1.trans K5 (allS (Or.inr GK1) all0))
  have B5v : Arv Z h5 a1 kc1 .byte (1 : Int32) [(.int x0)] (.int 0) := B5
  refine og st5 ?_
  change OG _ _ _ _ (T5.setTop (mkF m 31 #[.val (.ref ba), .val (.int 1), .val (.ref a1)] []))
  refine og2 X5 hx (fun j _ k => o_aloadN j (y d26_31) rfl rfl <| k) ?_
  exact rA X5 hx Bd rfl rfl rfl (y d26_32) e5 ⟨a1, _, rfl, N5, P5, B5v, GK1⟩

def QMI42 (Z : State)  (h0 : Heap) (n0 : Nat) (v : Option Value) (h : Heap) (L : List Loc) : Prop := v = some (.int 2) ∧ Fr n0 L ∧ h = h0
theorem rmMI42 (l : Launch) (Z : State) (a0 : Array Value) (hw : HW a0 Z) (ws : List Jvm.Cond)  (h0 : Heap) (n0 : Nat) (Z0 : n0 ≤ h0.size) :
    MF l Z ⟨"java/lang/Math", "min", "(II)I"⟩ jdk_29_method_69_code 2 (some .int) ws R_0_0_0_0 #[(.int 4), (.int 2)] h0 (QMI42 Z  h0 n0) := by
  refine og_start (by decide +kernel) fun p e s m below meth c s₁ Bd hx hby hml hZ hown hnm X0 e0 => ?_
  have y := @hb _ _ hby
  refine og (fun t k => castTop (ef0 m (4 : Int32) (2 : Int32)) k) ?_
  refine og2 X0 hx (fun j _ k => o_iloadN j (y d27_0) rfl <| o_iloadN j (y d27_1) rfl <| o_icmpYes j (pc' := 9) (y d27_2) (XT.ii_gt_t (by decide)) <| o_iloadN j (y d27_9) rfl <| k) ?_
  exact rI X0 hx Bd (y d27_10) e0 ⟨rfl, (Fr.nil n0), rfl⟩

def QAC42 (Z : State) (ba : Addr) (bk : ClassId) (x0 : Int32) (x1 : Int32) (x2 : Int32) (x3 : Int32) (h0 : Heap) (n0 : Nat) (v : Option Value) (h : Heap) (L : List Loc) : Prop := ∃ r : Addr, ∃ rk : ClassId, v = some (.ref r) ∧ Fr n0 L ∧ Keep h0 h [] ∧ Arv Z h r rk .byte (2 : Int32) [(.int x0), (.int x1)] (.int 0) ∧ h0.size ≤ r
theorem rmAC42 (l : Launch) (Z : State) (a0 : Array Value) (hw : HW a0 Z) (ws : List Jvm.Cond) (ba : Addr) (bk : ClassId) (x0 : Int32) (x1 : Int32) (x2 : Int32) (x3 : Int32) (h0 : Heap) (n0 : Nat) (Z0 : n0 ≤ h0.size) (pr0 : Arv Z h0 ba bk .byte (4 : Int32) [(.int x0), (.int x1), (.int x2), (.int x3)] (.int 0)) :
    MF l Z ⟨"java/util/Arrays", "copyOf", "([BI)[B"⟩ jdk_65_method_121_code 3 (some (.array .byte)) ws R_1_1_2_18 #[(.ref ba), (.int 2)] h0 (QAC42 Z ba bk x0 x1 x2 x3 h0 n0) := by
  refine og_start (plainFor_of_name pn_java_util_Arrays) fun p e s m below meth c s₁ Bd hx hby hml hZ hown hnm X0 e0 => ?_
  have y := @hb _ _ hby
  have w := @wd _ _ hw
  refine og (fun t k => castTop (ef10 m ba (2 : Int32)) k) ?_
  refine og2 X0 hx (fun j _ k => o_iloadN j (y d26_0) rfl <| o_aloadN j (y d26_1) rfl rfl <| o_alen X0 hx hZ e0 pr0 (y d26_2) <| o_icmpYes j (pc' := 14) (y d26_3) (XT.ii_ne_t (by decide)) <| o_iloadN j (y d26_14) rfl <| k) ?_
  refine nP .byte 2 "[B" X0 hx hZ (w 20 rfl) e0 (y d26_15) (fun T1 h1 a1 kc1 g1 X1 e1 E1 A1 D1 => ?_)
  have Z1 : n0 ≤ h1.size := Nat.le_trans Z0 E1.1
  have G1 : n0 ≤ a1 := Nat.le_trans Z0 (Nat.le_of_eq g1.symm)
  have GK1 : h0.size ≤ a1 := Nat.le_trans (Keep.refl h0 []).1 (Nat.le_of_eq g1.symm)
  have P1 := (Keep.refl h0 []).ext E1
  have A2 := (pr0.ext E1)
  have A3 : Arv Z h1 a1 kc1 .byte (2 : Int32) [(.int 0), (.int 0)] (.int 0) := (A1.pad (pad_rep [] _ 2))
  refine og2 X1 hx (fun j _ k => o_astoreN j (y d26_17) rfl (l' := #[.val (.ref ba), .val (.int 2), .val (.ref a1)]) rfl <| o_aloadN j (y d26_18) rfl rfl <| o_iconstV j 0 (y d26_19) rfl <| o_aloadN j (y d26_20) rfl rfl <| o_iconstV j 0 (y d26_21) rfl <| o_aloadN j (y d26_22) rfl rfl <| o_alen X1 hx hZ e1 A2 (y d26_23) <| o_iloadN j (y d26_24) rfl <| k) ?_
  refine cS [(.int 4), (.int 2)] [(.int 0), (.ref a1), (.int 0), (.ref ba)] 4 X1 hx hZ hown (w 136 rfl) (w 137 rfl) (w 138 rfl) (w 139 rfl) (rmMI42 l Z a0 hw [] h1 n0 Z1) e1 hml pd_oIIcI (y d26_25) (fun v4 T4 L4 hQ4 X4 => ?_)
  obtain ⟨rfl, N4a, eh4⟩ := hQ4
  have N4 := Fr.app (Fr.nil n0) N4a
  have e4 : T4.heap = h1 := eh4
  obtain ⟨T5, h5, L5, X5, e5, N5, K5, B5, st5⟩ := cpA X4 hx hZ hown (w 140 rfl) (w 143 rfl) (w 141 rfl) (w 142 rfl) e4 A2 A3 (us := [(.int x0), (.int x1)]) (Or.inl ⟨rfl, rfl⟩) (by decide) (by decide) (by decide) (by decide) (by decide) rfl (by decide) N4 G1 (g := (mkF m 28 #[.val (.ref ba), .val (.int 2), .val (.ref a1)] [(.int 2), (.int 0), (.ref a1), (.int 0), (.ref ba)])) rfl (by rw [hml]; rfl) (rest := []) rfl (y d26_28) (by decide) (W := 0) (by show 2 * 0 + _ ≤ _; exact Nat.le_of_eq rfl) (by decide)
  have P5 : Keep h0 h5 [] := (P1.trans K5 (allS (Or.inr GK1) all0))
  have B5v : Arv Z h5 a1 kc1 .byte (2 : Int32) [(.int x0), (.int x1)] (.int 0) := B5
  refine og st5 ?_
  change OG _ _ _ _ (T5.setTop (mkF m 31 #[.val (.ref ba), .val (.int 2), .val (.ref a1)] []))
  refine og2 X5 hx (fun j _ k => o_aloadN j (y d26_31) rfl rfl <| k) ?_
  exact rA X5 hx Bd rfl rfl rfl (y d26_32) e5 ⟨a1, _, rfl, N5, P5, B5v, GK1⟩

def QMI43 (Z : State)  (h0 : Heap) (n0 : Nat) (v : Option Value) (h : Heap) (L : List Loc) : Prop := v = some (.int 3) ∧ Fr n0 L ∧ h = h0
theorem rmMI43 (l : Launch) (Z : State) (a0 : Array Value) (hw : HW a0 Z) (ws : List Jvm.Cond)  (h0 : Heap) (n0 : Nat) (Z0 : n0 ≤ h0.size) :
    MF l Z ⟨"java/lang/Math", "min", "(II)I"⟩ jdk_29_method_69_code 2 (some .int) ws R_0_0_0_0 #[(.int 4), (.int 3)] h0 (QMI43 Z  h0 n0) := by
  refine og_start (by decide +kernel) fun p e s m below meth c s₁ Bd hx hby hml hZ hown hnm X0 e0 => ?_
  have y := @hb _ _ hby
  refine og (fun t k => castTop (ef0 m (4 : Int32) (3 : Int32)) k) ?_
  refine og2 X0 hx (fun j _ k => o_iloadN j (y d27_0) rfl <| o_iloadN j (y d27_1) rfl <| o_icmpYes j (pc' := 9) (y d27_2) (XT.ii_gt_t (by decide)) <| o_iloadN j (y d27_9) rfl <| k) ?_
  exact rI X0 hx Bd (y d27_10) e0 ⟨rfl, (Fr.nil n0), rfl⟩

abbrev R_1_1_3_18 : Room := ({ frames := 1, cells := 1, slots := 3, locals := 18 } : Room)
def QAC43 (Z : State) (ba : Addr) (bk : ClassId) (x0 : Int32) (x1 : Int32) (x2 : Int32) (x3 : Int32) (h0 : Heap) (n0 : Nat) (v : Option Value) (h : Heap) (L : List Loc) : Prop := ∃ r : Addr, ∃ rk : ClassId, v = some (.ref r) ∧ Fr n0 L ∧ Keep h0 h [] ∧ Arv Z h r rk .byte (3 : Int32) [(.int x0), (.int x1), (.int x2)] (.int 0) ∧ h0.size ≤ r
theorem rmAC43 (l : Launch) (Z : State) (a0 : Array Value) (hw : HW a0 Z) (ws : List Jvm.Cond) (ba : Addr) (bk : ClassId) (x0 : Int32) (x1 : Int32) (x2 : Int32) (x3 : Int32) (h0 : Heap) (n0 : Nat) (Z0 : n0 ≤ h0.size) (pr0 : Arv Z h0 ba bk .byte (4 : Int32) [(.int x0), (.int x1), (.int x2), (.int x3)] (.int 0)) :
    MF l Z ⟨"java/util/Arrays", "copyOf", "([BI)[B"⟩ jdk_65_method_121_code 3 (some (.array .byte)) ws R_1_1_3_18 #[(.ref ba), (.int 3)] h0 (QAC43 Z ba bk x0 x1 x2 x3 h0 n0) := by
  refine og_start (plainFor_of_name pn_java_util_Arrays) fun p e s m below meth c s₁ Bd hx hby hml hZ hown hnm X0 e0 => ?_
  have y := @hb _ _ hby
  have w := @wd _ _ hw
  refine og (fun t k => castTop (ef10 m ba (3 : Int32)) k) ?_
  refine og2 X0 hx (fun j _ k => o_iloadN j (y d26_0) rfl <| o_aloadN j (y d26_1) rfl rfl <| o_alen X0 hx hZ e0 pr0 (y d26_2) <| o_icmpYes j (pc' := 14) (y d26_3) (XT.ii_ne_t (by decide)) <| o_iloadN j (y d26_14) rfl <| k) ?_
  refine nP .byte 3 "[B" X0 hx hZ (w 20 rfl) e0 (y d26_15) (fun T1 h1 a1 kc1 g1 X1 e1 E1 A1 D1 => ?_)
  have Z1 : n0 ≤ h1.size := Nat.le_trans Z0 E1.1
  have G1 : n0 ≤ a1 := Nat.le_trans Z0 (Nat.le_of_eq g1.symm)
  have GK1 : h0.size ≤ a1 := Nat.le_trans (Keep.refl h0 []).1 (Nat.le_of_eq g1.symm)
  have P1 := (Keep.refl h0 []).ext E1
  have A2 := (pr0.ext E1)
  have A3 : Arv Z h1 a1 kc1 .byte (3 : Int32) [(.int 0), (.int 0), (.int 0)] (.int 0) := (A1.pad (pad_rep [] _ 3))
  refine og2 X1 hx (fun j _ k => o_astoreN j (y d26_17) rfl (l' := #[.val (.ref ba), .val (.int 3), .val (.ref a1)]) rfl <| o_aloadN j (y d26_18) rfl rfl <| o_iconstV j 0 (y d26_19) rfl <| o_aloadN j (y d26_20) rfl rfl <| o_iconstV j 0 (y d26_21) rfl <| o_aloadN j (y d26_22) rfl rfl <| o_alen X1 hx hZ e1 A2 (y d26_23) <| o_iloadN j (y d26_24) rfl <| k) ?_
  refine cS [(.int 4), (.int 3)] [(.int 0), (.ref a1), (.int 0), (.ref ba)] 4 X1 hx hZ hown (w 136 rfl) (w 137 rfl) (w 138 rfl) (w 139 rfl) (rmMI43 l Z a0 hw [] h1 n0 Z1) e1 hml pd_oIIcI (y d26_25) (fun v4 T4 L4 hQ4 X4 => ?_)
  obtain ⟨rfl, N4a, eh4⟩ := hQ4
  have N4 := Fr.app (Fr.nil n0) N4a
  have e4 : T4.heap = h1 := eh4
  obtain ⟨T5, h5, L5, X5, e5, N5, K5, B5, st5⟩ := cpA X4 hx hZ hown (w 140 rfl) (w 143 rfl) (w 141 rfl) (w 142 rfl) e4 A2 A3 (us := [(.int x0), (.int x1), (.int x2)]) (Or.inl ⟨rfl, rfl⟩) (by decide) (by decide) (by decide) (by decide) (by decide) rfl (by decide) N4 G1 (g := (mkF m 28 #[.val (.ref ba), .val (.int 3), .val (.ref a1)] [(.int 3), (.int 0), (.ref a1), (.int 0), (.ref ba)])) rfl (by rw [hml]; rfl) (rest := []) rfl (y d26_28) (by decide) (W := 0) (by show 2 * 0 + _ ≤ _; exact Nat.le_of_eq rfl) (by decide)
  have P5 : Keep h0 h5 [] := (P1.trans K5 (allS (Or.inr GK1) all0))
  have B5v : Arv Z h5 a1 kc1 .byte (3 : Int32) [(.int x0), (.int x1), (.int x2)] (.int 0) := B5
  refine og st5 ?_
  change OG _ _ _ _ (T5.setTop (mkF m 31 #[.val (.ref ba), .val (.int 3), .val (.ref a1)] []))
  refine og2 X5 hx (fun j _ k => o_aloadN j (y d26_31) rfl rfl <| k) ?_
  exact rA X5 hx Bd rfl rfl rfl (y d26_32) e5 ⟨a1, _, rfl, N5, P5, B5v, GK1⟩

def QMI31 (Z : State)  (h0 : Heap) (n0 : Nat) (v : Option Value) (h : Heap) (L : List Loc) : Prop := v = some (.int 1) ∧ Fr n0 L ∧ h = h0
theorem rmMI31 (l : Launch) (Z : State) (a0 : Array Value) (hw : HW a0 Z) (ws : List Jvm.Cond)  (h0 : Heap) (n0 : Nat) (Z0 : n0 ≤ h0.size) :
    MF l Z ⟨"java/lang/Math", "min", "(II)I"⟩ jdk_29_method_69_code 2 (some .int) ws R_0_0_0_0 #[(.int 3), (.int 1)] h0 (QMI31 Z  h0 n0) := by
  refine og_start (by decide +kernel) fun p e s m below meth c s₁ Bd hx hby hml hZ hown hnm X0 e0 => ?_
  have y := @hb _ _ hby
  refine og (fun t k => castTop (ef0 m (3 : Int32) (1 : Int32)) k) ?_
  refine og2 X0 hx (fun j _ k => o_iloadN j (y d27_0) rfl <| o_iloadN j (y d27_1) rfl <| o_icmpYes j (pc' := 9) (y d27_2) (XT.ii_gt_t (by decide)) <| o_iloadN j (y d27_9) rfl <| k) ?_
  exact rI X0 hx Bd (y d27_10) e0 ⟨rfl, (Fr.nil n0), rfl⟩

def QAC31 (Z : State) (ba : Addr) (bk : ClassId) (x0 : Int32) (x1 : Int32) (x2 : Int32) (h0 : Heap) (n0 : Nat) (v : Option Value) (h : Heap) (L : List Loc) : Prop := ∃ r : Addr, ∃ rk : ClassId, v = some (.ref r) ∧ Fr n0 L ∧ Keep h0 h [] ∧ Arv Z h r rk .byte (1 : Int32) [(.int x0)] (.int 0) ∧ h0.size ≤ r
theorem rmAC31 (l : Launch) (Z : State) (a0 : Array Value) (hw : HW a0 Z) (ws : List Jvm.Cond) (ba : Addr) (bk : ClassId) (x0 : Int32) (x1 : Int32) (x2 : Int32) (h0 : Heap) (n0 : Nat) (Z0 : n0 ≤ h0.size) (pr0 : Arv Z h0 ba bk .byte (3 : Int32) [(.int x0), (.int x1), (.int x2)] (.int 0)) :
    MF l Z ⟨"java/util/Arrays", "copyOf", "([BI)[B"⟩ jdk_65_method_121_code 3 (some (.array .byte)) ws R_1_1_1_18 #[(.ref ba), (.int 1)] h0 (QAC31 Z ba bk x0 x1 x2 h0 n0) := by
  refine og_start (plainFor_of_name pn_java_util_Arrays) fun p e s m below meth c s₁ Bd hx hby hml hZ hown hnm X0 e0 => ?_
  have y := @hb _ _ hby
  have w := @wd _ _ hw
  refine og (fun t k => castTop (ef10 m ba (1 : Int32)) k) ?_
  refine og2 X0 hx (fun j _ k => o_iloadN j (y d26_0) rfl <| o_aloadN j (y d26_1) rfl rfl <| o_alen X0 hx hZ e0 pr0 (y d26_2) <| o_icmpYes j (pc' := 14) (y d26_3) (XT.ii_ne_t (by decide)) <| o_iloadN j (y d26_14) rfl <| k) ?_
  refine nP .byte 1 "[B" X0 hx hZ (w 20 rfl) e0 (y d26_15) (fun T1 h1 a1 kc1 g1 X1 e1 E1 A1 D1 => ?_)
  have Z1 : n0 ≤ h1.size := Nat.le_trans Z0 E1.1
  have G1 : n0 ≤ a1 := Nat.le_trans Z0 (Nat.le_of_eq g1.symm)
  have GK1 : h0.size ≤ a1 := Nat.le_trans (Keep.refl h0 []).1 (Nat.le_of_eq g1.symm)
  have P1 := (Keep.refl h0 []).ext E1
  have A2 := (pr0.ext E1)
  have A3 : Arv Z h1 a1 kc1 .byte (1 : Int32) [(.int 0)] (.int 0) := (A1.pad (pad_rep [] _ 1))
  refine og2 X1 hx (fun j _ k => o_astoreN j (y d26_17) rfl (l' := #[.val (.ref ba), .val (.int 1), .val (.ref a1)]) rfl <| o_aloadN j (y d26_18) rfl rfl <| o_iconstV j 0 (y d26_19) rfl <| o_aloadN j (y d26_20) rfl rfl <| o_iconstV j 0 (y d26_21) rfl <| o_aloadN j (y d26_22) rfl rfl <| o_alen X1 hx hZ e1 A2 (y d26_23) <| o_iloadN j (y d26_24) rfl <| k) ?_
  refine cS [(.int 3), (.int 1)] [(.int 0), (.ref a1), (.int 0), (.ref ba)] 4 X1 hx hZ hown (w 136 rfl) (w 137 rfl) (w 138 rfl) (w 139 rfl) (rmMI31 l Z a0 hw [] h1 n0 Z1) e1 hml pd_oIIcI (y d26_25) (fun v4 T4 L4 hQ4 X4 => ?_)
  obtain ⟨rfl, N4a, eh4⟩ := hQ4
  have N4 := Fr.app (Fr.nil n0) N4a
  have e4 : T4.heap = h1 := eh4
  obtain ⟨T5, h5, L5, X5, e5, N5, K5, B5, st5⟩ := cpA X4 hx hZ hown (w 140 rfl) (w 143 rfl) (w 141 rfl) (w 142 rfl) e4 A2 A3 (us := [(.int x0)]) (Or.inl ⟨rfl, rfl⟩) (by decide) (by decide) (by decide) (by decide) (by decide) rfl (by decide) N4 G1 (g := (mkF m 28 #[.val (.ref ba), .val (.int 1), .val (.ref a1)] [(.int 1), (.int 0), (.ref a1), (.int 0), (.ref ba)])) rfl (by rw [hml]; rfl) (rest := []) rfl (y d26_28) (by decide) (W := 0) (by show 2 * 0 + _ ≤ _; exact Nat.le_of_eq rfl) (by decide)
  have P5 : Keep h0 h5 [] := (P1.trans K5 (allS (Or.inr GK1) all0))
  have B5v : Arv Z h5 a1 kc1 .byte (1 : Int32) [(.int x0)] (.int 0) := B5
  refine og st5 ?_
  change OG _ _ _ _ (T5.setTop (mkF m 31 #[.val (.ref ba), .val (.int 1), .val (.ref a1)] []))
  refine og2 X5 hx (fun j _ k => o_aloadN j (y d26_31) rfl rfl <| k) ?_
  exact rA X5 hx Bd rfl rfl rfl (y d26_32) e5 ⟨a1, _, rfl, N5, P5, B5v, GK1⟩

def QMI32 (Z : State)  (h0 : Heap) (n0 : Nat) (v : Option Value) (h : Heap) (L : List Loc) : Prop := v = some (.int 2) ∧ Fr n0 L ∧ h = h0
theorem rmMI32 (l : Launch) (Z : State) (a0 : Array Value) (hw : HW a0 Z) (ws : List Jvm.Cond)  (h0 : Heap) (n0 : Nat) (Z0 : n0 ≤ h0.size) :
    MF l Z ⟨"java/lang/Math", "min", "(II)I"⟩ jdk_29_method_69_code 2 (some .int) ws R_0_0_0_0 #[(.int 3), (.int 2)] h0 (QMI32 Z  h0 n0) := by
  refine og_start (by decide +kernel) fun p e s m below meth c s₁ Bd hx hby hml hZ hown hnm X0 e0 => ?_
  have y := @hb _ _ hby
  refine og (fun t k => castTop (ef0 m (3 : Int32) (2 : Int32)) k) ?_
  refine og2 X0 hx (fun j _ k => o_iloadN j (y d27_0) rfl <| o_iloadN j (y d27_1) rfl <| o_icmpYes j (pc' := 9) (y d27_2) (XT.ii_gt_t (by decide)) <| o_iloadN j (y d27_9) rfl <| k) ?_
  exact rI X0 hx Bd (y d27_10) e0 ⟨rfl, (Fr.nil n0), rfl⟩

def QAC32 (Z : State) (ba : Addr) (bk : ClassId) (x0 : Int32) (x1 : Int32) (x2 : Int32) (h0 : Heap) (n0 : Nat) (v : Option Value) (h : Heap) (L : List Loc) : Prop := ∃ r : Addr, ∃ rk : ClassId, v = some (.ref r) ∧ Fr n0 L ∧ Keep h0 h [] ∧ Arv Z h r rk .byte (2 : Int32) [(.int x0), (.int x1)] (.int 0) ∧ h0.size ≤ r
theorem rmAC32 (l : Launch) (Z : State) (a0 : Array Value) (hw : HW a0 Z) (ws : List Jvm.Cond) (ba : Addr) (bk : ClassId) (x0 : Int32) (x1 : Int32) (x2 : Int32) (h0 : Heap) (n0 : Nat) (Z0 : n0 ≤ h0.size) (pr0 : Arv Z h0 ba bk .byte (3 : Int32) [(.int x0), (.int x1), (.int x2)] (.int 0)) :
    MF l Z ⟨"java/util/Arrays", "copyOf", "([BI)[B"⟩ jdk_65_method_121_code 3 (some (.array .byte)) ws R_1_1_2_18 #[(.ref ba), (.int 2)] h0 (QAC32 Z ba bk x0 x1 x2 h0 n0) := by
  refine og_start (plainFor_of_name pn_java_util_Arrays) fun p e s m below meth c s₁ Bd hx hby hml hZ hown hnm X0 e0 => ?_
  have y := @hb _ _ hby
  have w := @wd _ _ hw
  refine og (fun t k => castTop (ef10 m ba (2 : Int32)) k) ?_
  refine og2 X0 hx (fun j _ k => o_iloadN j (y d26_0) rfl <| o_aloadN j (y d26_1) rfl rfl <| o_alen X0 hx hZ e0 pr0 (y d26_2) <| o_icmpYes j (pc' := 14) (y d26_3) (XT.ii_ne_t (by decide)) <| o_iloadN j (y d26_14) rfl <| k) ?_
  refine nP .byte 2 "[B" X0 hx hZ (w 20 rfl) e0 (y d26_15) (fun T1 h1 a1 kc1 g1 X1 e1 E1 A1 D1 => ?_)
  have Z1 : n0 ≤ h1.size := Nat.le_trans Z0 E1.1
  have G1 : n0 ≤ a1 := Nat.le_trans Z0 (Nat.le_of_eq g1.symm)
  have GK1 : h0.size ≤ a1 := Nat.le_trans (Keep.refl h0 []).1 (Nat.le_of_eq g1.symm)
  have P1 := (Keep.refl h0 []).ext E1
  have A2 := (pr0.ext E1)
  have A3 : Arv Z h1 a1 kc1 .byte (2 : Int32) [(.int 0), (.int 0)] (.int 0) := (A1.pad (pad_rep [] _ 2))
  refine og2 X1 hx (fun j _ k => o_astoreN j (y d26_17) rfl (l' := #[.val (.ref ba), .val (.int 2), .val (.ref a1)]) rfl <| o_aloadN j (y d26_18) rfl rfl <| o_iconstV j 0 (y d26_19) rfl <| o_aloadN j (y d26_20) rfl rfl <| o_iconstV j 0 (y d26_21) rfl <| o_aloadN j (y d26_22) rfl rfl <| o_alen X1 hx hZ e1 A2 (y d26_23) <| o_iloadN j (y d26_24) rfl <| k) ?_
  refine cS [(.int 3), (.int 2)] [(.int 0), (.ref a1), (.int 0), (.ref ba)] 4 X1 hx hZ hown (w 136 rfl) (w 137 rfl) (w 138 rfl) (w 139 rfl) (rmMI32 l Z a0 hw [] h1 n0 Z1) e1 hml pd_oIIcI (y d26_25) (fun v4 T4 L4 hQ4 X4 => ?_)
  obtain ⟨rfl, N4a, eh4⟩ := hQ4
  have N4 := Fr.app (Fr.nil n0) N4a
  have e4 : T4.heap = h1 := eh4
  obtain ⟨T5, h5, L5, X5, e5, N5, K5, B5, st5⟩ := cpA X4 hx hZ hown (w 140 rfl) (w 143 rfl) (w 141 rfl) (w 142 rfl) e4 A2 A3 (us := [(.int x0), (.int x1)]) (Or.inl ⟨rfl, rfl⟩) (by decide) (by decide) (by decide) (by decide) (by decide) rfl (by decide) N4 G1 (g := (mkF m 28 #[.val (.ref ba), .val (.int 2), .val (.ref a1)] [(.int 2), (.int 0), (.ref a1), (.int 0), (.ref ba)])) rfl (by rw [hml]; rfl) (rest := []) rfl (y d26_28) (by decide) (W := 0) (by show 2 * 0 + _ ≤ _; exact Nat.le_of_eq rfl) (by decide)
  have P5 : Keep h0 h5 [] := (P1.trans K5 (allS (Or.inr GK1) all0))
  have B5v : Arv Z h5 a1 kc1 .byte (2 : Int32) [(.int x0), (.int x1)] (.int 0) := B5
  refine og st5 ?_
  change OG _ _ _ _ (T5.setTop (mkF m 31 #[.val (.ref ba), .val (.int 2), .val (.ref a1)] []))
  refine og2 X5 hx (fun j _ k => o_aloadN j (y d26_31) rfl rfl <| k) ?_
  exact rA X5 hx Bd rfl rfl rfl (y d26_32) e5 ⟨a1, _, rfl, N5, P5, B5v, GK1⟩

def QMI62 (Z : State)  (h0 : Heap) (n0 : Nat) (v : Option Value) (h : Heap) (L : List Loc) : Prop := v = some (.int 2) ∧ Fr n0 L ∧ h = h0
theorem rmMI62 (l : Launch) (Z : State) (a0 : Array Value) (hw : HW a0 Z) (ws : List Jvm.Cond)  (h0 : Heap) (n0 : Nat) (Z0 : n0 ≤ h0.size) :
    MF l Z ⟨"java/lang/Math", "min", "(II)I"⟩ jdk_29_method_69_code 2 (some .int) ws R_0_0_0_0 #[(.int 6), (.int 2)] h0 (QMI62 Z  h0 n0) := by
  refine og_start (by decide +kernel) fun p e s m below meth c s₁ Bd hx hby hml hZ hown hnm X0 e0 => ?_
  have y := @hb _ _ hby
  refine og (fun t k => castTop (ef0 m (6 : Int32) (2 : Int32)) k) ?_
  refine og2 X0 hx (fun j _ k => o_iloadN j (y d27_0) rfl <| o_iloadN j (y d27_1) rfl <| o_icmpYes j (pc' := 9) (y d27_2) (XT.ii_gt_t (by decide)) <| o_iloadN j (y d27_9) rfl <| k) ?_
  exact rI X0 hx Bd (y d27_10) e0 ⟨rfl, (Fr.nil n0), rfl⟩

def QAC62 (Z : State) (ba : Addr) (bk : ClassId) (x0 : Int32) (x1 : Int32) (x2 : Int32) (x3 : Int32) (x4 : Int32) (x5 : Int32) (h0 : Heap) (n0 : Nat) (v : Option Value) (h : Heap) (L : List Loc) : Prop := ∃ r : Addr, ∃ rk : ClassId, v = some (.ref r) ∧ Fr n0 L ∧ Keep h0 h [] ∧ Arv Z h r rk .byte (2 : Int32) [(.int x0), (.int x1)] (.int 0) ∧ h0.size ≤ r
theorem rmAC62 (l : Launch) (Z : State) (a0 : Array Value) (hw : HW a0 Z) (ws : List Jvm.Cond) (ba : Addr) (bk : ClassId) (x0 : Int32) (x1 : Int32) (x2 : Int32) (x3 : Int32) (x4 : Int32) (x5 : Int32) (h0 : Heap) (n0 : Nat) (Z0 : n0 ≤ h0.size) (pr0 : Arv Z h0 ba bk .byte (6 : Int32) [(.int x0), (.int x1), (.int x2), (.int x3), (.int x4), (.int x5)] (.int 0)) :
    MF l Z ⟨"java/util/Arrays", "copyOf", "([BI)[B"⟩ jdk_65_method_121_code 3 (some (.array .byte)) ws R_1_1_2_18 #[(.ref ba), (.int 2)] h0 (QAC62 Z ba bk x0 x1 x2 x3 x4 x5 h0 n0) := by
  refine og_start (plainFor_of_name pn_java_util_Arrays) fun p e s m below meth c s₁ Bd hx hby hml hZ hown hnm X0 e0 => ?_
  have y := @hb _ _ hby
  have w := @wd _ _ hw
  refine og (fun t k => castTop (ef10 m ba (2 : Int32)) k) ?_
  refine og2 X0 hx (fun j _ k => o_iloadN j (y d26_0) rfl <| o_aloadN j (y d26_1) rfl rfl <| o_alen X0 hx hZ e0 pr0 (y d26_2) <| o_icmpYes j (pc' := 14) (y d26_3) (XT.ii_ne_t (by decide)) <| o_iloadN j (y d26_14) rfl <| k) ?_
  refine nP .byte 2 "[B" X0 hx hZ (w 20 rfl) e0 (y d26_15) (fun T1 h1 a1 kc1 g1 X1 e1 E1 A1 D1 => ?_)
  have Z1 : n0 ≤ h1.size := Nat.le_trans Z0 E1.1
  have G1 : n0 ≤ a1 := Nat.le_trans Z0 (Nat.le_of_eq g1.symm)
  have GK1 : h0.size ≤ a1 := Nat.le_trans (Keep.refl h0 []).1 (Nat.le_of_eq g1.symm)
  have P1 := (Keep.refl h0 []).ext E1
  have A2 := (pr0.ext E1)
  have A3 : Arv Z h1 a1 kc1 .byte (2 : Int32) [(.int 0), (.int 0)] (.int 0) := (A1.pad (pad_rep [] _ 2))
  refine og2 X1 hx (fun j _ k => o_astoreN j (y d26_17) rfl (l' := #[.val (.ref ba), .val (.int 2), .val (.ref a1)]) rfl <| o_aloadN j (y d26_18) rfl rfl <| o_iconstV j 0 (y d26_19) rfl <| o_aloadN j (y d26_20) rfl rfl <| o_iconstV j 0 (y d26_21) rfl <| o_aloadN j (y d26_22) rfl rfl <| o_alen X1 hx hZ e1 A2 (y d26_23) <| o_iloadN j (y d26_24) rfl <| k) ?_
  refine cS [(.int 6), (.int 2)] [(.int 0), (.ref a1), (.int 0), (.ref ba)] 4 X1 hx hZ hown (w 136 rfl) (w 137 rfl) (w 138 rfl) (w 139 rfl) (rmMI62 l Z a0 hw [] h1 n0 Z1) e1 hml pd_oIIcI (y d26_25) (fun v4 T4 L4 hQ4 X4 => ?_)
  obtain ⟨rfl, N4a, eh4⟩ := hQ4
  have N4 := Fr.app (Fr.nil n0) N4a
  have e4 : T4.heap = h1 := eh4
  obtain ⟨T5, h5, L5, X5, e5, N5, K5, B5, st5⟩ := cpA X4 hx hZ hown (w 140 rfl) (w 143 rfl) (w 141 rfl) (w 142 rfl) e4 A2 A3 (us := [(.int x0), (.int x1)]) (Or.inl ⟨rfl, rfl⟩) (by decide) (by decide) (by decide) (by decide) (by decide) rfl (by decide) N4 G1 (g := (mkF m 28 #[.val (.ref ba), .val (.int 2), .val (.ref a1)] [(.int 2), (.int 0), (.ref a1), (.int 0), (.ref ba)])) rfl (by rw [hml]; rfl) (rest := []) rfl (y d26_28) (by decide) (W := 0) (by show 2 * 0 + _ ≤ _; exact Nat.le_of_eq rfl) (by decide)
  have P5 : Keep h0 h5 [] := (P1.trans K5 (allS (Or.inr GK1) all0))
  have B5v : Arv Z h5 a1 kc1 .byte (2 : Int32) [(.int x0), (.int x1)] (.int 0) := B5
  refine og st5 ?_
  change OG _ _ _ _ (T5.setTop (mkF m 31 #[.val (.ref ba), .val (.int 2), .val (.ref a1)] []))
  refine og2 X5 hx (fun j _ k => o_aloadN j (y d26_31) rfl rfl <| k) ?_
  exact rA X5 hx Bd rfl rfl rfl (y d26_32) e5 ⟨a1, _, rfl, N5, P5, B5v, GK1⟩

def QMI63 (Z : State)  (h0 : Heap) (n0 : Nat) (v : Option Value) (h : Heap) (L : List Loc) : Prop := v = some (.int 3) ∧ Fr n0 L ∧ h = h0
theorem rmMI63 (l : Launch) (Z : State) (a0 : Array Value) (hw : HW a0 Z) (ws : List Jvm.Cond)  (h0 : Heap) (n0 : Nat) (Z0 : n0 ≤ h0.size) :
    MF l Z ⟨"java/lang/Math", "min", "(II)I"⟩ jdk_29_method_69_code 2 (some .int) ws R_0_0_0_0 #[(.int 6), (.int 3)] h0 (QMI63 Z  h0 n0) := by
  refine og_start (by decide +kernel) fun p e s m below meth c s₁ Bd hx hby hml hZ hown hnm X0 e0 => ?_
  have y := @hb _ _ hby
  refine og (fun t k => castTop (ef0 m (6 : Int32) (3 : Int32)) k) ?_
  refine og2 X0 hx (fun j _ k => o_iloadN j (y d27_0) rfl <| o_iloadN j (y d27_1) rfl <| o_icmpYes j (pc' := 9) (y d27_2) (XT.ii_gt_t (by decide)) <| o_iloadN j (y d27_9) rfl <| k) ?_
  exact rI X0 hx Bd (y d27_10) e0 ⟨rfl, (Fr.nil n0), rfl⟩

def QAC63 (Z : State) (ba : Addr) (bk : ClassId) (x0 : Int32) (x1 : Int32) (x2 : Int32) (x3 : Int32) (x4 : Int32) (x5 : Int32) (h0 : Heap) (n0 : Nat) (v : Option Value) (h : Heap) (L : List Loc) : Prop := ∃ r : Addr, ∃ rk : ClassId, v = some (.ref r) ∧ Fr n0 L ∧ Keep h0 h [] ∧ Arv Z h r rk .byte (3 : Int32) [(.int x0), (.int x1), (.int x2)] (.int 0) ∧ h0.size ≤ r
theorem rmAC63 (l : Launch) (Z : State) (a0 : Array Value) (hw : HW a0 Z) (ws : List Jvm.Cond) (ba : Addr) (bk : ClassId) (x0 : Int32) (x1 : Int32) (x2 : Int32) (x3 : Int32) (x4 : Int32) (x5 : Int32) (h0 : Heap) (n0 : Nat) (Z0 : n0 ≤ h0.size) (pr0 : Arv Z h0 ba bk .byte (6 : Int32) [(.int x0), (.int x1), (.int x2), (.int x3), (.int x4), (.int x5)] (.int 0)) :
    MF l Z ⟨"java/util/Arrays", "copyOf", "([BI)[B"⟩ jdk_65_method_121_code 3 (some (.array .byte)) ws R_1_1_3_18 #[(.ref ba), (.int 3)] h0 (QAC63 Z ba bk x0 x1 x2 x3 x4 x5 h0 n0) := by
  refine og_start (plainFor_of_name pn_java_util_Arrays) fun p e s m below meth c s₁ Bd hx hby hml hZ hown hnm X0 e0 => ?_
  have y := @hb _ _ hby
  have w := @wd _ _ hw
  refine og (fun t k => castTop (ef10 m ba (3 : Int32)) k) ?_
  refine og2 X0 hx (fun j _ k => o_iloadN j (y d26_0) rfl <| o_aloadN j (y d26_1) rfl rfl <| o_alen X0 hx hZ e0 pr0 (y d26_2) <| o_icmpYes j (pc' := 14) (y d26_3) (XT.ii_ne_t (by decide)) <| o_iloadN j (y d26_14) rfl <| k) ?_
  refine nP .byte 3 "[B" X0 hx hZ (w 20 rfl) e0 (y d26_15) (fun T1 h1 a1 kc1 g1 X1 e1 E1 A1 D1 => ?_)
  have Z1 : n0 ≤ h1.size := Nat.le_trans Z0 E1.1
  have G1 : n0 ≤ a1 := Nat.le_trans Z0 (Nat.le_of_eq g1.symm)
  have GK1 : h0.size ≤ a1 := Nat.le_trans (Keep.refl h0 []).1 (Nat.le_of_eq g1.symm)
  have P1 := (Keep.refl h0 []).ext E1
  have A2 := (pr0.ext E1)
  have A3 : Arv Z h1 a1 kc1 .byte (3 : Int32) [(.int 0), (.int 0), (.int 0)] (.int 0) := (A1.pad (pad_rep [] _ 3))
  refine og2 X1 hx (fun j _ k => o_astoreN j (y d26_17) rfl (l' := #[.val (.ref ba), .val (.int 3), .val (.ref a1)]) rfl <| o_aloadN j (y d26_18) rfl rfl <| o_iconstV j 0 (y d26_19) rfl <| o_aloadN j (y d26_20) rfl rfl <| o_iconstV j 0 (y d26_21) rfl <| o_aloadN j (y d26_22) rfl rfl <| o_alen X1 hx hZ e1 A2 (y d26_23) <| o_iloadN j (y d26_24) rfl <| k) ?_
  refine cS [(.int 6), (.int 3)] [(.int 0), (.ref a1), (.int 0), (.ref ba)] 4 X1 hx hZ hown (w 136 rfl) (w 137 rfl) (w 138 rfl) (w 139 rfl) (rmMI63 l Z a0 hw [] h1 n0 Z1) e1 hml pd_oIIcI (y d26_25) (fun v4 T4 L4 hQ4 X4 => ?_)
  obtain ⟨rfl, N4a, eh4⟩ := hQ4
  have N4 := Fr.app (Fr.nil n0) N4a
  have e4 : T4.heap = h1 := eh4
  obtain ⟨T5, h5, L5, X5, e5, N5, K5, B5, st5⟩ := cpA X4 hx hZ hown (w 140 rfl) (w 143 rfl) (w 141 rfl) (w 142 rfl) e4 A2 A3 (us := [(.int x0), (.int x1), (.int x2)]) (Or.inl ⟨rfl, rfl⟩) (by decide) (by decide) (by decide) (by decide) (by decide) rfl (by decide) N4 G1 (g := (mkF m 28 #[.val (.ref ba), .val (.int 3), .val (.ref a1)] [(.int 3), (.int 0), (.ref a1), (.int 0), (.ref ba)])) rfl (by rw [hml]; rfl) (rest := []) rfl (y d26_28) (by decide) (W := 0) (by show 2 * 0 + _ ≤ _; exact Nat.le_of_eq rfl) (by decide)
  have P5 : Keep h0 h5 [] := (P1.trans K5 (allS (Or.inr GK1) all0))
  have B5v : Arv Z h5 a1 kc1 .byte (3 : Int32) [(.int x0), (.int x1), (.int x2)] (.int 0) := B5
  refine og st5 ?_
  change OG _ _ _ _ (T5.setTop (mkF m 31 #[.val (.ref ba), .val (.int 3), .val (.ref a1)] []))
  refine og2 X5 hx (fun j _ k => o_aloadN j (y d26_31) rfl rfl <| k) ?_
  exact rA X5 hx Bd rfl rfl rfl (y d26_32) e5 ⟨a1, _, rfl, N5, P5, B5v, GK1⟩

def QMI64 (Z : State)  (h0 : Heap) (n0 : Nat) (v : Option Value) (h : Heap) (L : List Loc) : Prop := v = some (.int 4) ∧ Fr n0 L ∧ h = h0
theorem rmMI64 (l : Launch) (Z : State) (a0 : Array Value) (hw : HW a0 Z) (ws : List Jvm.Cond)  (h0 : Heap) (n0 : Nat) (Z0 : n0 ≤ h0.size) :
    MF l Z ⟨"java/lang/Math", "min", "(II)I"⟩ jdk_29_method_69_code 2 (some .int) ws R_0_0_0_0 #[(.int 6), (.int 4)] h0 (QMI64 Z  h0 n0) := by
  refine og_start (by decide +kernel) fun p e s m below meth c s₁ Bd hx hby hml hZ hown hnm X0 e0 => ?_
  have y := @hb _ _ hby
  refine og (fun t k => castTop (ef0 m (6 : Int32) (4 : Int32)) k) ?_
  refine og2 X0 hx (fun j _ k => o_iloadN j (y d27_0) rfl <| o_iloadN j (y d27_1) rfl <| o_icmpYes j (pc' := 9) (y d27_2) (XT.ii_gt_t (by decide)) <| o_iloadN j (y d27_9) rfl <| k) ?_
  exact rI X0 hx Bd (y d27_10) e0 ⟨rfl, (Fr.nil n0), rfl⟩

abbrev R_1_1_4_18 : Room := ({ frames := 1, cells := 1, slots := 4, locals := 18 } : Room)
def QAC64 (Z : State) (ba : Addr) (bk : ClassId) (x0 : Int32) (x1 : Int32) (x2 : Int32) (x3 : Int32) (x4 : Int32) (x5 : Int32) (h0 : Heap) (n0 : Nat) (v : Option Value) (h : Heap) (L : List Loc) : Prop := ∃ r : Addr, ∃ rk : ClassId, v = some (.ref r) ∧ Fr n0 L ∧ Keep h0 h [] ∧ Arv Z h r rk .byte (4 : Int32) [(.int x0), (.int x1), (.int x2), (.int x3)] (.int 0) ∧ h0.size ≤ r
theorem rmAC64 (l : Launch) (Z : State) (a0 : Array Value) (hw : HW a0 Z) (ws : List Jvm.Cond) (ba : Addr) (bk : ClassId) (x0 : Int32) (x1 : Int32) (x2 : Int32) (x3 : Int32) (x4 : Int32) (x5 : Int32) (h0 : Heap) (n0 : Nat) (Z0 : n0 ≤ h0.size) (pr0 : Arv Z h0 ba bk .byte (6 : Int32) [(.int x0), (.int x1), (.int x2), (.int x3), (.int x4), (.int x5)] (.int 0)) :
    MF l Z ⟨"java/util/Arrays", "copyOf", "([BI)[B"⟩ jdk_65_method_121_code 3 (some (.array .byte)) ws R_1_1_4_18 #[(.ref ba), (.int 4)] h0 (QAC64 Z ba bk x0 x1 x2 x3 x4 x5 h0 n0) := by
  refine og_start (plainFor_of_name pn_java_util_Arrays) fun p e s m below meth c s₁ Bd hx hby hml hZ hown hnm X0 e0 => ?_
  have y := @hb _ _ hby
  have w := @wd _ _ hw
  refine og (fun t k => castTop (ef10 m ba (4 : Int32)) k) ?_
  refine og2 X0 hx (fun j _ k => o_iloadN j (y d26_0) rfl <| o_aloadN j (y d26_1) rfl rfl <| o_alen X0 hx hZ e0 pr0 (y d26_2) <| o_icmpYes j (pc' := 14) (y d26_3) (XT.ii_ne_t (by decide)) <| o_iloadN j (y d26_14) rfl <| k) ?_
  refine nP .byte 4 "[B" X0 hx hZ (w 20 rfl) e0 (y d26_15) (fun T1 h1 a1 kc1 g1 X1 e1 E1 A1 D1 => ?_)
  have Z1 : n0 ≤ h1.size := Nat.le_trans Z0 E1.1
  have G1 : n0 ≤ a1 := Nat.le_trans Z0 (Nat.le_of_eq g1.symm)
  have GK1 : h0.size ≤ a1 := Nat.le_trans (Keep.refl h0 []).1 (Nat.le_of_eq g1.symm)
  have P1 := (Keep.refl h0 []).ext E1
  have A2 := (pr0.ext E1)
  have A3 : Arv Z h1 a1 kc1 .byte (4 : Int32) [(.int 0), (.int 0), (.int 0), (.int 0)] (.int 0) := (A1.pad (pad_rep [] _ 4))
  refine og2 X1 hx (fun j _ k => o_astoreN j (y d26_17) rfl (l' := #[.val (.ref ba), .val (.int 4), .val (.ref a1)]) rfl <| o_aloadN j (y d26_18) rfl rfl <| o_iconstV j 0 (y d26_19) rfl <| o_aloadN j (y d26_20) rfl rfl <| o_iconstV j 0 (y d26_21) rfl <| o_aloadN j (y d26_22) rfl rfl <| o_alen X1 hx hZ e1 A2 (y d26_23) <| o_iloadN j (y d26_24) rfl <| k) ?_
  refine cS [(.int 6), (.int 4)] [(.int 0), (.ref a1), (.int 0), (.ref ba)] 4 X1 hx hZ hown (w 136 rfl) (w 137 rfl) (w 138 rfl) (w 139 rfl) (rmMI64 l Z a0 hw [] h1 n0 Z1) e1 hml pd_oIIcI (y d26_25) (fun v4 T4 L4 hQ4 X4 => ?_)
  obtain ⟨rfl, N4a, eh4⟩ := hQ4
  have N4 := Fr.app (Fr.nil n0) N4a
  have e4 : T4.heap = h1 := eh4
  obtain ⟨T5, h5, L5, X5, e5, N5, K5, B5, st5⟩ := cpA X4 hx hZ hown (w 140 rfl) (w 143 rfl) (w 141 rfl) (w 142 rfl) e4 A2 A3 (us := [(.int x0), (.int x1), (.int x2), (.int x3)]) (Or.inl ⟨rfl, rfl⟩) (by decide) (by decide) (by decide) (by decide) (by decide) rfl (by decide) N4 G1 (g := (mkF m 28 #[.val (.ref ba), .val (.int 4), .val (.ref a1)] [(.int 4), (.int 0), (.ref a1), (.int 0), (.ref ba)])) rfl (by rw [hml]; rfl) (rest := []) rfl (y d26_28) (by decide) (W := 0) (by show 2 * 0 + _ ≤ _; exact Nat.le_of_eq rfl) (by decide)
  have P5 : Keep h0 h5 [] := (P1.trans K5 (allS (Or.inr GK1) all0))
  have B5v : Arv Z h5 a1 kc1 .byte (4 : Int32) [(.int x0), (.int x1), (.int x2), (.int x3)] (.int 0) := B5
  refine og st5 ?_
  change OG _ _ _ _ (T5.setTop (mkF m 31 #[.val (.ref ba), .val (.int 4), .val (.ref a1)] []))
  refine og2 X5 hx (fun j _ k => o_aloadN j (y d26_31) rfl rfl <| k) ?_
  exact rA X5 hx Bd rfl rfl rfl (y d26_32) e5 ⟨a1, _, rfl, N5, P5, B5v, GK1⟩

def QMI65 (Z : State)  (h0 : Heap) (n0 : Nat) (v : Option Value) (h : Heap) (L : List Loc) : Prop := v = some (.int 5) ∧ Fr n0 L ∧ h = h0
theorem rmMI65 (l : Launch) (Z : State) (a0 : Array Value) (hw : HW a0 Z) (ws : List Jvm.Cond)  (h0 : Heap) (n0 : Nat) (Z0 : n0 ≤ h0.size) :
    MF l Z ⟨"java/lang/Math", "min", "(II)I"⟩ jdk_29_method_69_code 2 (some .int) ws R_0_0_0_0 #[(.int 6), (.int 5)] h0 (QMI65 Z  h0 n0) := by
  refine og_start (by decide +kernel) fun p e s m below meth c s₁ Bd hx hby hml hZ hown hnm X0 e0 => ?_
  have y := @hb _ _ hby
  refine og (fun t k => castTop (ef0 m (6 : Int32) (5 : Int32)) k) ?_
  refine og2 X0 hx (fun j _ k => o_iloadN j (y d27_0) rfl <| o_iloadN j (y d27_1) rfl <| o_icmpYes j (pc' := 9) (y d27_2) (XT.ii_gt_t (by decide)) <| o_iloadN j (y d27_9) rfl <| k) ?_
  exact rI X0 hx Bd (y d27_10) e0 ⟨rfl, (Fr.nil n0), rfl⟩

abbrev R_1_1_5_18 : Room := ({ frames := 1, cells := 1, slots := 5, locals := 18 } : Room)
def QAC65 (Z : State) (ba : Addr) (bk : ClassId) (x0 : Int32) (x1 : Int32) (x2 : Int32) (x3 : Int32) (x4 : Int32) (x5 : Int32) (h0 : Heap) (n0 : Nat) (v : Option Value) (h : Heap) (L : List Loc) : Prop := ∃ r : Addr, ∃ rk : ClassId, v = some (.ref r) ∧ Fr n0 L ∧ Keep h0 h [] ∧ Arv Z h r rk .byte (5 : Int32) [(.int x0), (.int x1), (.int x2), (.int x3), (.int x4)] (.int 0) ∧ h0.size ≤ r
theorem rmAC65 (l : Launch) (Z : State) (a0 : Array Value) (hw : HW a0 Z) (ws : List Jvm.Cond) (ba : Addr) (bk : ClassId) (x0 : Int32) (x1 : Int32) (x2 : Int32) (x3 : Int32) (x4 : Int32) (x5 : Int32) (h0 : Heap) (n0 : Nat) (Z0 : n0 ≤ h0.size) (pr0 : Arv Z h0 ba bk .byte (6 : Int32) [(.int x0), (.int x1), (.int x2), (.int x3), (.int x4), (.int x5)] (.int 0)) :
    MF l Z ⟨"java/util/Arrays", "copyOf", "([BI)[B"⟩ jdk_65_method_121_code 3 (some (.array .byte)) ws R_1_1_5_18 #[(.ref ba), (.int 5)] h0 (QAC65 Z ba bk x0 x1 x2 x3 x4 x5 h0 n0) := by
  refine og_start (plainFor_of_name pn_java_util_Arrays) fun p e s m below meth c s₁ Bd hx hby hml hZ hown hnm X0 e0 => ?_
  have y := @hb _ _ hby
  have w := @wd _ _ hw
  refine og (fun t k => castTop (ef10 m ba (5 : Int32)) k) ?_
  refine og2 X0 hx (fun j _ k => o_iloadN j (y d26_0) rfl <| o_aloadN j (y d26_1) rfl rfl <| o_alen X0 hx hZ e0 pr0 (y d26_2) <| o_icmpYes j (pc' := 14) (y d26_3) (XT.ii_ne_t (by decide)) <| o_iloadN j (y d26_14) rfl <| k) ?_
  refine nP .byte 5 "[B" X0 hx hZ (w 20 rfl) e0 (y d26_15) (fun T1 h1 a1 kc1 g1 X1 e1 E1 A1 D1 => ?_)
  have Z1 : n0 ≤ h1.size := Nat.le_trans Z0 E1.1
  have G1 : n0 ≤ a1 := Nat.le_trans Z0 (Nat.le_of_eq g1.symm)
  have GK1 : h0.size ≤ a1 := Nat.le_trans (Keep.refl h0 []).1 (Nat.le_of_eq g1.symm)
  have P1 := (Keep.refl h0 []).ext E1
  have A2 := (pr0.ext E1)
  have A3 : Arv Z h1 a1 kc1 .byte (5 : Int32) [(.int 0), (.int 0), (.int 0), (.int 0), (.int 0)] (.int 0) := (A1.pad (pad_rep [] _ 5))
  refine og2 X1 hx (fun j _ k => o_astoreN j (y d26_17) rfl (l' := #[.val (.ref ba), .val (.int 5), .val (.ref a1)]) rfl <| o_aloadN j (y d26_18) rfl rfl <| o_iconstV j 0 (y d26_19) rfl <| o_aloadN j (y d26_20) rfl rfl <| o_iconstV j 0 (y d26_21) rfl <| o_aloadN j (y d26_22) rfl rfl <| o_alen X1 hx hZ e1 A2 (y d26_23) <| o_iloadN j (y d26_24) rfl <| k) ?_
  refine cS [(.int 6), (.int 5)] [(.int 0), (.ref a1), (.int 0), (.ref ba)] 4 X1 hx hZ hown (w 136 rfl) (w 137 rfl) (w 138 rfl) (w 139 rfl) (rmMI65 l Z a0 hw [] h1 n0 Z1) e1 hml pd_oIIcI (y d26_25) (fun v4 T4 L4 hQ4 X4 => ?_)
  obtain ⟨rfl, N4a, eh4⟩ := hQ4
  have N4 := Fr.app (Fr.nil n0) N4a
  have e4 : T4.heap = h1 := eh4
  obtain ⟨T5, h5, L5, X5, e5, N5, K5, B5, st5⟩ := cpA X4 hx hZ hown (w 140 rfl) (w 143 rfl) (w 141 rfl) (w 142 rfl) e4 A2 A3 (us := [(.int x0), (.int x1), (.int x2), (.int x3), (.int x4)]) (Or.inl ⟨rfl, rfl⟩) (by decide) (by decide) (by decide) (by decide) (by decide) rfl (by decide) N4 G1 (g := (mkF m 28 #[.val (.ref ba), .val (.int 5), .val (.ref a1)] [(.int 5), (.int 0), (.ref a1), (.int 0), (.ref ba)])) rfl (by rw [hml]; rfl) (rest := []) rfl (y d26_28) (by decide) (W := 0) (by show 2 * 0 + _ ≤ _; exact Nat.le_of_eq rfl) (by decide)
  have P5 : Keep h0 h5 [] := (P1.trans K5 (allS (Or.inr GK1) all0))
  have B5v : Arv Z h5 a1 kc1 .byte (5 : Int32) [(.int x0), (.int x1), (.int x2), (.int x3), (.int x4)] (.int 0) := B5
  refine og st5 ?_
  change OG _ _ _ _ (T5.setTop (mkF m 31 #[.val (.ref ba), .val (.int 5), .val (.ref a1)] []))
  refine og2 X5 hx (fun j _ k => o_aloadN j (y d26_31) rfl rfl <| k) ?_
  exact rA X5 hx Bd rfl rfl rfl (y d26_32) e5 ⟨a1, _, rfl, N5, P5, B5v, GK1⟩

theorem own_t16 {c : Int32} (h : OCh c) : c < 65536 := by rw [Int32.lt_iff_toInt_lt, show (65536 : Int32).toInt = 65536 from rfl]; exact h.2
theorem own_cp_ge {c0 c1 : Int32} (h1 : ¬ c0 < 55296 ∧ ¬ (56319 : Int32) < c0) (h3 : ¬ c1 < 56320 ∧ ¬ (57343 : Int32) < c1) : ¬ own_cp c0 c1 < 65536 := by
  rw [Int32.lt_iff_toInt_lt, show (65536 : Int32).toInt = 65536 from rfl]
  have := own_cp_rng h1.1 h1.2 h3.1 h3.2
  omega
theorem own_cp_pos {c0 c1 : Int32} (h1 : ¬ c0 < 55296 ∧ ¬ (56319 : Int32) < c0) (h3 : ¬ c1 < 56320 ∧ ¬ (57343 : Int32) < c1) : ¬ own_cp c0 c1 < 0 := by
  rw [Int32.lt_iff_toInt_lt, show (0 : Int32).toInt = 0 from rfl]
  have := own_cp_rng h1.1 h1.2 h3.1 h3.2
  omega
theorem own_np0 {c0 c1 : Int32} (h : c0 < 128) : own_enc2 c0 c1 = own_put c0 ++ own_put c1 := own_enc2_n (Or.inl (by rw [Int32.lt_iff_toInt_lt] at *; rw [show (55296 : Int32).toInt = 55296 from rfl]; rw [show (128 : Int32).toInt = 128 from rfl] at h; omega))
theorem own_np1 {c0 c1 : Int32} (h : c0 < 2048) : own_enc2 c0 c1 = own_put c0 ++ own_put c1 := own_enc2_n (Or.inl (by rw [Int32.lt_iff_toInt_lt] at *; rw [show (55296 : Int32).toInt = 55296 from rfl]; rw [show (2048 : Int32).toInt = 2048 from rfl] at h; omega))
theorem own_np2 {c0 c1 : Int32} (h : own_sur c0 = 0) : own_enc2 c0 c1 = own_put c0 ++ own_put c1 := own_enc2_n ((own_sur0 h).imp id fun q => Or.inl (by rw [Int32.lt_iff_toInt_lt] at *; rw [show (56319 : Int32).toInt = 56319 from rfl]; rw [show (57343 : Int32).toInt = 57343 from rfl] at q; omega))
theorem own_np3 {c0 c1 : Int32} (h : own_high c0 = 0) : own_enc2 c0 c1 = own_put c0 ++ own_put c1 := own_enc2_n ((own_high0 h).imp id Or.inl)
theorem own_np4 {c0 c1 : Int32} (h : own_low c1 = 0) : own_enc2 c0 c1 = own_put c0 ++ own_put c1 := own_enc2_n (Or.inr (Or.inr (own_low0 h)))

abbrev R_2_2_5_32 : Room := ({ frames := 2, cells := 2, slots := 5, locals := 32 } : Room)
abbrev k10 := jdk_42_method_47_code
theorem d22_0 : decode k10 0 = .ok (.iconst 0, 1) := by decide +kernel
theorem d22_1 : decode k10 1 = .ok (.istore_n 2, 1) := by decide +kernel
theorem d22_2 : decode k10 2 = .ok (.iconst 0, 1) := by decide +kernel
theorem d22_3 : decode k10 3 = .ok (.istore_n 3, 1) := by decide +kernel
theorem d22_4 : decode k10 4 = .ok (.aload_n 0, 1) := by decide +kernel
theorem d22_5 : decode k10 5 = .ok (.arraylength, 1) := by decide +kernel
theorem d22_6 : decode k10 6 = .ok (.iconst 1, 1) := by decide +kernel
theorem d22_7 : decode k10 7 = .ok (.ishr, 1) := by decide +kernel
theorem d22_8 : decode k10 8 = .ok (.istore 4, 2) := by decide +kernel
theorem d22_10 : decode k10 10 = .ok (.iload 4, 2) := by decide +kernel
theorem d22_12 : decode k10 12 = .ok (.iconst 3, 1) := by decide +kernel
theorem d22_13 : decode k10 13 = .ok (.imul, 1) := by decide +kernel
theorem d22_14 : decode k10 14 = .ok (.newarray .byte, 2) := by decide +kernel
theorem d22_16 : decode k10 16 = .ok (.astore 5, 2) := by decide +kernel
theorem d22_18 : decode k10 18 = .ok (.iload_n 3, 1) := by decide +kernel
theorem d22_19 : decode k10 19 = .ok (.iload 4, 2) := by decide +kernel
theorem d22_21 : decode k10 21 = .ok (.if_icmp .ge 37, 3) := by decide +kernel
theorem d22_24 : decode k10 24 = .ok (.aload_n 0, 1) := by decide +kernel
theorem d22_25 : decode k10 25 = .ok (.iload_n 3, 1) := by decide +kernel
theorem d22_26 : decode k10 26 = .ok (.invokestatic 360, 3) := by decide +kernel
theorem d22_29 : decode k10 29 = .ok (.istore 6, 2) := by decide +kernel
theorem d22_31 : decode k10 31 = .ok (.iload 6, 2) := by decide +kernel
theorem d22_33 : decode k10 33 = .ok (.sipush 128, 3) := by decide +kernel
theorem d22_36 : decode k10 36 = .ok (.if_icmp .lt 6, 3) := by decide +kernel
theorem d22_39 : decode k10 39 = .ok (.goto 19, 3) := by decide +kernel
theorem d22_42 : decode k10 42 = .ok (.aload 5, 2) := by decide +kernel
theorem d22_44 : decode k10 44 = .ok (.iload_n 2, 1) := by decide +kernel
theorem d22_45 : decode k10 45 = .ok (.iinc 2 1, 3) := by decide +kernel
theorem d22_48 : decode k10 48 = .ok (.iload 6, 2) := by decide +kernel
theorem d22_50 : decode k10 50 = .ok (.i2b, 1) := by decide +kernel
theorem d22_51 : decode k10 51 = .ok (.bastore, 1) := by decide +kernel
theorem d22_52 : decode k10 52 = .ok (.iinc 3 1, 3) := by decide +kernel
theorem d22_55 : decode k10 55 = .ok (.goto (-37), 3) := by decide +kernel
theorem d22_58 : decode k10 58 = .ok (.iload_n 3, 1) := by decide +kernel
theorem d22_59 : decode k10 59 = .ok (.iload 4, 2) := by decide +kernel
theorem d22_61 : decode k10 61 = .ok (.if_icmp .ge 294, 3) := by decide +kernel
theorem d22_64 : decode k10 64 = .ok (.aload_n 0, 1) := by decide +kernel
theorem d22_65 : decode k10 65 = .ok (.iload_n 3, 1) := by decide +kernel
theorem d22_66 : decode k10 66 = .ok (.iinc 3 1, 3) := by decide +kernel
theorem d22_69 : decode k10 69 = .ok (.invokestatic 360, 3) := by decide +kernel
theorem d22_72 : decode k10 72 = .ok (.istore 6, 2) := by decide +kernel
theorem d22_74 : decode k10 74 = .ok (.iload 6, 2) := by decide +kernel
theorem d22_76 : decode k10 76 = .ok (.sipush 128, 3) := by decide +kernel
theorem d22_79 : decode k10 79 = .ok (.if_icmp .ge 16, 3) := by decide +kernel
theorem d22_95 : decode k10 95 = .ok (.iload 6, 2) := by decide +kernel
theorem d22_97 : decode k10 97 = .ok (.sipush 2048, 3) := by decide +kernel
theorem d22_100 : decode k10 100 = .ok (.if_icmp .ge 40, 3) := by decide +kernel
theorem d22_103 : decode k10 103 = .ok (.aload 5, 2) := by decide +kernel
theorem d22_105 : decode k10 105 = .ok (.iload_n 2, 1) := by decide +kernel
theorem d22_106 : decode k10 106 = .ok (.iinc 2 1, 3) := by decide +kernel
theorem d22_109 : decode k10 109 = .ok (.sipush 192, 3) := by decide +kernel
theorem d22_112 : decode k10 112 = .ok (.iload 6, 2) := by decide +kernel
theorem d22_114 : decode k10 114 = .ok (.bipush 6, 2) := by decide +kernel
theorem d22_116 : decode k10 116 = .ok (.ishr, 1) := by decide +kernel
theorem d22_117 : decode k10 117 = .ok (.ior, 1) := by decide +kernel
theorem d22_118 : decode k10 118 = .ok (.i2b, 1) := by decide +kernel
theorem d22_119 : decode k10 119 = .ok (.bastore, 1) := by decide +kernel
theorem d22_120 : decode k10 120 = .ok (.aload 5, 2) := by decide +kernel
theorem d22_122 : decode k10 122 = .ok (.iload_n 2, 1) := by decide +kernel
theorem d22_123 : decode k10 123 = .ok (.iinc 2 1, 3) := by decide +kernel
theorem d22_126 : decode k10 126 = .ok (.sipush 128, 3) := by decide +kernel
theorem d22_129 : decode k10 129 = .ok (.iload 6, 2) := by decide +kernel
theorem d22_131 : decode k10 131 = .ok (.bipush 63, 2) := by decide +kernel
theorem d22_133 : decode k10 133 = .ok (.iand, 1) := by decide +kernel
theorem d22_134 : decode k10 134 = .ok (.ior, 1) := by decide +kernel
theorem d22_135 : decode k10 135 = .ok (.i2b, 1) := by decide +kernel
theorem d22_136 : decode k10 136 = .ok (.bastore, 1) := by decide +kernel
theorem d22_137 : decode k10 137 = .ok (.goto 215, 3) := by decide +kernel
theorem d22_140 : decode k10 140 = .ok (.iload 6, 2) := by decide +kernel
theorem d22_142 : decode k10 142 = .ok (.invokestatic 404, 3) := by decide +kernel
theorem d22_145 : decode k10 145 = .ok (.ifCond .eq 153, 3) := by decide +kernel
theorem d22_148 : decode k10 148 = .ok (.iconst (-1), 1) := by decide +kernel
theorem d22_149 : decode k10 149 = .ok (.istore 7, 2) := by decide +kernel
theorem d22_151 : decode k10 151 = .ok (.iload 6, 2) := by decide +kernel
theorem d22_153 : decode k10 153 = .ok (.invokestatic 364, 3) := by decide +kernel
theorem d22_156 : decode k10 156 = .ok (.ifCond .eq 32, 3) := by decide +kernel
theorem d22_159 : decode k10 159 = .ok (.iload_n 3, 1) := by decide +kernel
theorem d22_160 : decode k10 160 = .ok (.iload 4, 2) := by decide +kernel
theorem d22_162 : decode k10 162 = .ok (.if_icmp .ge 26, 3) := by decide +kernel
theorem d22_188 : decode k10 188 = .ok (.iload 7, 2) := by decide +kernel
theorem d22_190 : decode k10 190 = .ok (.ifCond .ge 28, 3) := by decide +kernel
theorem d22_193 : decode k10 193 = .ok (.iload_n 1, 1) := by decide +kernel
theorem d22_194 : decode k10 194 = .ok (.ifCond .eq 15, 3) := by decide +kernel
theorem d22_197 : decode k10 197 = .ok (.aload 5, 2) := by decide +kernel
theorem d22_199 : decode k10 199 = .ok (.iload_n 2, 1) := by decide +kernel
theorem d22_200 : decode k10 200 = .ok (.iinc 2 1, 3) := by decide +kernel
theorem d22_203 : decode k10 203 = .ok (.bipush 63, 2) := by decide +kernel
theorem d22_205 : decode k10 205 = .ok (.bastore, 1) := by decide +kernel
theorem d22_206 : decode k10 206 = .ok (.goto 89, 3) := by decide +kernel
theorem d22_295 : decode k10 295 = .ok (.goto 57, 3) := by decide +kernel
theorem d22_298 : decode k10 298 = .ok (.aload 5, 2) := by decide +kernel
theorem d22_300 : decode k10 300 = .ok (.iload_n 2, 1) := by decide +kernel
theorem d22_301 : decode k10 301 = .ok (.iinc 2 1, 3) := by decide +kernel
theorem d22_304 : decode k10 304 = .ok (.sipush 224, 3) := by decide +kernel
theorem d22_307 : decode k10 307 = .ok (.iload 6, 2) := by decide +kernel
theorem d22_309 : decode k10 309 = .ok (.bipush 12, 2) := by decide +kernel
theorem d22_311 : decode k10 311 = .ok (.ishr, 1) := by decide +kernel
theorem d22_312 : decode k10 312 = .ok (.ior, 1) := by decide +kernel
theorem d22_313 : decode k10 313 = .ok (.i2b, 1) := by decide +kernel
theorem d22_314 : decode k10 314 = .ok (.bastore, 1) := by decide +kernel
theorem d22_315 : decode k10 315 = .ok (.aload 5, 2) := by decide +kernel
theorem d22_317 : decode k10 317 = .ok (.iload_n 2, 1) := by decide +kernel
theorem d22_318 : decode k10 318 = .ok (.iinc 2 1, 3) := by decide +kernel
theorem d22_321 : decode k10 321 = .ok (.sipush 128, 3) := by decide +kernel
theorem d22_324 : decode k10 324 = .ok (.iload 6, 2) := by decide +kernel
theorem d22_326 : decode k10 326 = .ok (.bipush 6, 2) := by decide +kernel
theorem d22_328 : decode k10 328 = .ok (.ishr, 1) := by decide +kernel
theorem d22_329 : decode k10 329 = .ok (.bipush 63, 2) := by decide +kernel
theorem d22_331 : decode k10 331 = .ok (.iand, 1) := by decide +kernel
theorem d22_332 : decode k10 332 = .ok (.ior, 1) := by decide +kernel
theorem d22_333 : decode k10 333 = .ok (.i2b, 1) := by decide +kernel
theorem d22_334 : decode k10 334 = .ok (.bastore, 1) := by decide +kernel
theorem d22_335 : decode k10 335 = .ok (.aload 5, 2) := by decide +kernel
theorem d22_337 : decode k10 337 = .ok (.iload_n 2, 1) := by decide +kernel
theorem d22_338 : decode k10 338 = .ok (.iinc 2 1, 3) := by decide +kernel
theorem d22_341 : decode k10 341 = .ok (.sipush 128, 3) := by decide +kernel
theorem d22_344 : decode k10 344 = .ok (.iload 6, 2) := by decide +kernel
theorem d22_346 : decode k10 346 = .ok (.bipush 63, 2) := by decide +kernel
theorem d22_348 : decode k10 348 = .ok (.iand, 1) := by decide +kernel
theorem d22_349 : decode k10 349 = .ok (.ior, 1) := by decide +kernel
theorem d22_350 : decode k10 350 = .ok (.i2b, 1) := by decide +kernel
theorem d22_351 : decode k10 351 = .ok (.bastore, 1) := by decide +kernel
theorem d22_352 : decode k10 352 = .ok (.goto (-294), 3) := by decide +kernel
theorem d22_355 : decode k10 355 = .ok (.iload_n 2, 1) := by decide +kernel
theorem d22_356 : decode k10 356 = .ok (.aload 5, 2) := by decide +kernel
theorem d22_358 : decode k10 358 = .ok (.arraylength, 1) := by decide +kernel
theorem d22_359 : decode k10 359 = .ok (.if_icmp .ne 6, 3) := by decide +kernel
theorem d22_362 : decode k10 362 = .ok (.aload 5, 2) := by decide +kernel
theorem d22_364 : decode k10 364 = .ok (.areturn, 1) := by decide +kernel
theorem d22_365 : decode k10 365 = .ok (.aload 5, 2) := by decide +kernel
theorem d22_367 : decode k10 367 = .ok (.iload_n 2, 1) := by decide +kernel
theorem d22_368 : decode k10 368 = .ok (.invokestatic 102, 3) := by decide +kernel
theorem d22_371 : decode k10 371 = .ok (.areturn, 1) := by decide +kernel
theorem pd_oaBIcaB : parseMethodDescriptor "([BI)[B" = some ⟨[(.array .byte), .int], some (.array .byte)⟩ := by decide +kernel
theorem pd_oCcZ : parseMethodDescriptor "(C)Z" = some ⟨[.char], some .boolean⟩ := by decide +kernel
theorem ef11 (m : MethodId) (x0 : Addr) (x1 : Int32) : entryFrame m #[(.ref x0), (.int x1)] 9 = (mkF m 0 #[.val (.ref x0), .val (.int x1), .unset, .unset, .unset, .unset, .unset, .unset, .unset] []) := by first | (simp [entryFrame, mkF, argsToLocals, Value.category]; done) | rfl
def QEU1 (Z : State) (cs : Int32) (u8 : Addr) (ba : Addr) (bk : ClassId) (c0 : Int32) (h0 : Heap) (n0 : Nat) (v : Option Value) (h : Heap) (L : List Loc) : Prop := ∃ r : Addr, ∃ rk : ClassId, v = some (.ref r) ∧ Fr n0 L ∧ Keep h0 h [] ∧ Arv Z h r rk .byte (own_ln (own_put c0)) (own_vs (own_put c0)) (.int 0) ∧ h0.size ≤ r
theorem rmEU1 (l : Launch) (Z : State) (a0 : Array Value) (hw : HW a0 Z) (ws : List Jvm.Cond) (cs : Int32) (u8 : Addr) (ba : Addr) (bk : ClassId) (c0 : Int32) (h0 : Heap) (n0 : Nat) (Z0 : n0 ≤ h0.size) (H0 : OSt Z cs u8) (pr1 : Old Z n0 h0) (pr2 : Arv Z h0 ba bk .byte (2 : Int32) [(.int (own_lo c0)), (.int (own_hi c0))] (.int 0)) (H3 : OCh c0) :
    MF l Z ⟨"java/lang/String", "encodeUTF8_UTF16", "([BZ)[B"⟩ jdk_42_method_47_code 9 (some (.array .byte)) ws R_2_2_5_32 #[(.ref ba), (.int 1)] h0 (QEU1 Z cs u8 ba bk c0 h0 n0) := by
  refine og_start (plainFor_of_name pn_java_lang_String) fun p e s m below meth c s₁ Bd hx hby hml hZ hown hnm X0 e0 => ?_
  have y := @hb _ _ hby
  have w := @wd _ _ hw
  refine og (fun t k => castTop (ef11 m ba (1 : Int32)) k) ?_
  refine og2 X0 hx (fun j _ k => o_iconstV j 0 (y d22_0) rfl <| o_istoreN j (y d22_1) (l' := #[.val (.ref ba), .val (.int 1), .val (.int 0), .unset, .unset, .unset, .unset, .unset, .unset]) rfl <| o_iconstV j 0 (y d22_2) rfl <| o_istoreN j (y d22_3) (l' := #[.val (.ref ba), .val (.int 1), .val (.int 0), .val (.int 0), .unset, .unset, .unset, .unset, .unset]) rfl <| o_aloadN j (y d22_4) rfl rfl <| o_alen X0 hx hZ e0 pr2 (y d22_5) <| o_iconstV j 1 (y d22_6) rfl <| o_ishr j (y d22_7) <| k) ?_
  rw [(by decide : (2 : Int32) >>> ((1 : Int32) &&& 31) = (1 : Int32))]
  refine og2 X0 hx (fun j _ k => o_istore j (y d22_8) (l' := #[.val (.ref ba), .val (.int 1), .val (.int 0), .val (.int 0), .val (.int 1), .unset, .unset, .unset, .unset]) rfl <| o_iload j (y d22_10) rfl <| o_iconstV j 3 (y d22_12) rfl <| o_imul j (y d22_13) <| k) ?_
  rw [(by decide : (1 : Int32) * (3 : Int32) = (3 : Int32))]
  refine nP .byte 3 "[B" X0 hx hZ (w 20 rfl) e0 (y d22_14) (fun T1 h1 a1 kc1 g1 X1 e1 E1 A1 D1 => ?_)
  have Z1 : n0 ≤ h1.size := Nat.le_trans Z0 E1.1
  have G1 : n0 ≤ a1 := Nat.le_trans Z0 (Nat.le_of_eq g1.symm)
  have GK1 : h0.size ≤ a1 := Nat.le_trans (Keep.refl h0 []).1 (Nat.le_of_eq g1.symm)
  have P1 := (Keep.refl h0 []).ext E1
  have O2 := (pr1.ext E1)
  have A3 := (pr2.ext E1)
  have A4 : Arv Z h1 a1 kc1 .byte (3 : Int32) [(.int 0), (.int 0), (.int 0)] (.int 0) := (A1.pad (pad_rep [] _ 3))
  refine og2 X1 hx (fun j _ k => o_astore j (y d22_16) rfl (l' := #[.val (.ref ba), .val (.int 1), .val (.int 0), .val (.int 0), .val (.int 1), .val (.ref a1), .unset, .unset, .unset]) rfl <| o_iloadN j (y d22_18) rfl <| o_iload j (y d22_19) rfl <| o_icmpNo j (y d22_21) (XT.ii_ge_f (by decide)) <| o_aloadN j (y d22_24) rfl rfl <| o_iloadN j (y d22_25) rfl <| k) ?_
  refine cS [(.ref ba), (.int 0)] [] 0 X1 hx hZ hown (w 118 rfl) (w 110 rfl) (w 88 rfl) (w 111 rfl) (rmGC10 l Z a0 hw [] cs u8 ba bk c0 h1 n0 Z1 H0 O2 A3 H3) e1 hml pd_oaBIcC (y d22_26) (fun v5 T5 L5 hQ5 X5 => ?_)
  obtain ⟨rfl, N5a, eh5⟩ := hQ5
  have N5 := Fr.app (Fr.nil n0) N5a
  have e5 : T5.heap = h1 := eh5
  refine og2 X5 hx (fun j _ k => o_istore j (y d22_29) (l' := #[.val (.ref ba), .val (.int 1), .val (.int 0), .val (.int 0), .val (.int 1), .val (.ref a1), .val (.int c0), .unset, .unset]) rfl <| o_iload j (y d22_31) rfl <| o_sipushV j 128 (y d22_33) rfl <| k) ?_
  by_cases C6 : c0 < (128 : Int32)
  · refine og2 X5 hx (fun j _ k => o_icmpYes j (pc' := 42) (y d22_36) (XT.ii_lt_t C6) <| o_aload j (y d22_42) rfl rfl <| o_iloadN j (y d22_44) rfl <| o_iincL j 1 (y d22_45) rfl (1 : Int32) (by decide) rfl (l' := #[.val (.ref ba), .val (.int 1), .val (.int 1), .val (.int 0), .val (.int 1), .val (.ref a1), .val (.int c0), .unset, .unset]) rfl <| o_iload j (y d22_48) rfl <| o_i2bO j (y d22_50) <| k) ?_
    refine sB (v := own_b c0) 0 X5 hx hZ e5 A4 (own_nar_b _) (y d22_51) (fun T7 h7 X7 e7 W7 A7 => ?_)
    have N7 := Fr.snoc X7 N5 G1
    have P7 := P1.wr W7 (Or.inr GK1)
    have Z7 : n0 ≤ h7.size := (by rw [W7.size]; exact Z1)
    have A9 := (A3.other W7 (Nat.ne_of_lt (Nat.lt_of_lt_of_eq pr2.lt g1.symm)))
    have A7v : Arv Z h7 a1 kc1 .byte (3 : Int32) [(.int (own_b c0)), (.int 0), (.int 0)] (.int 0) := A7
    refine og2 X7 hx (fun j _ k => o_iincL j 1 (y d22_52) rfl (1 : Int32) (by decide) rfl (l' := #[.val (.ref ba), .val (.int 1), .val (.int 1), .val (.int 1), .val (.int 1), .val (.ref a1), .val (.int c0), .unset, .unset]) rfl <| o_goto j (pc' := 18) (y d22_55) <| o_iloadN j (y d22_18) rfl <| o_iload j (y d22_19) rfl <| o_icmpYes j (pc' := 58) (y d22_21) (XT.ii_ge_t (by decide)) <| o_iloadN j (y d22_58) rfl <| o_iload j (y d22_59) rfl <| o_icmpYes j (pc' := 355) (y d22_61) (XT.ii_ge_t (by decide)) <| o_iloadN j (y d22_355) rfl <| o_aload j (y d22_356) rfl rfl <| o_alen X7 hx hZ e7 A7v (y d22_358) <| o_icmpYes j (pc' := 365) (y d22_359) (XT.ii_ne_t (by decide)) <| o_aload j (y d22_365) rfl rfl <| o_iloadN j (y d22_367) rfl <| k) ?_
    refine cS [(.ref a1), (.int 1)] [] 0 X7 hx hZ hown (w 132 rfl) (w 133 rfl) (w 134 rfl) (w 135 rfl) (rmAC31 l Z a0 hw [] a1 kc1 (own_b c0) (0 : Int32) (0 : Int32) h7 n0 Z7 A7v) e7 hml pd_oaBIcaB (y d22_368) (fun v10 T10 L10 hQ10 X10 => ?_)
    obtain ⟨r_10, rk_10, rfl, N10a, K10, Q10_0, Q10_1⟩ := hQ10
    have N10 := Fr.app N7 N10a
    have e10 : T10.heap = T10.heap := rfl
    have P10 : Keep h0 T10.heap [] := (P7.trans K10 all0)
    have GK10_r : h0.size ≤ r_10 := Nat.le_trans P7.1 Q10_1
    have ne10_ba_r : ba ≠ r_10 := Nat.ne_of_lt (Nat.lt_of_lt_of_le A9.lt Q10_1)
    have ne10_a1_r : a1 ≠ r_10 := Nat.ne_of_lt (Nat.lt_of_lt_of_le A7v.lt Q10_1)
    exact rA X10 hx Bd rfl rfl rfl (y d22_371) e10 ⟨r_10, rk_10, rfl, N10, P10, (by rw [(own_put1 C6)]; exact Q10_0), GK10_r⟩
  · refine og2 X5 hx (fun j _ k => o_icmpNo j (y d22_36) (XT.ii_lt_f C6) <| o_goto j (pc' := 58) (y d22_39) <| o_iloadN j (y d22_58) rfl <| o_iload j (y d22_59) rfl <| o_icmpNo j (y d22_61) (XT.ii_ge_f (by decide)) <| o_aloadN j (y d22_64) rfl rfl <| o_iloadN j (y d22_65) rfl <| o_iincL j 1 (y d22_66) rfl (1 : Int32) (by decide) rfl (l' := #[.val (.ref ba), .val (.int 1), .val (.int 0), .val (.int 1), .val (.int 1), .val (.ref a1), .val (.int c0), .unset, .unset]) rfl <| k) ?_
    refine cS [(.ref ba), (.int 0)] [] 0 X5 hx hZ hown (w 118 rfl) (w 110 rfl) (w 88 rfl) (w 111 rfl) (rmGC10 l Z a0 hw [] cs u8 ba bk c0 h1 n0 Z1 H0 O2 A3 H3) e5 hml pd_oaBIcC (y d22_69) (fun v14 T14 L14 hQ14 X14 => ?_)
    obtain ⟨rfl, N14a, eh14⟩ := hQ14
    have N14 := Fr.app N5 N14a
    have e14 : T14.heap = h1 := eh14
    refine og2 X14 hx (fun j _ k => o_istore j (y d22_72) (l' := #[.val (.ref ba), .val (.int 1), .val (.int 0), .val (.int 1), .val (.int 1), .val (.ref a1), .val (.int c0), .unset, .unset]) rfl <| o_iload j (y d22_74) rfl <| o_sipushV j 128 (y d22_76) rfl <| o_icmpYes j (pc' := 95) (y d22_79) (XT.ii_ge_t C6) <| o_iload j (y d22_95) rfl <| o_sipushV j 2048 (y d22_97) rfl <| k) ?_
    by_cases C15 : c0 < (2048 : Int32)
    · refine og2 X14 hx (fun j _ k => o_icmpNo j (y d22_100) (XT.ii_ge_f C15) <| o_aload j (y d22_103) rfl rfl <| o_iloadN j (y d22_105) rfl <| o_iincL j 1 (y d22_106) rfl (1 : Int32) (by decide) rfl (l' := #[.val (.ref ba), .val (.int 1), .val (.int 1), .val (.int 1), .val (.int 1), .val (.ref a1), .val (.int c0), .unset, .unset]) rfl <| o_sipushV j 192 (y d22_109) rfl <| o_iload j (y d22_112) rfl <| o_bipushV j 6 (y d22_114) rfl <| o_ishr j (y d22_116) <| o_ior j (y d22_117) <| o_i2bO j (y d22_118) <| k) ?_
      refine sB (v := own_b ((192 : Int32) ||| (c0 >>> ((6 : Int32) &&& 31)))) 0 X14 hx hZ e14 A4 (own_nar_b _) (y d22_119) (fun T16 h16 X16 e16 W16 A16 => ?_)
      have N16 := Fr.snoc X16 N14 G1
      have P16 := P1.wr W16 (Or.inr GK1)
      have Z16 : n0 ≤ h16.size := (by rw [W16.size]; exact Z1)
      have A18 := (A3.other W16 (Nat.ne_of_lt (Nat.lt_of_lt_of_eq pr2.lt g1.symm)))
      have A16v : Arv Z h16 a1 kc1 .byte (3 : Int32) [(.int (own_b ((192 : Int32) ||| (c0 >>> ((6 : Int32) &&& 31))))), (.int 0), (.int 0)] (.int 0) := A16
      refine og2 X16 hx (fun j _ k => o_aload j (y d22_120) rfl rfl <| o_iloadN j (y d22_122) rfl <| o_iincL j 1 (y d22_123) rfl (2 : Int32) (by decide) rfl (l' := #[.val (.ref ba), .val (.int 1), .val (.int 2), .val (.int 1), .val (.int 1), .val (.ref a1), .val (.int c0), .unset, .unset]) rfl <| o_sipushV j 128 (y d22_126) rfl <| o_iload j (y d22_129) rfl <| o_bipushV j 63 (y d22_131) rfl <| o_iand j (y d22_133) <| o_ior j (y d22_134) <| o_i2bO j (y d22_135) <| k) ?_
      refine sB (v := own_b ((128 : Int32) ||| (c0 &&& (63 : Int32)))) 1 X16 hx hZ e16 A16v (own_nar_b _) (y d22_136) (fun T19 h19 X19 e19 W19 A19 => ?_)
      have N19 := Fr.snoc X19 N16 G1
      have P19 := P16.wr W19 (Or.inr GK1)
      have Z19 : n0 ≤ h19.size := (by rw [W19.size]; exact Z16)
      have A21 := (A18.other W19 (Nat.ne_of_lt (Nat.lt_of_lt_of_eq pr2.lt g1.symm)))
      have A19v : Arv Z h19 a1 kc1 .byte (3 : Int32) [(.int (own_b ((192 : Int32) ||| (c0 >>> ((6 : Int32) &&& 31))))), (.int (own_b ((128 : Int32) ||| (c0 &&& (63 : Int32))))), (.int 0)] (.int 0) := A19
      refine og2 X19 hx (fun j _ k => o_goto j (pc' := 352) (y d22_137) <| o_goto j (pc' := 58) (y d22_352) <| o_iloadN j (y d22_58) rfl <| o_iload j (y d22_59) rfl <| o_icmpYes j (pc' := 355) (y d22_61) (XT.ii_ge_t (by decide)) <| o_iloadN j (y d22_355) rfl <| o_aload j (y d22_356) rfl rfl <| o_alen X19 hx hZ e19 A19v (y d22_358) <| o_icmpYes j (pc' := 365) (y d22_359) (XT.ii_ne_t (by decide)) <| o_aload j (y d22_365) rfl rfl <| o_iloadN j (y d22_367) rfl <| k) ?_
      refine cS [(.ref a1), (.int 2)] [] 0 X19 hx hZ hown (w 132 rfl) (w 133 rfl) (w 134 rfl) (w 135 rfl) (rmAC32 l Z a0 hw [] a1 kc1 (own_b ((192 : Int32) ||| (c0 >>> ((6 : Int32) &&& 31)))) (own_b ((128 : Int32) ||| (c0 &&& (63 : Int32)))) (0 : Int32) h19 n0 Z19 A19v) e19 hml pd_oaBIcaB (y d22_368) (fun v22 T22 L22 hQ22 X22 => ?_)
      obtain ⟨r_22, rk_22, rfl, N22a, K22, Q22_0, Q22_1⟩ := hQ22
      have N22 := Fr.app N19 N22a
      have e22 : T22.heap = T22.heap := rfl
      have P22 : Keep h0 T22.heap [] := (P19.trans K22 all0)
      have GK22_r : h0.size ≤ r_22 := Nat.le_trans P19.1 Q22_1
      have ne22_ba_r : ba ≠ r_22 := Nat.ne_of_lt (Nat.lt_of_lt_of_le A21.lt Q22_1)
      have ne22_a1_r : a1 ≠ r_22 := Nat.ne_of_lt (Nat.lt_of_lt_of_le A19v.lt Q22_1)
      exact rA X22 hx Bd rfl rfl rfl (y d22_371) e22 ⟨r_22, rk_22, rfl, N22, P22, (by rw [(own_put2 C6 C15)]; exact Q22_0), GK22_r⟩
    · refine og2 X14 hx (fun j _ k => o_icmpYes j (pc' := 140) (y d22_100) (XT.ii_ge_t C15) <| o_iload j (y d22_140) rfl <| k) ?_
      refine cS [(.int c0)] [] 0 X14 hx hZ hown (w 119 rfl) (w 120 rfl) (w 121 rfl) (w 122 rfl) (rmSU l Z a0 hw [] c0 h1 n0 Z1) e14 hml pd_oCcZ (y d22_142) (fun v26 T26 L26 hQ26 X26 => ?_)
      obtain ⟨rfl, N26a, eh26⟩ := hQ26
      have N26 := Fr.app N14 N26a
      have e26 : T26.heap = h1 := eh26
      by_cases C27 : own_sur c0 = 0
      · refine og2 X26 hx (fun j _ k => o_ifYes j (pc' := 298) (y d22_145) (XT.i0_eq_t C27) <| o_aload j (y d22_298) rfl rfl <| o_iloadN j (y d22_300) rfl <| o_iincL j 1 (y d22_301) rfl (1 : Int32) (by decide) rfl (l' := #[.val (.ref ba), .val (.int 1), .val (.int 1), .val (.int 1), .val (.int 1), .val (.ref a1), .val (.int c0), .unset, .unset]) rfl <| o_sipushV j 224 (y d22_304) rfl <| o_iload j (y d22_307) rfl <| o_bipushV j 12 (y d22_309) rfl <| o_ishr j (y d22_311) <| o_ior j (y d22_312) <| o_i2bO j (y d22_313) <| k) ?_
        refine sB (v := own_b ((224 : Int32) ||| (c0 >>> ((12 : Int32) &&& 31)))) 0 X26 hx hZ e26 A4 (own_nar_b _) (y d22_314) (fun T28 h28 X28 e28 W28 A28 => ?_)
        have N28 := Fr.snoc X28 N26 G1
        have P28 := P1.wr W28 (Or.inr GK1)
        have A28v : Arv Z h28 a1 kc1 .byte (3 : Int32) [(.int (own_b ((224 : Int32) ||| (c0 >>> ((12 : Int32) &&& 31))))), (.int 0), (.int 0)] (.int 0) := A28
        refine og2 X28 hx (fun j _ k => o_aload j (y d22_315) rfl rfl <| o_iloadN j (y d22_317) rfl <| o_iincL j 1 (y d22_318) rfl (2 : Int32) (by decide) rfl (l' := #[.val (.ref ba), .val (.int 1), .val (.int 2), .val (.int 1), .val (.int 1), .val (.ref a1), .val (.int c0), .unset, .unset]) rfl <| o_sipushV j 128 (y d22_321) rfl <| o_iload j (y d22_324) rfl <| o_bipushV j 6 (y d22_326) rfl <| o_ishr j (y d22_328) <| o_bipushV j 63 (y d22_329) rfl <| o_iand j (y d22_331) <| o_ior j (y d22_332) <| o_i2bO j (y d22_333) <| k) ?_
        refine sB (v := own_b ((128 : Int32) ||| ((c0 >>> ((6 : Int32) &&& 31)) &&& (63 : Int32)))) 1 X28 hx hZ e28 A28v (own_nar_b _) (y d22_334) (fun T31 h31 X31 e31 W31 A31 => ?_)
        have N31 := Fr.snoc X31 N28 G1
        have P31 := P28.wr W31 (Or.inr GK1)
        have A31v : Arv Z h31 a1 kc1 .byte (3 : Int32) [(.int (own_b ((224 : Int32) ||| (c0 >>> ((12 : Int32) &&& 31))))), (.int (own_b ((128 : Int32) ||| ((c0 >>> ((6 : Int32) &&& 31)) &&& (63 : Int32))))), (.int 0)] (.int 0) := A31
        refine og2 X31 hx (fun j _ k => o_aload j (y d22_335) rfl rfl <| o_iloadN j (y d22_337) rfl <| o_iincL j 1 (y d22_338) rfl (3 : Int32) (by decide) rfl (l' := #[.val (.ref ba), .val (.int 1), .val (.int 3), .val (.int 1), .val (.int 1), .val (.ref a1), .val (.int c0), .unset, .unset]) rfl <| o_sipushV j 128 (y d22_341) rfl <| o_iload j (y d22_344) rfl <| o_bipushV j 63 (y d22_346) rfl <| o_iand j (y d22_348) <| o_ior j (y d22_349) <| o_i2bO j (y d22_350) <| k) ?_
        refine sB (v := own_b ((128 : Int32) ||| (c0 &&& (63 : Int32)))) 2 X31 hx hZ e31 A31v (own_nar_b _) (y d22_351) (fun T34 h34 X34 e34 W34 A34 => ?_)
        have N34 := Fr.snoc X34 N31 G1
        have P34 := P31.wr W34 (Or.inr GK1)
        have A34v : Arv Z h34 a1 kc1 .byte (3 : Int32) [(.int (own_b ((224 : Int32) ||| (c0 >>> ((12 : Int32) &&& 31))))), (.int (own_b ((128 : Int32) ||| ((c0 >>> ((6 : Int32) &&& 31)) &&& (63 : Int32))))), (.int (own_b ((128 : Int32) ||| (c0 &&& (63 : Int32)))))] (.int 0) := A34
        refine og2 X34 hx (fun j _ k => o_goto j (pc' := 58) (y d22_352) <| o_iloadN j (y d22_58) rfl <| o_iload j (y d22_59) rfl <| o_icmpYes j (pc' := 355) (y d22_61) (XT.ii_ge_t (by decide)) <| o_iloadN j (y d22_355) rfl <| o_aload j (y d22_356) rfl rfl <| o_alen X34 hx hZ e34 A34v (y d22_358) <| o_icmpNo j (y d22_359) (XT.ii_ne_f rfl) <| o_aload j (y d22_362) rfl rfl <| k) ?_
        exact rA X34 hx Bd rfl rfl rfl (y d22_364) e34 ⟨a1, kc1, rfl, N34, P34, (by rw [(own_put3 C6 C15 (own_sur0 C27) (own_t16 H3))]; exact A34v), GK1⟩
      · refine og2 X26 hx (fun j _ k => o_ifNo j (y d22_145) (XT.i0_eq_f C27) <| o_iconstV j (-1) (y d22_148) rfl <| o_istore j (y d22_149) (l' := #[.val (.ref ba), .val (.int 1), .val (.int 0), .val (.int 1), .val (.int 1), .val (.ref a1), .val (.int c0), .val (.int (-1 : Int32)), .unset]) rfl <| o_iload j (y d22_151) rfl <| k) ?_
        refine cS [(.int c0)] [] 0 X26 hx hZ hown (w 125 rfl) (w 126 rfl) (w 121 rfl) (w 127 rfl) (rmHS l Z a0 hw [] c0 h1 n0 Z1) e26 hml pd_oCcZ (y d22_153) (fun v37 T37 L37 hQ37 X37 => ?_)
        obtain ⟨rfl, N37a, eh37⟩ := hQ37
        have N37 := Fr.app N26 N37a
        have e37 : T37.heap = h1 := eh37
        by_cases C38 : own_high c0 = 0
        · refine og2 X37 hx (fun j _ k => o_ifYes j (pc' := 188) (y d22_156) (XT.i0_eq_t C38) <| o_iload j (y d22_188) rfl <| o_ifNo j (y d22_190) (by decide) <| o_iloadN j (y d22_193) rfl <| o_ifNo j (y d22_194) (by decide) <| o_aload j (y d22_197) rfl rfl <| o_iloadN j (y d22_199) rfl <| o_iincL j 1 (y d22_200) rfl (1 : Int32) (by decide) rfl (l' := #[.val (.ref ba), .val (.int 1), .val (.int 1), .val (.int 1), .val (.int 1), .val (.ref a1), .val (.int c0), .val (.int (-1 : Int32)), .unset]) rfl <| o_bipushV j 63 (y d22_203) rfl <| k) ?_
          refine sB (v := (63 : Int32)) 0 X37 hx hZ e37 A4 (by decide) (y d22_205) (fun T39 h39 X39 e39 W39 A39 => ?_)
          have N39 := Fr.snoc X39 N37 G1
          have P39 := P1.wr W39 (Or.inr GK1)
          have Z39 : n0 ≤ h39.size := (by rw [W39.size]; exact Z1)
          have A41 := (A3.other W39 (Nat.ne_of_lt (Nat.lt_of_lt_of_eq pr2.lt g1.symm)))
          have A39v : Arv Z h39 a1 kc1 .byte (3 : Int32) [(.int 63), (.int 0), (.int 0)] (.int 0) := A39
          refine og2 X39 hx (fun j _ k => o_goto j (pc' := 295) (y d22_206) <| o_goto j (pc' := 352) (y d22_295) <| o_goto j (pc' := 58) (y d22_352) <| o_iloadN j (y d22_58) rfl <| o_iload j (y d22_59) rfl <| o_icmpYes j (pc' := 355) (y d22_61) (XT.ii_ge_t (by decide)) <| o_iloadN j (y d22_355) rfl <| o_aload j (y d22_356) rfl rfl <| o_alen X39 hx hZ e39 A39v (y d22_358) <| o_icmpYes j (pc' := 365) (y d22_359) (XT.ii_ne_t (by decide)) <| o_aload j (y d22_365) rfl rfl <| o_iloadN j (y d22_367) rfl <| k) ?_
          refine cS [(.ref a1), (.int 1)] [] 0 X39 hx hZ hown (w 132 rfl) (w 133 rfl) (w 134 rfl) (w 135 rfl) (rmAC31 l Z a0 hw [] a1 kc1 (63 : Int32) (0 : Int32) (0 : Int32) h39 n0 Z39 A39v) e39 hml pd_oaBIcaB (y d22_368) (fun v42 T42 L42 hQ42 X42 => ?_)
          obtain ⟨r_42, rk_42, rfl, N42a, K42, Q42_0, Q42_1⟩ := hQ42
          have N42 := Fr.app N39 N42a
          have e42 : T42.heap = T42.heap := rfl
          have P42 : Keep h0 T42.heap [] := (P39.trans K42 all0)
          have GK42_r : h0.size ≤ r_42 := Nat.le_trans P39.1 Q42_1
          have ne42_ba_r : ba ≠ r_42 := Nat.ne_of_lt (Nat.lt_of_lt_of_le A41.lt Q42_1)
          have ne42_a1_r : a1 ≠ r_42 := Nat.ne_of_lt (Nat.lt_of_lt_of_le A39v.lt Q42_1)
          exact rA X42 hx Bd rfl rfl rfl (y d22_371) e42 ⟨r_42, rk_42, rfl, N42, P42, (by rw [(own_putS C6 C15 (own_sur1 C27).1 (own_sur1 C27).2)]; exact Q42_0), GK42_r⟩
        · refine og2 X37 hx (fun j _ k => o_ifNo j (y d22_156) (XT.i0_eq_f C38) <| o_iloadN j (y d22_159) rfl <| o_iload j (y d22_160) rfl <| o_icmpYes j (pc' := 188) (y d22_162) (XT.ii_ge_t (by decide)) <| o_iload j (y d22_188) rfl <| o_ifNo j (y d22_190) (by decide) <| o_iloadN j (y d22_193) rfl <| o_ifNo j (y d22_194) (by decide) <| o_aload j (y d22_197) rfl rfl <| o_iloadN j (y d22_199) rfl <| o_iincL j 1 (y d22_200) rfl (1 : Int32) (by decide) rfl (l' := #[.val (.ref ba), .val (.int 1), .val (.int 1), .val (.int 1), .val (.int 1), .val (.ref a1), .val (.int c0), .val (.int (-1 : Int32)), .unset]) rfl <| o_bipushV j 63 (y d22_203) rfl <| k) ?_
          refine sB (v := (63 : Int32)) 0 X37 hx hZ e37 A4 (by decide) (y d22_205) (fun T46 h46 X46 e46 W46 A46 => ?_)
          have N46 := Fr.snoc X46 N37 G1
          have P46 := P1.wr W46 (Or.inr GK1)
          have Z46 : n0 ≤ h46.size := (by rw [W46.size]; exact Z1)
          have A48 := (A3.other W46 (Nat.ne_of_lt (Nat.lt_of_lt_of_eq pr2.lt g1.symm)))
          have A46v : Arv Z h46 a1 kc1 .byte (3 : Int32) [(.int 63), (.int 0), (.int 0)] (.int 0) := A46
          refine og2 X46 hx (fun j _ k => o_goto j (pc' := 295) (y d22_206) <| o_goto j (pc' := 352) (y d22_295) <| o_goto j (pc' := 58) (y d22_352) <| o_iloadN j (y d22_58) rfl <| o_iload j (y d22_59) rfl <| o_icmpYes j (pc' := 355) (y d22_61) (XT.ii_ge_t (by decide)) <| o_iloadN j (y d22_355) rfl <| o_aload j (y d22_356) rfl rfl <| o_alen X46 hx hZ e46 A46v (y d22_358) <| o_icmpYes j (pc' := 365) (y d22_359) (XT.ii_ne_t (by decide)) <| o_aload j (y d22_365) rfl rfl <| o_iloadN j (y d22_367) rfl <| k) ?_
          refine cS [(.ref a1), (.int 1)] [] 0 X46 hx hZ hown (w 132 rfl) (w 133 rfl) (w 134 rfl) (w 135 rfl) (rmAC31 l Z a0 hw [] a1 kc1 (63 : Int32) (0 : Int32) (0 : Int32) h46 n0 Z46 A46v) e46 hml pd_oaBIcaB (y d22_368) (fun v49 T49 L49 hQ49 X49 => ?_)
          obtain ⟨r_49, rk_49, rfl, N49a, K49, Q49_0, Q49_1⟩ := hQ49
          have N49 := Fr.app N46 N49a
          have e49 : T49.heap = T49.heap := rfl
          have P49 : Keep h0 T49.heap [] := (P46.trans K49 all0)
          have GK49_r : h0.size ≤ r_49 := Nat.le_trans P46.1 Q49_1
          have ne49_ba_r : ba ≠ r_49 := Nat.ne_of_lt (Nat.lt_of_lt_of_le A48.lt Q49_1)
          have ne49_a1_r : a1 ≠ r_49 := Nat.ne_of_lt (Nat.lt_of_lt_of_le A46v.lt Q49_1)
          exact rA X49 hx Bd rfl rfl rfl (y d22_371) e49 ⟨r_49, rk_49, rfl, N49, P49, (by rw [(own_putS C6 C15 (own_sur1 C27).1 (own_sur1 C27).2)]; exact Q49_0), GK49_r⟩

abbrev R_2_2_11_32 : Room := ({ frames := 2, cells := 2, slots := 11, locals := 32 } : Room)
theorem d22_82 : decode k10 82 = .ok (.aload 5, 2) := by decide +kernel
theorem d22_84 : decode k10 84 = .ok (.iload_n 2, 1) := by decide +kernel
theorem d22_85 : decode k10 85 = .ok (.iinc 2 1, 3) := by decide +kernel
theorem d22_88 : decode k10 88 = .ok (.iload 6, 2) := by decide +kernel
theorem d22_90 : decode k10 90 = .ok (.i2b, 1) := by decide +kernel
theorem d22_91 : decode k10 91 = .ok (.bastore, 1) := by decide +kernel
theorem d22_92 : decode k10 92 = .ok (.goto 260, 3) := by decide +kernel
theorem d22_165 : decode k10 165 = .ok (.aload_n 0, 1) := by decide +kernel
theorem d22_166 : decode k10 166 = .ok (.iload_n 3, 1) := by decide +kernel
theorem d22_167 : decode k10 167 = .ok (.invokestatic 360, 3) := by decide +kernel
theorem d22_170 : decode k10 170 = .ok (.dup, 1) := by decide +kernel
theorem d22_171 : decode k10 171 = .ok (.istore 8, 2) := by decide +kernel
theorem d22_173 : decode k10 173 = .ok (.invokestatic 370, 3) := by decide +kernel
theorem d22_176 : decode k10 176 = .ok (.ifCond .eq 12, 3) := by decide +kernel
theorem d22_179 : decode k10 179 = .ok (.iload 6, 2) := by decide +kernel
theorem d22_181 : decode k10 181 = .ok (.iload 8, 2) := by decide +kernel
theorem d22_183 : decode k10 183 = .ok (.invokestatic 477, 3) := by decide +kernel
theorem d22_186 : decode k10 186 = .ok (.istore 7, 2) := by decide +kernel
theorem d22_218 : decode k10 218 = .ok (.aload 5, 2) := by decide +kernel
theorem d22_220 : decode k10 220 = .ok (.iload_n 2, 1) := by decide +kernel
theorem d22_221 : decode k10 221 = .ok (.iinc 2 1, 3) := by decide +kernel
theorem d22_224 : decode k10 224 = .ok (.sipush 240, 3) := by decide +kernel
theorem d22_227 : decode k10 227 = .ok (.iload 7, 2) := by decide +kernel
theorem d22_229 : decode k10 229 = .ok (.bipush 18, 2) := by decide +kernel
theorem d22_231 : decode k10 231 = .ok (.ishr, 1) := by decide +kernel
theorem d22_232 : decode k10 232 = .ok (.ior, 1) := by decide +kernel
theorem d22_233 : decode k10 233 = .ok (.i2b, 1) := by decide +kernel
theorem d22_234 : decode k10 234 = .ok (.bastore, 1) := by decide +kernel
theorem d22_235 : decode k10 235 = .ok (.aload 5, 2) := by decide +kernel
theorem d22_237 : decode k10 237 = .ok (.iload_n 2, 1) := by decide +kernel
theorem d22_238 : decode k10 238 = .ok (.iinc 2 1, 3) := by decide +kernel
theorem d22_241 : decode k10 241 = .ok (.sipush 128, 3) := by decide +kernel
theorem d22_244 : decode k10 244 = .ok (.iload 7, 2) := by decide +kernel
theorem d22_246 : decode k10 246 = .ok (.bipush 12, 2) := by decide +kernel
theorem d22_248 : decode k10 248 = .ok (.ishr, 1) := by decide +kernel
theorem d22_249 : decode k10 249 = .ok (.bipush 63, 2) := by decide +kernel
theorem d22_251 : decode k10 251 = .ok (.iand, 1) := by decide +kernel
theorem d22_252 : decode k10 252 = .ok (.ior, 1) := by decide +kernel
theorem d22_253 : decode k10 253 = .ok (.i2b, 1) := by decide +kernel
theorem d22_254 : decode k10 254 = .ok (.bastore, 1) := by decide +kernel
theorem d22_255 : decode k10 255 = .ok (.aload 5, 2) := by decide +kernel
theorem d22_257 : decode k10 257 = .ok (.iload_n 2, 1) := by decide +kernel
theorem d22_258 : decode k10 258 = .ok (.iinc 2 1, 3) := by decide +kernel
theorem d22_261 : decode k10 261 = .ok (.sipush 128, 3) := by decide +kernel
theorem d22_264 : decode k10 264 = .ok (.iload 7, 2) := by decide +kernel
theorem d22_266 : decode k10 266 = .ok (.bipush 6, 2) := by decide +kernel
theorem d22_268 : decode k10 268 = .ok (.ishr, 1) := by decide +kernel
theorem d22_269 : decode k10 269 = .ok (.bipush 63, 2) := by decide +kernel
theorem d22_271 : decode k10 271 = .ok (.iand, 1) := by decide +kernel
theorem d22_272 : decode k10 272 = .ok (.ior, 1) := by decide +kernel
theorem d22_273 : decode k10 273 = .ok (.i2b, 1) := by decide +kernel
theorem d22_274 : decode k10 274 = .ok (.bastore, 1) := by decide +kernel
theorem d22_275 : decode k10 275 = .ok (.aload 5, 2) := by decide +kernel
theorem d22_277 : decode k10 277 = .ok (.iload_n 2, 1) := by decide +kernel
theorem d22_278 : decode k10 278 = .ok (.iinc 2 1, 3) := by decide +kernel
theorem d22_281 : decode k10 281 = .ok (.sipush 128, 3) := by decide +kernel
theorem d22_284 : decode k10 284 = .ok (.iload 7, 2) := by decide +kernel
theorem d22_286 : decode k10 286 = .ok (.bipush 63, 2) := by decide +kernel
theorem d22_288 : decode k10 288 = .ok (.iand, 1) := by decide +kernel
theorem d22_289 : decode k10 289 = .ok (.ior, 1) := by decide +kernel
theorem d22_290 : decode k10 290 = .ok (.i2b, 1) := by decide +kernel
theorem d22_291 : decode k10 291 = .ok (.bastore, 1) := by decide +kernel
theorem d22_292 : decode k10 292 = .ok (.iinc 3 1, 3) := by decide +kernel
theorem pd_oCCcI : parseMethodDescriptor "(CC)I" = some ⟨[.char, .char], some .int⟩ := by decide +kernel
def QEU2 (Z : State) (cs : Int32) (u8 : Addr) (ba : Addr) (bk : ClassId) (c0 : Int32) (c1 : Int32) (h0 : Heap) (n0 : Nat) (v : Option Value) (h : Heap) (L : List Loc) : Prop := ∃ r : Addr, ∃ rk : ClassId, v = some (.ref r) ∧ Fr n0 L ∧ Keep h0 h [] ∧ Arv Z h r rk .byte (own_ln (own_enc2 c0 c1)) (own_vs (own_enc2 c0 c1)) (.int 0) ∧ h0.size ≤ r
theorem rmEU2 (l : Launch) (Z : State) (a0 : Array Value) (hw : HW a0 Z) (ws : List Jvm.Cond) (cs : Int32) (u8 : Addr) (ba : Addr) (bk : ClassId) (c0 : Int32) (c1 : Int32) (h0 : Heap) (n0 : Nat) (Z0 : n0 ≤ h0.size) (H0 : OSt Z cs u8) (pr1 : Old Z n0 h0) (pr2 : Arv Z h0 ba bk .byte (4 : Int32) [(.int (own_lo c0)), (.int (own_hi c0)), (.int (own_lo c1)), (.int (own_hi c1))] (.int 0)) (H3 : OCh c0) (H4 : OCh c1) :
    MF l Z ⟨"java/lang/String", "encodeUTF8_UTF16", "([BZ)[B"⟩ jdk_42_method_47_code 9 (some (.array .byte)) ws R_2_2_11_32 #[(.ref ba), (.int 1)] h0 (QEU2 Z cs u8 ba bk c0 c1 h0 n0) := by
  refine og_start (plainFor_of_name pn_java_lang_String) fun p e s m below meth c s₁ Bd hx hby hml hZ hown hnm X0 e0 => ?_
  have y := @hb _ _ hby
  have w := @wd _ _ hw
  refine og (fun t k => castTop (ef11 m ba (1 : Int32)) k) ?_
  refine og2 X0 hx (fun j _ k => o_iconstV j 0 (y d22_0) rfl <| o_istoreN j (y d22_1) (l' := #[.val (.ref ba), .val (.int 1), .val (.int 0), .unset, .unset, .unset, .unset, .unset, .unset]) rfl <| o_iconstV j 0 (y d22_2) rfl <| o_istoreN j (y d22_3) (l' := #[.val (.ref ba), .val (.int 1), .val (.int 0), .val (.int 0), .unset, .unset, .unset, .unset, .unset]) rfl <| o_aloadN j (y d22_4) rfl rfl <| o_alen X0 hx hZ e0 pr2 (y d22_5) <| o_iconstV j 1 (y d22_6) rfl <| o_ishr j (y d22_7) <| k) ?_
  rw [(by decide : (4 : Int32) >>> ((1 : Int32) &&& 31) = (2 : Int32))]
  refine og2 X0 hx (fun j _ k => o_istore j (y d22_8) (l' := #[.val (.ref ba), .val (.int 1), .val (.int 0), .val (.int 0), .val (.int 2), .unset, .unset, .unset, .unset]) rfl <| o_iload j (y d22_10) rfl <| o_iconstV j 3 (y d22_12) rfl <| o_imul j (y d22_13) <| k) ?_
  rw [(by decide : (2 : Int32) * (3 : Int32) = (6 : Int32))]
  refine nP .byte 6 "[B" X0 hx hZ (w 20 rfl) e0 (y d22_14) (fun T1 h1 a1 kc1 g1 X1 e1 E1 A1 D1 => ?_)
  have Z1 : n0 ≤ h1.size := Nat.le_trans Z0 E1.1
  have G1 : n0 ≤ a1 := Nat.le_trans Z0 (Nat.le_of_eq g1.symm)
  have GK1 : h0.size ≤ a1 := Nat.le_trans (Keep.refl h0 []).1 (Nat.le_of_eq g1.symm)
  have P1 := (Keep.refl h0 []).ext E1
  have O2 := (pr1.ext E1)
  have A3 := (pr2.ext E1)
  have A4 : Arv Z h1 a1 kc1 .byte (6 : Int32) [(.int 0), (.int 0), (.int 0), (.int 0), (.int 0), (.int 0)] (.int 0) := (A1.pad (pad_rep [] _ 6))
  refine og2 X1 hx (fun j _ k => o_astore j (y d22_16) rfl (l' := #[.val (.ref ba), .val (.int 1), .val (.int 0), .val (.int 0), .val (.int 2), .val (.ref a1), .unset, .unset, .unset]) rfl <| o_iloadN j (y d22_18) rfl <| o_iload j (y d22_19) rfl <| o_icmpNo j (y d22_21) (XT.ii_ge_f (by decide)) <| o_aloadN j (y d22_24) rfl rfl <| o_iloadN j (y d22_25) rfl <| k) ?_
  refine cS [(.ref ba), (.int 0)] [] 0 X1 hx hZ hown (w 118 rfl) (w 110 rfl) (w 88 rfl) (w 111 rfl) (rmGC20 l Z a0 hw [] cs u8 ba bk c0 c1 h1 n0 Z1 H0 O2 A3 H3) e1 hml pd_oaBIcC (y d22_26) (fun v5 T5 L5 hQ5 X5 => ?_)
  obtain ⟨rfl, N5a, eh5⟩ := hQ5
  have N5 := Fr.app (Fr.nil n0) N5a
  have e5 : T5.heap = h1 := eh5
  refine og2 X5 hx (fun j _ k => o_istore j (y d22_29) (l' := #[.val (.ref ba), .val (.int 1), .val (.int 0), .val (.int 0), .val (.int 2), .val (.ref a1), .val (.int c0), .unset, .unset]) rfl <| o_iload j (y d22_31) rfl <| o_sipushV j 128 (y d22_33) rfl <| k) ?_
  by_cases C6 : c0 < (128 : Int32)
  · refine og2 X5 hx (fun j _ k => o_icmpYes j (pc' := 42) (y d22_36) (XT.ii_lt_t C6) <| o_aload j (y d22_42) rfl rfl <| o_iloadN j (y d22_44) rfl <| o_iincL j 1 (y d22_45) rfl (1 : Int32) (by decide) rfl (l' := #[.val (.ref ba), .val (.int 1), .val (.int 1), .val (.int 0), .val (.int 2), .val (.ref a1), .val (.int c0), .unset, .unset]) rfl <| o_iload j (y d22_48) rfl <| o_i2bO j (y d22_50) <| k) ?_
    refine sB (v := own_b c0) 0 X5 hx hZ e5 A4 (own_nar_b _) (y d22_51) (fun T7 h7 X7 e7 W7 A7 => ?_)
    have N7 := Fr.snoc X7 N5 G1
    have P7 := P1.wr W7 (Or.inr GK1)
    have Z7 : n0 ≤ h7.size := (by rw [W7.size]; exact Z1)
    have O8 := (O2.wr W7 G1)
    have A9 := (A3.other W7 (Nat.ne_of_lt (Nat.lt_of_lt_of_eq pr2.lt g1.symm)))
    have A7v : Arv Z h7 a1 kc1 .byte (6 : Int32) [(.int (own_b c0)), (.int 0), (.int 0), (.int 0), (.int 0), (.int 0)] (.int 0) := A7
    refine og2 X7 hx (fun j _ k => o_iincL j 1 (y d22_52) rfl (1 : Int32) (by decide) rfl (l' := #[.val (.ref ba), .val (.int 1), .val (.int 1), .val (.int 1), .val (.int 2), .val (.ref a1), .val (.int c0), .unset, .unset]) rfl <| o_goto j (pc' := 18) (y d22_55) <| o_iloadN j (y d22_18) rfl <| o_iload j (y d22_19) rfl <| o_icmpNo j (y d22_21) (XT.ii_ge_f (by decide)) <| o_aloadN j (y d22_24) rfl rfl <| o_iloadN j (y d22_25) rfl <| k) ?_
    refine cS [(.ref ba), (.int 1)] [] 0 X7 hx hZ hown (w 118 rfl) (w 110 rfl) (w 88 rfl) (w 111 rfl) (rmGC21 l Z a0 hw [] cs u8 ba bk c0 c1 h7 n0 Z7 H0 O8 A9 H4) e7 hml pd_oaBIcC (y d22_26) (fun v10 T10 L10 hQ10 X10 => ?_)
    obtain ⟨rfl, N10a, eh10⟩ := hQ10
    have N10 := Fr.app N7 N10a
    have e10 : T10.heap = h7 := eh10
    refine og2 X10 hx (fun j _ k => o_istore j (y d22_29) (l' := #[.val (.ref ba), .val (.int 1), .val (.int 1), .val (.int 1), .val (.int 2), .val (.ref a1), .val (.int c1), .unset, .unset]) rfl <| o_iload j (y d22_31) rfl <| o_sipushV j 128 (y d22_33) rfl <| k) ?_
    by_cases C11 : c1 < (128 : Int32)
    · refine og2 X10 hx (fun j _ k => o_icmpYes j (pc' := 42) (y d22_36) (XT.ii_lt_t C11) <| o_aload j (y d22_42) rfl rfl <| o_iloadN j (y d22_44) rfl <| o_iincL j 1 (y d22_45) rfl (2 : Int32) (by decide) rfl (l' := #[.val (.ref ba), .val (.int 1), .val (.int 2), .val (.int 1), .val (.int 2), .val (.ref a1), .val (.int c1), .unset, .unset]) rfl <| o_iload j (y d22_48) rfl <| o_i2bO j (y d22_50) <| k) ?_
      refine sB (v := own_b c1) 1 X10 hx hZ e10 A7v (own_nar_b _) (y d22_51) (fun T12 h12 X12 e12 W12 A12 => ?_)
      have N12 := Fr.snoc X12 N10 G1
      have P12 := P7.wr W12 (Or.inr GK1)
      have Z12 : n0 ≤ h12.size := (by rw [W12.size]; exact Z7)
      have A14 := (A9.other W12 (Nat.ne_of_lt (Nat.lt_of_lt_of_eq pr2.lt g1.symm)))
      have A12v : Arv Z h12 a1 kc1 .byte (6 : Int32) [(.int (own_b c0)), (.int (own_b c1)), (.int 0), (.int 0), (.int 0), (.int 0)] (.int 0) := A12
      refine og2 X12 hx (fun j _ k => o_iincL j 1 (y d22_52) rfl (2 : Int32) (by decide) rfl (l' := #[.val (.ref ba), .val (.int 1), .val (.int 2), .val (.int 2), .val (.int 2), .val (.ref a1), .val (.int c1), .unset, .unset]) rfl <| o_goto j (pc' := 18) (y d22_55) <| o_iloadN j (y d22_18) rfl <| o_iload j (y d22_19) rfl <| o_icmpYes j (pc' := 58) (y d22_21) (XT.ii_ge_t (by decide)) <| o_iloadN j (y d22_58) rfl <| o_iload j (y d22_59) rfl <| o_icmpYes j (pc' := 355) (y d22_61) (XT.ii_ge_t (by decide)) <| o_iloadN j (y d22_355) rfl <| o_aload j (y d22_356) rfl rfl <| o_alen X12 hx hZ e12 A12v (y d22_358) <| o_icmpYes j (pc' := 365) (y d22_359) (XT.ii_ne_t (by decide)) <| o_aload j (y d22_365) rfl rfl <| o_iloadN j (y d22_367) rfl <| k) ?_
      refine cS [(.ref a1), (.int 2)] [] 0 X12 hx hZ hown (w 132 rfl) (w 133 rfl) (w 134 rfl) (w 135 rfl) (rmAC62 l Z a0 hw [] a1 kc1 (own_b c0) (own_b c1) (0 : Int32) (0 : Int32) (0 : Int32) (0 : Int32) h12 n0 Z12 A12v) e12 hml pd_oaBIcaB (y d22_368) (fun v15 T15 L15 hQ15 X15 => ?_)
      obtain ⟨r_15, rk_15, rfl, N15a, K15, Q15_0, Q15_1⟩ := hQ15
      have N15 := Fr.app N12 N15a
      have e15 : T15.heap = T15.heap := rfl
      have P15 : Keep h0 T15.heap [] := (P12.trans K15 all0)
      have GK15_r : h0.size ≤ r_15 := Nat.le_trans P12.1 Q15_1
      have ne15_ba_r : ba ≠ r_15 := Nat.ne_of_lt (Nat.lt_of_lt_of_le A14.lt Q15_1)
      have ne15_a1_r : a1 ≠ r_15 := Nat.ne_of_lt (Nat.lt_of_lt_of_le A12v.lt Q15_1)
      exact rA X15 hx Bd rfl rfl rfl (y d22_371) e15 ⟨r_15, rk_15, rfl, N15, P15, (by rw [(own_np0 C6), (own_put1 C6), (own_put1 C11)]; exact Q15_0), GK15_r⟩
    · refine og2 X10 hx (fun j _ k => o_icmpNo j (y d22_36) (XT.ii_lt_f C11) <| o_goto j (pc' := 58) (y d22_39) <| o_iloadN j (y d22_58) rfl <| o_iload j (y d22_59) rfl <| o_icmpNo j (y d22_61) (XT.ii_ge_f (by decide)) <| o_aloadN j (y d22_64) rfl rfl <| o_iloadN j (y d22_65) rfl <| o_iincL j 1 (y d22_66) rfl (2 : Int32) (by decide) rfl (l' := #[.val (.ref ba), .val (.int 1), .val (.int 1), .val (.int 2), .val (.int 2), .val (.ref a1), .val (.int c1), .unset, .unset]) rfl <| k) ?_
      refine cS [(.ref ba), (.int 1)] [] 0 X10 hx hZ hown (w 118 rfl) (w 110 rfl) (w 88 rfl) (w 111 rfl) (rmGC21 l Z a0 hw [] cs u8 ba bk c0 c1 h7 n0 Z7 H0 O8 A9 H4) e10 hml pd_oaBIcC (y d22_69) (fun v19 T19 L19 hQ19 X19 => ?_)
      obtain ⟨rfl, N19a, eh19⟩ := hQ19
      have N19 := Fr.app N10 N19a
      have e19 : T19.heap = h7 := eh19
      refine og2 X19 hx (fun j _ k => o_istore j (y d22_72) (l' := #[.val (.ref ba), .val (.int 1), .val (.int 1), .val (.int 2), .val (.int 2), .val (.ref a1), .val (.int c1), .unset, .unset]) rfl <| o_iload j (y d22_74) rfl <| o_sipushV j 128 (y d22_76) rfl <| o_icmpYes j (pc' := 95) (y d22_79) (XT.ii_ge_t C11) <| o_iload j (y d22_95) rfl <| o_sipushV j 2048 (y d22_97) rfl <| k) ?_
      by_cases C20 : c1 < (2048 : Int32)
      · refine og2 X19 hx (fun j _ k => o_icmpNo j (y d22_100) (XT.ii_ge_f C20) <| o_aload j (y d22_103) rfl rfl <| o_iloadN j (y d22_105) rfl <| o_iincL j 1 (y d22_106) rfl (2 : Int32) (by decide) rfl (l' := #[.val (.ref ba), .val (.int 1), .val (.int 2), .val (.int 2), .val (.int 2), .val (.ref a1), .val (.int c1), .unset, .unset]) rfl <| o_sipushV j 192 (y d22_109) rfl <| o_iload j (y d22_112) rfl <| o_bipushV j 6 (y d22_114) rfl <| o_ishr j (y d22_116) <| o_ior j (y d22_117) <| o_i2bO j (y d22_118) <| k) ?_
        refine sB (v := own_b ((192 : Int32) ||| (c1 >>> ((6 : Int32) &&& 31)))) 1 X19 hx hZ e19 A7v (own_nar_b _) (y d22_119) (fun T21 h21 X21 e21 W21 A21 => ?_)
        have N21 := Fr.snoc X21 N19 G1
        have P21 := P7.wr W21 (Or.inr GK1)
        have Z21 : n0 ≤ h21.size := (by rw [W21.size]; exact Z7)
        have A23 := (A9.other W21 (Nat.ne_of_lt (Nat.lt_of_lt_of_eq pr2.lt g1.symm)))
        have A21v : Arv Z h21 a1 kc1 .byte (6 : Int32) [(.int (own_b c0)), (.int (own_b ((192 : Int32) ||| (c1 >>> ((6 : Int32) &&& 31))))), (.int 0), (.int 0), (.int 0), (.int 0)] (.int 0) := A21
        refine og2 X21 hx (fun j _ k => o_aload j (y d22_120) rfl rfl <| o_iloadN j (y d22_122) rfl <| o_iincL j 1 (y d22_123) rfl (3 : Int32) (by decide) rfl (l' := #[.val (.ref ba), .val (.int 1), .val (.int 3), .val (.int 2), .val (.int 2), .val (.ref a1), .val (.int c1), .unset, .unset]) rfl <| o_sipushV j 128 (y d22_126) rfl <| o_iload j (y d22_129) rfl <| o_bipushV j 63 (y d22_131) rfl <| o_iand j (y d22_133) <| o_ior j (y d22_134) <| o_i2bO j (y d22_135) <| k) ?_
        refine sB (v := own_b ((128 : Int32) ||| (c1 &&& (63 : Int32)))) 2 X21 hx hZ e21 A21v (own_nar_b _) (y d22_136) (fun T24 h24 X24 e24 W24 A24 => ?_)
        have N24 := Fr.snoc X24 N21 G1
        have P24 := P21.wr W24 (Or.inr GK1)
        have Z24 : n0 ≤ h24.size := (by rw [W24.size]; exact Z21)
        have A26 := (A23.other W24 (Nat.ne_of_lt (Nat.lt_of_lt_of_eq pr2.lt g1.symm)))
        have A24v : Arv Z h24 a1 kc1 .byte (6 : Int32) [(.int (own_b c0)), (.int (own_b ((192 : Int32) ||| (c1 >>> ((6 : Int32) &&& 31))))), (.int (own_b ((128 : Int32) ||| (c1 &&& (63 : Int32))))), (.int 0), (.int 0), (.int 0)] (.int 0) := A24
        refine og2 X24 hx (fun j _ k => o_goto j (pc' := 352) (y d22_137) <| o_goto j (pc' := 58) (y d22_352) <| o_iloadN j (y d22_58) rfl <| o_iload j (y d22_59) rfl <| o_icmpYes j (pc' := 355) (y d22_61) (XT.ii_ge_t (by decide)) <| o_iloadN j (y d22_355) rfl <| o_aload j (y d22_356) rfl rfl <| o_alen X24 hx hZ e24 A24v (y d22_358) <| o_icmpYes j (pc' := 365) (y d22_359) (XT.ii_ne_t (by decide)) <| o_aload j (y d22_365) rfl rfl <| o_iloadN j (y d22_367) rfl <| k) ?_
        refine cS [(.ref a1), (.int 3)] [] 0 X24 hx hZ hown (w 132 rfl) (w 133 rfl) (w 134 rfl) (w 135 rfl) (rmAC63 l Z a0 hw [] a1 kc1 (own_b c0) (own_b ((192 : Int32) ||| (c1 >>> ((6 : Int32) &&& 31)))) (own_b ((128 : Int32) ||| (c1 &&& (63 : Int32)))) (0 : Int32) (0 : Int32) (0 : Int32) h24 n0 Z24 A24v) e24 hml pd_oaBIcaB (y d22_368) (fun v27 T27 L27 hQ27 X27 => ?_)
        obtain ⟨r_27, rk_27, rfl, N27a, K27, Q27_0, Q27_1⟩ := hQ27
        have N27 := Fr.app N24 N27a
        have e27 : T27.heap = T27.heap := rfl
        have P27 : Keep h0 T27.heap [] := (P24.trans K27 all0)
        have GK27_r : h0.size ≤ r_27 := Nat.le_trans P24.1 Q27_1
        have ne27_ba_r : ba ≠ r_27 := Nat.ne_of_lt (Nat.lt_of_lt_of_le A26.lt Q27_1)
        have ne27_a1_r : a1 ≠ r_27 := Nat.ne_of_lt (Nat.lt_of_lt_of_le A24v.lt Q27_1)
        exact rA X27 hx Bd rfl rfl rfl (y d22_371) e27 ⟨r_27, rk_27, rfl, N27, P27, (by rw [(own_np0 C6), (own_put1 C6), (own_put2 C11 C20)]; exact Q27_0), GK27_r⟩
      · refine og2 X19 hx (fun j _ k => o_icmpYes j (pc' := 140) (y d22_100) (XT.ii_ge_t C20) <| o_iload j (y d22_140) rfl <| k) ?_
        refine cS [(.int c1)] [] 0 X19 hx hZ hown (w 119 rfl) (w 120 rfl) (w 121 rfl) (w 122 rfl) (rmSU l Z a0 hw [] c1 h7 n0 Z7) e19 hml pd_oCcZ (y d22_142) (fun v31 T31 L31 hQ31 X31 => ?_)
        obtain ⟨rfl, N31a, eh31⟩ := hQ31
        have N31 := Fr.app N19 N31a
        have e31 : T31.heap = h7 := eh31
        by_cases C32 : own_sur c1 = 0
        · refine og2 X31 hx (fun j _ k => o_ifYes j (pc' := 298) (y d22_145) (XT.i0_eq_t C32) <| o_aload j (y d22_298) rfl rfl <| o_iloadN j (y d22_300) rfl <| o_iincL j 1 (y d22_301) rfl (2 : Int32) (by decide) rfl (l' := #[.val (.ref ba), .val (.int 1), .val (.int 2), .val (.int 2), .val (.int 2), .val (.ref a1), .val (.int c1), .unset, .unset]) rfl <| o_sipushV j 224 (y d22_304) rfl <| o_iload j (y d22_307) rfl <| o_bipushV j 12 (y d22_309) rfl <| o_ishr j (y d22_311) <| o_ior j (y d22_312) <| o_i2bO j (y d22_313) <| k) ?_
          refine sB (v := own_b ((224 : Int32) ||| (c1 >>> ((12 : Int32) &&& 31)))) 1 X31 hx hZ e31 A7v (own_nar_b _) (y d22_314) (fun T33 h33 X33 e33 W33 A33 => ?_)
          have N33 := Fr.snoc X33 N31 G1
          have P33 := P7.wr W33 (Or.inr GK1)
          have Z33 : n0 ≤ h33.size := (by rw [W33.size]; exact Z7)
          have A35 := (A9.other W33 (Nat.ne_of_lt (Nat.lt_of_lt_of_eq pr2.lt g1.symm)))
          have A33v : Arv Z h33 a1 kc1 .byte (6 : Int32) [(.int (own_b c0)), (.int (own_b ((224 : Int32) ||| (c1 >>> ((12 : Int32) &&& 31))))), (.int 0), (.int 0), (.int 0), (.int 0)] (.int 0) := A33
          refine og2 X33 hx (fun j _ k => o_aload j (y d22_315) rfl rfl <| o_iloadN j (y d22_317) rfl <| o_iincL j 1 (y d22_318) rfl (3 : Int32) (by decide) rfl (l' := #[.val (.ref ba), .val (.int 1), .val (.int 3), .val (.int 2), .val (.int 2), .val (.ref a1), .val (.int c1), .unset, .unset]) rfl <| o_sipushV j 128 (y d22_321) rfl <| o_iload j (y d22_324) rfl <| o_bipushV j 6 (y d22_326) rfl <| o_ishr j (y d22_328) <| o_bipushV j 63 (y d22_329) rfl <| o_iand j (y d22_331) <| o_ior j (y d22_332) <| o_i2bO j (y d22_333) <| k) ?_
          refine sB (v := own_b ((128 : Int32) ||| ((c1 >>> ((6 : Int32) &&& 31)) &&& (63 : Int32)))) 2 X33 hx hZ e33 A33v (own_nar_b _) (y d22_334) (fun T36 h36 X36 e36 W36 A36 => ?_)
          have N36 := Fr.snoc X36 N33 G1
          have P36 := P33.wr W36 (Or.inr GK1)
          have Z36 : n0 ≤ h36.size := (by rw [W36.size]; exact Z33)
          have A38 := (A35.other W36 (Nat.ne_of_lt (Nat.lt_of_lt_of_eq pr2.lt g1.symm)))
          have A36v : Arv Z h36 a1 kc1 .byte (6 : Int32) [(.int (own_b c0)), (.int (own_b ((224 : Int32) ||| (c1 >>> ((12 : Int32) &&& 31))))), (.int (own_b ((128 : Int32) ||| ((c1 >>> ((6 : Int32) &&& 31)) &&& (63 : Int32))))), (.int 0), (.int 0), (.int 0)] (.int 0) := A36
          refine og2 X36 hx (fun j _ k => o_aload j (y d22_335) rfl rfl <| o_iloadN j (y d22_337) rfl <| o_iincL j 1 (y d22_338) rfl (4 : Int32) (by decide) rfl (l' := #[.val (.ref ba), .val (.int 1), .val (.int 4), .val (.int 2), .val (.int 2), .val (.ref a1), .val (.int c1), .unset, .unset]) rfl <| o_sipushV j 128 (y d22_341) rfl <| o_iload j (y d22_344) rfl <| o_bipushV j 63 (y d22_346) rfl <| o_iand j (y d22_348) <| o_ior j (y d22_349) <| o_i2bO j (y d22_350) <| k) ?_
          refine sB (v := own_b ((128 : Int32) ||| (c1 &&& (63 : Int32)))) 3 X36 hx hZ e36 A36v (own_nar_b _) (y d22_351) (fun T39 h39 X39 e39 W39 A39 => ?_)
          have N39 := Fr.snoc X39 N36 G1
          have P39 := P36.wr W39 (Or.inr GK1)
          have Z39 : n0 ≤ h39.size := (by rw [W39.size]; exact Z36)
          have A41 := (A38.other W39 (Nat.ne_of_lt (Nat.lt_of_lt_of_eq pr2.lt g1.symm)))
          have A39v : Arv Z h39 a1 kc1 .byte (6 : Int32) [(.int (own_b c0)), (.int (own_b ((224 : Int32) ||| (c1 >>> ((12 : Int32) &&& 31))))), (.int (own_b ((128 : Int32) ||| ((c1 >>> ((6 : Int32) &&& 31)) &&& (63 : Int32))))), (.int (own_b ((128 : Int32) ||| (c1 &&& (63 : Int32))))), (.int 0), (.int 0)] (.int 0) := A39
          refine og2 X39 hx (fun j _ k => o_goto j (pc' := 58) (y d22_352) <| o_iloadN j (y d22_58) rfl <| o_iload j (y d22_59) rfl <| o_icmpYes j (pc' := 355) (y d22_61) (XT.ii_ge_t (by decide)) <| o_iloadN j (y d22_355) rfl <| o_aload j (y d22_356) rfl rfl <| o_alen X39 hx hZ e39 A39v (y d22_358) <| o_icmpYes j (pc' := 365) (y d22_359) (XT.ii_ne_t (by decide)) <| o_aload j (y d22_365) rfl rfl <| o_iloadN j (y d22_367) rfl <| k) ?_
          refine cS [(.ref a1), (.int 4)] [] 0 X39 hx hZ hown (w 132 rfl) (w 133 rfl) (w 134 rfl) (w 135 rfl) (rmAC64 l Z a0 hw [] a1 kc1 (own_b c0) (own_b ((224 : Int32) ||| (c1 >>> ((12 : Int32) &&& 31)))) (own_b ((128 : Int32) ||| ((c1 >>> ((6 : Int32) &&& 31)) &&& (63 : Int32)))) (own_b ((128 : Int32) ||| (c1 &&& (63 : Int32)))) (0 : Int32) (0 : Int32) h39 n0 Z39 A39v) e39 hml pd_oaBIcaB (y d22_368) (fun v42 T42 L42 hQ42 X42 => ?_)
          obtain ⟨r_42, rk_42, rfl, N42a, K42, Q42_0, Q42_1⟩ := hQ42
          have N42 := Fr.app N39 N42a
          have e42 : T42.heap = T42.heap := rfl
          have P42 : Keep h0 T42.heap [] := (P39.trans K42 all0)
          have GK42_r : h0.size ≤ r_42 := Nat.le_trans P39.1 Q42_1
          have ne42_ba_r : ba ≠ r_42 := Nat.ne_of_lt (Nat.lt_of_lt_of_le A41.lt Q42_1)
          have ne42_a1_r : a1 ≠ r_42 := Nat.ne_of_lt (Nat.lt_of_lt_of_le A39v.lt Q42_1)
          exact rA X42 hx Bd rfl rfl rfl (y d22_371) e42 ⟨r_42, rk_42, rfl, N42, P42, (by rw [(own_np0 C6), (own_put1 C6), (own_put3 C11 C20 (own_sur0 C32) (own_t16 H4))]; exact Q42_0), GK42_r⟩
        · refine og2 X31 hx (fun j _ k => o_ifNo j (y d22_145) (XT.i0_eq_f C32) <| o_iconstV j (-1) (y d22_148) rfl <| o_istore j (y d22_149) (l' := #[.val (.ref ba), .val (.int 1), .val (.int 1), .val (.int 2), .val (.int 2), .val (.ref a1), .val (.int c1), .val (.int (-1 : Int32)), .unset]) rfl <| o_iload j (y d22_151) rfl <| k) ?_
          refine cS [(.int c1)] [] 0 X31 hx hZ hown (w 125 rfl) (w 126 rfl) (w 121 rfl) (w 127 rfl) (rmHS l Z a0 hw [] c1 h7 n0 Z7) e31 hml pd_oCcZ (y d22_153) (fun v46 T46 L46 hQ46 X46 => ?_)
          obtain ⟨rfl, N46a, eh46⟩ := hQ46
          have N46 := Fr.app N31 N46a
          have e46 : T46.heap = h7 := eh46
          by_cases C47 : own_high c1 = 0
          · refine og2 X46 hx (fun j _ k => o_ifYes j (pc' := 188) (y d22_156) (XT.i0_eq_t C47) <| o_iload j (y d22_188) rfl <| o_ifNo j (y d22_190) (by decide) <| o_iloadN j (y d22_193) rfl <| o_ifNo j (y d22_194) (by decide) <| o_aload j (y d22_197) rfl rfl <| o_iloadN j (y d22_199) rfl <| o_iincL j 1 (y d22_200) rfl (2 : Int32) (by decide) rfl (l' := #[.val (.ref ba), .val (.int 1), .val (.int 2), .val (.int 2), .val (.int 2), .val (.ref a1), .val (.int c1), .val (.int (-1 : Int32)), .unset]) rfl <| o_bipushV j 63 (y d22_203) rfl <| k) ?_
            refine sB (v := (63 : Int32)) 1 X46 hx hZ e46 A7v (by decide) (y d22_205) (fun T48 h48 X48 e48 W48 A48 => ?_)
            have N48 := Fr.snoc X48 N46 G1
            have P48 := P7.wr W48 (Or.inr GK1)
            have Z48 : n0 ≤ h48.size := (by rw [W48.size]; exact Z7)
            have A50 := (A9.other W48 (Nat.ne_of_lt (Nat.lt_of_lt_of_eq pr2.lt g1.symm)))
            have A48v : Arv Z h48 a1 kc1 .byte (6 : Int32) [(.int (own_b c0)), (.int 63), (.int 0), (.int 0), (.int 0), (.int 0)] (.int 0) := A48
            refine og2 X48 hx (fun j _ k => o_goto j (pc' := 295) (y d22_206) <| o_goto j (pc' := 352) (y d22_295) <| o_goto j (pc' := 58) (y d22_352) <| o_iloadN j (y d22_58) rfl <| o_iload j (y d22_59) rfl <| o_icmpYes j (pc' := 355) (y d22_61) (XT.ii_ge_t (by decide)) <| o_iloadN j (y d22_355) rfl <| o_aload j (y d22_356) rfl rfl <| o_alen X48 hx hZ e48 A48v (y d22_358) <| o_icmpYes j (pc' := 365) (y d22_359) (XT.ii_ne_t (by decide)) <| o_aload j (y d22_365) rfl rfl <| o_iloadN j (y d22_367) rfl <| k) ?_
            refine cS [(.ref a1), (.int 2)] [] 0 X48 hx hZ hown (w 132 rfl) (w 133 rfl) (w 134 rfl) (w 135 rfl) (rmAC62 l Z a0 hw [] a1 kc1 (own_b c0) (63 : Int32) (0 : Int32) (0 : Int32) (0 : Int32) (0 : Int32) h48 n0 Z48 A48v) e48 hml pd_oaBIcaB (y d22_368) (fun v51 T51 L51 hQ51 X51 => ?_)
            obtain ⟨r_51, rk_51, rfl, N51a, K51, Q51_0, Q51_1⟩ := hQ51
            have N51 := Fr.app N48 N51a
            have e51 : T51.heap = T51.heap := rfl
            have P51 : Keep h0 T51.heap [] := (P48.trans K51 all0)
            have GK51_r : h0.size ≤ r_51 := Nat.le_trans P48.1 Q51_1
            have ne51_ba_r : ba ≠ r_51 := Nat.ne_of_lt (Nat.lt_of_lt_of_le A50.lt Q51_1)
            have ne51_a1_r : a1 ≠ r_51 := Nat.ne_of_lt (Nat.lt_of_lt_of_le A48v.lt Q51_1)
            exact rA X51 hx Bd rfl rfl rfl (y d22_371) e51 ⟨r_51, rk_51, rfl, N51, P51, (by rw [(own_np0 C6), (own_put1 C6), (own_putS C11 C20 (own_sur1 C32).1 (own_sur1 C32).2)]; exact Q51_0), GK51_r⟩
          · refine og2 X46 hx (fun j _ k => o_ifNo j (y d22_156) (XT.i0_eq_f C47) <| o_iloadN j (y d22_159) rfl <| o_iload j (y d22_160) rfl <| o_icmpYes j (pc' := 188) (y d22_162) (XT.ii_ge_t (by decide)) <| o_iload j (y d22_188) rfl <| o_ifNo j (y d22_190) (by decide) <| o_iloadN j (y d22_193) rfl <| o_ifNo j (y d22_194) (by decide) <| o_aload j (y d22_197) rfl rfl <| o_iloadN j (y d22_199) rfl <| o_iincL j 1 (y d22_200) rfl (2 : Int32) (by decide) rfl (l' := #[.val (.ref ba), .val (.int 1), .val (.int 2), .val (.int 2), .val (.int 2), .val (.ref a1), .val (.int c1), .val (.int (-1 : Int32)), .unset]) rfl <| o_bipushV j 63 (y d22_203) rfl <| k) ?_
            refine sB (v := (63 : Int32)) 1 X46 hx hZ e46 A7v (by decide) (y d22_205) (fun T55 h55 X55 e55 W55 A55 => ?_)
            have N55 := Fr.snoc X55 N46 G1
            have P55 := P7.wr W55 (Or.inr GK1)
            have Z55 : n0 ≤ h55.size := (by rw [W55.size]; exact Z7)
            have A57 := (A9.other W55 (Nat.ne_of_lt (Nat.lt_of_lt_of_eq pr2.lt g1.symm)))
            have A55v : Arv Z h55 a1 kc1 .byte (6 : Int32) [(.int (own_b c0)), (.int 63), (.int 0), (.int 0), (.int 0), (.int 0)] (.int 0) := A55
            refine og2 X55 hx (fun j _ k => o_goto j (pc' := 295) (y d22_206) <| o_goto j (pc' := 352) (y d22_295) <| o_goto j (pc' := 58) (y d22_352) <| o_iloadN j (y d22_58) rfl <| o_iload j (y d22_59) rfl <| o_icmpYes j (pc' := 355) (y d22_61) (XT.ii_ge_t (by decide)) <| o_iloadN j (y d22_355) rfl <| o_aload j (y d22_356) rfl rfl <| o_alen X55 hx hZ e55 A55v (y d22_358) <| o_icmpYes j (pc' := 365) (y d22_359) (XT.ii_ne_t (by decide)) <| o_aload j (y d22_365) rfl rfl <| o_iloadN j (y d22_367) rfl <| k) ?_
            refine cS [(.ref a1), (.int 2)] [] 0 X55 hx hZ hown (w 132 rfl) (w 133 rfl) (w 134 rfl) (w 135 rfl) (rmAC62 l Z a0 hw [] a1 kc1 (own_b c0) (63 : Int32) (0 : Int32) (0 : Int32) (0 : Int32) (0 : Int32) h55 n0 Z55 A55v) e55 hml pd_oaBIcaB (y d22_368) (fun v58 T58 L58 hQ58 X58 => ?_)
            obtain ⟨r_58, rk_58, rfl, N58a, K58, Q58_0, Q58_1⟩ := hQ58
            have N58 := Fr.app N55 N58a
            have e58 : T58.heap = T58.heap := rfl
            have P58 : Keep h0 T58.heap [] := (P55.trans K58 all0)
            have GK58_r : h0.size ≤ r_58 := Nat.le_trans P55.1 Q58_1
            have ne58_ba_r : ba ≠ r_58 := Nat.ne_of_lt (Nat.lt_of_lt_of_le A57.lt Q58_1)
            have ne58_a1_r : a1 ≠ r_58 := Nat.ne_of_lt (Nat.lt_of_lt_of_le A55v.lt Q58_1)
            exact rA X58 hx Bd rfl rfl rfl (y d22_371) e58 ⟨r_58, rk_58, rfl, N58, P58, (by rw [(own_np0 C6), (own_put1 C6), (own_putS C11 C20 (own_sur1 C32).1 (own_sur1 C32).2)]; exact Q58_0), GK58_r⟩
  · refine og2 X5 hx (fun j _ k => o_icmpNo j (y d22_36) (XT.ii_lt_f C6) <| o_goto j (pc' := 58) (y d22_39) <| o_iloadN j (y d22_58) rfl <| o_iload j (y d22_59) rfl <| o_icmpNo j (y d22_61) (XT.ii_ge_f (by decide)) <| o_aloadN j (y d22_64) rfl rfl <| o_iloadN j (y d22_65) rfl <| o_iincL j 1 (y d22_66) rfl (1 : Int32) (by decide) rfl (l' := #[.val (.ref ba), .val (.int 1), .val (.int 0), .val (.int 1), .val (.int 2), .val (.ref a1), .val (.int c0), .unset, .unset]) rfl <| k) ?_
    refine cS [(.ref ba), (.int 0)] [] 0 X5 hx hZ hown (w 118 rfl) (w 110 rfl) (w 88 rfl) (w 111 rfl) (rmGC20 l Z a0 hw [] cs u8 ba bk c0 c1 h1 n0 Z1 H0 O2 A3 H3) e5 hml pd_oaBIcC (y d22_69) (fun v62 T62 L62 hQ62 X62 => ?_)
    obtain ⟨rfl, N62a, eh62⟩ := hQ62
    have N62 := Fr.app N5 N62a
    have e62 : T62.heap = h1 := eh62
    refine og2 X62 hx (fun j _ k => o_istore j (y d22_72) (l' := #[.val (.ref ba), .val (.int 1), .val (.int 0), .val (.int 1), .val (.int 2), .val (.ref a1), .val (.int c0), .unset, .unset]) rfl <| o_iload j (y d22_74) rfl <| o_sipushV j 128 (y d22_76) rfl <| o_icmpYes j (pc' := 95) (y d22_79) (XT.ii_ge_t C6) <| o_iload j (y d22_95) rfl <| o_sipushV j 2048 (y d22_97) rfl <| k) ?_
    by_cases C63 : c0 < (2048 : Int32)
    · refine og2 X62 hx (fun j _ k => o_icmpNo j (y d22_100) (XT.ii_ge_f C63) <| o_aload j (y d22_103) rfl rfl <| o_iloadN j (y d22_105) rfl <| o_iincL j 1 (y d22_106) rfl (1 : Int32) (by decide) rfl (l' := #[.val (.ref ba), .val (.int 1), .val (.int 1), .val (.int 1), .val (.int 2), .val (.ref a1), .val (.int c0), .unset, .unset]) rfl <| o_sipushV j 192 (y d22_109) rfl <| o_iload j (y d22_112) rfl <| o_bipushV j 6 (y d22_114) rfl <| o_ishr j (y d22_116) <| o_ior j (y d22_117) <| o_i2bO j (y d22_118) <| k) ?_
      refine sB (v := own_b ((192 : Int32) ||| (c0 >>> ((6 : Int32) &&& 31)))) 0 X62 hx hZ e62 A4 (own_nar_b _) (y d22_119) (fun T64 h64 X64 e64 W64 A64 => ?_)
      have N64 := Fr.snoc X64 N62 G1
      have P64 := P1.wr W64 (Or.inr GK1)
      have Z64 : n0 ≤ h64.size := (by rw [W64.size]; exact Z1)
      have O65 := (O2.wr W64 G1)
      have A66 := (A3.other W64 (Nat.ne_of_lt (Nat.lt_of_lt_of_eq pr2.lt g1.symm)))
      have A64v : Arv Z h64 a1 kc1 .byte (6 : Int32) [(.int (own_b ((192 : Int32) ||| (c0 >>> ((6 : Int32) &&& 31))))), (.int 0), (.int 0), (.int 0), (.int 0), (.int 0)] (.int 0) := A64
      refine og2 X64 hx (fun j _ k => o_aload j (y d22_120) rfl rfl <| o_iloadN j (y d22_122) rfl <| o_iincL j 1 (y d22_123) rfl (2 : Int32) (by decide) rfl (l' := #[.val (.ref ba), .val (.int 1), .val (.int 2), .val (.int 1), .val (.int 2), .val (.ref a1), .val (.int c0), .unset, .unset]) rfl <| o_sipushV j 128 (y d22_126) rfl <| o_iload j (y d22_129) rfl <| o_bipushV j 63 (y d22_131) rfl <| o_iand j (y d22_133) <| o_ior j (y d22_134) <| o_i2bO j (y d22_135) <| k) ?_
      refine sB (v := own_b ((128 : Int32) ||| (c0 &&& (63 : Int32)))) 1 X64 hx hZ e64 A64v (own_nar_b _) (y d22_136) (fun T67 h67 X67 e67 W67 A67 => ?_)
      have N67 := Fr.snoc X67 N64 G1
      have P67 := P64.wr W67 (Or.inr GK1)
      have Z67 : n0 ≤ h67.size := (by rw [W67.size]; exact Z64)
      have O68 := (O65.wr W67 G1)
      have A69 := (A66.other W67 (Nat.ne_of_lt (Nat.lt_of_lt_of_eq pr2.lt g1.symm)))
      have A67v : Arv Z h67 a1 kc1 .byte (6 : Int32) [(.int (own_b ((192 : Int32) ||| (c0 >>> ((6 : Int32) &&& 31))))), (.int (own_b ((128 : Int32) ||| (c0 &&& (63 : Int32))))), (.int 0), (.int 0), (.int 0), (.int 0)] (.int 0) := A67
      refine og2 X67 hx (fun j _ k => o_goto j (pc' := 352) (y d22_137) <| o_goto j (pc' := 58) (y d22_352) <| o_iloadN j (y d22_58) rfl <| o_iload j (y d22_59) rfl <| o_icmpNo j (y d22_61) (XT.ii_ge_f (by decide)) <| o_aloadN j (y d22_64) rfl rfl <| o_iloadN j (y d22_65) rfl <| o_iincL j 1 (y d22_66) rfl (2 : Int32) (by decide) rfl (l' := #[.val (.ref ba), .val (.int 1), .val (.int 2), .val (.int 2), .val (.int 2), .val (.ref a1), .val (.int c0), .unset, .unset]) rfl <| k) ?_
      refine cS [(.ref ba), (.int 1)] [] 0 X67 hx hZ hown (w 118 rfl) (w 110 rfl) (w 88 rfl) (w 111 rfl) (rmGC21 l Z a0 hw [] cs u8 ba bk c0 c1 h67 n0 Z67 H0 O68 A69 H4) e67 hml pd_oaBIcC (y d22_69) (fun v70 T70 L70 hQ70 X70 => ?_)
      obtain ⟨rfl, N70a, eh70⟩ := hQ70
      have N70 := Fr.app N67 N70a
      have e70 : T70.heap = h67 := eh70
      refine og2 X70 hx (fun j _ k => o_istore j (y d22_72) (l' := #[.val (.ref ba), .val (.int 1), .val (.int 2), .val (.int 2), .val (.int 2), .val (.ref a1), .val (.int c1), .unset, .unset]) rfl <| o_iload j (y d22_74) rfl <| o_sipushV j 128 (y d22_76) rfl <| k) ?_
      by_cases C71 : c1 < (128 : Int32)
      · refine og2 X70 hx (fun j _ k => o_icmpNo j (y d22_79) (XT.ii_ge_f C71) <| o_aload j (y d22_82) rfl rfl <| o_iloadN j (y d22_84) rfl <| o_iincL j 1 (y d22_85) rfl (3 : Int32) (by decide) rfl (l' := #[.val (.ref ba), .val (.int 1), .val (.int 3), .val (.int 2), .val (.int 2), .val (.ref a1), .val (.int c1), .unset, .unset]) rfl <| o_iload j (y d22_88) rfl <| o_i2bO j (y d22_90) <| k) ?_
        refine sB (v := own_b c1) 2 X70 hx hZ e70 A67v (own_nar_b _) (y d22_91) (fun T72 h72 X72 e72 W72 A72 => ?_)
        have N72 := Fr.snoc X72 N70 G1
        have P72 := P67.wr W72 (Or.inr GK1)
        have Z72 : n0 ≤ h72.size := (by rw [W72.size]; exact Z67)
        have A74 := (A69.other W72 (Nat.ne_of_lt (Nat.lt_of_lt_of_eq pr2.lt g1.symm)))
        have A72v : Arv Z h72 a1 kc1 .byte (6 : Int32) [(.int (own_b ((192 : Int32) ||| (c0 >>> ((6 : Int32) &&& 31))))), (.int (own_b ((128 : Int32) ||| (c0 &&& (63 : Int32))))), (.int (own_b c1)), (.int 0), (.int 0), (.int 0)] (.int 0) := A72
        refine og2 X72 hx (fun j _ k => o_goto j (pc' := 352) (y d22_92) <| o_goto j (pc' := 58) (y d22_352) <| o_iloadN j (y d22_58) rfl <| o_iload j (y d22_59) rfl <| o_icmpYes j (pc' := 355) (y d22_61) (XT.ii_ge_t (by decide)) <| o_iloadN j (y d22_355) rfl <| o_aload j (y d22_356) rfl rfl <| o_alen X72 hx hZ e72 A72v (y d22_358) <| o_icmpYes j (pc' := 365) (y d22_359) (XT.ii_ne_t (by decide)) <| o_aload j (y d22_365) rfl rfl <| o_iloadN j (y d22_367) rfl <| k) ?_
        refine cS [(.ref a1), (.int 3)] [] 0 X72 hx hZ hown (w 132 rfl) (w 133 rfl) (w 134 rfl) (w 135 rfl) (rmAC63 l Z a0 hw [] a1 kc1 (own_b ((192 : Int32) ||| (c0 >>> ((6 : Int32) &&& 31)))) (own_b ((128 : Int32) ||| (c0 &&& (63 : Int32)))) (own_b c1) (0 : Int32) (0 : Int32) (0 : Int32) h72 n0 Z72 A72v) e72 hml pd_oaBIcaB (y d22_368) (fun v75 T75 L75 hQ75 X75 => ?_)
        obtain ⟨r_75, rk_75, rfl, N75a, K75, Q75_0, Q75_1⟩ := hQ75
        have N75 := Fr.app N72 N75a
        have e75 : T75.heap = T75.heap := rfl
        have P75 : Keep h0 T75.heap [] := (P72.trans K75 all0)
        have GK75_r : h0.size ≤ r_75 := Nat.le_trans P72.1 Q75_1
        have ne75_ba_r : ba ≠ r_75 := Nat.ne_of_lt (Nat.lt_of_lt_of_le A74.lt Q75_1)
        have ne75_a1_r : a1 ≠ r_75 := Nat.ne_of_lt (Nat.lt_of_lt_of_le A72v.lt Q75_1)
        exact rA X75 hx Bd rfl rfl rfl (y d22_371) e75 ⟨r_75, rk_75, rfl, N75, P75, (by rw [(own_np1 C63), (own_put2 C6 C63), (own_put1 C71)]; exact Q75_0), GK75_r⟩
      · refine og2 X70 hx (fun j _ k => o_icmpYes j (pc' := 95) (y d22_79) (XT.ii_ge_t C71) <| o_iload j (y d22_95) rfl <| o_sipushV j 2048 (y d22_97) rfl <| k) ?_
        by_cases C79 : c1 < (2048 : Int32)
        · refine og2 X70 hx (fun j _ k => o_icmpNo j (y d22_100) (XT.ii_ge_f C79) <| o_aload j (y d22_103) rfl rfl <| o_iloadN j (y d22_105) rfl <| o_iincL j 1 (y d22_106) rfl (3 : Int32) (by decide) rfl (l' := #[.val (.ref ba), .val (.int 1), .val (.int 3), .val (.int 2), .val (.int 2), .val (.ref a1), .val (.int c1), .unset, .unset]) rfl <| o_sipushV j 192 (y d22_109) rfl <| o_iload j (y d22_112) rfl <| o_bipushV j 6 (y d22_114) rfl <| o_ishr j (y d22_116) <| o_ior j (y d22_117) <| o_i2bO j (y d22_118) <| k) ?_
          refine sB (v := own_b ((192 : Int32) ||| (c1 >>> ((6 : Int32) &&& 31)))) 2 X70 hx hZ e70 A67v (own_nar_b _) (y d22_119) (fun T80 h80 X80 e80 W80 A80 => ?_)
          have N80 := Fr.snoc X80 N70 G1
          have P80 := P67.wr W80 (Or.inr GK1)
          have Z80 : n0 ≤ h80.size := (by rw [W80.size]; exact Z67)
          have A82 := (A69.other W80 (Nat.ne_of_lt (Nat.lt_of_lt_of_eq pr2.lt g1.symm)))
          have A80v : Arv Z h80 a1 kc1 .byte (6 : Int32) [(.int (own_b ((192 : Int32) ||| (c0 >>> ((6 : Int32) &&& 31))))), (.int (own_b ((128 : Int32) ||| (c0 &&& (63 : Int32))))), (.int (own_b ((192 : Int32) ||| (c1 >>> ((6 : Int32) &&& 31))))), (.int 0), (.int 0), (.int 0)] (.int 0) := A80
          refine og2 X80 hx (fun j _ k => o_aload j (y d22_120) rfl rfl <| o_iloadN j (y d22_122) rfl <| o_iincL j 1 (y d22_123) rfl (4 : Int32) (by decide) rfl (l' := #[.val (.ref ba), .val (.int 1), .val (.int 4), .val (.int 2), .val (.int 2), .val (.ref a1), .val (.int c1), .unset, .unset]) rfl <| o_sipushV j 128 (y d22_126) rfl <| o_iload j (y d22_129) rfl <| o_bipushV j 63 (y d22_131) rfl <| o_iand j (y d22_133) <| o_ior j (y d22_134) <| o_i2bO j (y d22_135) <| k) ?_
          refine sB (v := own_b ((128 : Int32) ||| (c1 &&& (63 : Int32)))) 3 X80 hx hZ e80 A80v (own_nar_b _) (y d22_136) (fun T83 h83 X83 e83 W83 A83 => ?_)
          have N83 := Fr.snoc X83 N80 G1
          have P83 := P80.wr W83 (Or.inr GK1)
          have Z83 : n0 ≤ h83.size := (by rw [W83.size]; exact Z80)
          have A85 := (A82.other W83 (Nat.ne_of_lt (Nat.lt_of_lt_of_eq pr2.lt g1.symm)))
          have A83v : Arv Z h83 a1 kc1 .byte (6 : Int32) [(.int (own_b ((192 : Int32) ||| (c0 >>> ((6 : Int32) &&& 31))))), (.int (own_b ((128 : Int32) ||| (c0 &&& (63 : Int32))))), (.int (own_b ((192 : Int32) ||| (c1 >>> ((6 : Int32) &&& 31))))), (.int (own_b ((128 : Int32) ||| (c1 &&& (63 : Int32))))), (.int 0), (.int 0)] (.int 0) := A83
          refine og2 X83 hx (fun j _ k => o_goto j (pc' := 352) (y d22_137) <| o_goto j (pc' := 58) (y d22_352) <| o_iloadN j (y d22_58) rfl <| o_iload j (y d22_59) rfl <| o_icmpYes j (pc' := 355) (y d22_61) (XT.ii_ge_t (by decide)) <| o_iloadN j (y d22_355) rfl <| o_aload j (y d22_356) rfl rfl <| o_alen X83 hx hZ e83 A83v (y d22_358) <| o_icmpYes j (pc' := 365) (y d22_359) (XT.ii_ne_t (by decide)) <| o_aload j (y d22_365) rfl rfl <| o_iloadN j (y d22_367) rfl <| k) ?_
          refine cS [(.ref a1), (.int 4)] [] 0 X83 hx hZ hown (w 132 rfl) (w 133 rfl) (w 134 rfl) (w 135 rfl) (rmAC64 l Z a0 hw [] a1 kc1 (own_b ((192 : Int32) ||| (c0 >>> ((6 : Int32) &&& 31)))) (own_b ((128 : Int32) ||| (c0 &&& (63 : Int32)))) (own_b ((192 : Int32) ||| (c1 >>> ((6 : Int32) &&& 31)))) (own_b ((128 : Int32) ||| (c1 &&& (63 : Int32)))) (0 : Int32) (0 : Int32) h83 n0 Z83 A83v) e83 hml pd_oaBIcaB (y d22_368) (fun v86 T86 L86 hQ86 X86 => ?_)
          obtain ⟨r_86, rk_86, rfl, N86a, K86, Q86_0, Q86_1⟩ := hQ86
          have N86 := Fr.app N83 N86a
          have e86 : T86.heap = T86.heap := rfl
          have P86 : Keep h0 T86.heap [] := (P83.trans K86 all0)
          have GK86_r : h0.size ≤ r_86 := Nat.le_trans P83.1 Q86_1
          have ne86_ba_r : ba ≠ r_86 := Nat.ne_of_lt (Nat.lt_of_lt_of_le A85.lt Q86_1)
          have ne86_a1_r : a1 ≠ r_86 := Nat.ne_of_lt (Nat.lt_of_lt_of_le A83v.lt Q86_1)
          exact rA X86 hx Bd rfl rfl rfl (y d22_371) e86 ⟨r_86, rk_86, rfl, N86, P86, (by rw [(own_np1 C63), (own_put2 C6 C63), (own_put2 C71 C79)]; exact Q86_0), GK86_r⟩
        · refine og2 X70 hx (fun j _ k => o_icmpYes j (pc' := 140) (y d22_100) (XT.ii_ge_t C79) <| o_iload j (y d22_140) rfl <| k) ?_
          refine cS [(.int c1)] [] 0 X70 hx hZ hown (w 119 rfl) (w 120 rfl) (w 121 rfl) (w 122 rfl) (rmSU l Z a0 hw [] c1 h67 n0 Z67) e70 hml pd_oCcZ (y d22_142) (fun v90 T90 L90 hQ90 X90 => ?_)
          obtain ⟨rfl, N90a, eh90⟩ := hQ90
          have N90 := Fr.app N70 N90a
          have e90 : T90.heap = h67 := eh90
          by_cases C91 : own_sur c1 = 0
          · refine og2 X90 hx (fun j _ k => o_ifYes j (pc' := 298) (y d22_145) (XT.i0_eq_t C91) <| o_aload j (y d22_298) rfl rfl <| o_iloadN j (y d22_300) rfl <| o_iincL j 1 (y d22_301) rfl (3 : Int32) (by decide) rfl (l' := #[.val (.ref ba), .val (.int 1), .val (.int 3), .val (.int 2), .val (.int 2), .val (.ref a1), .val (.int c1), .unset, .unset]) rfl <| o_sipushV j 224 (y d22_304) rfl <| o_iload j (y d22_307) rfl <| o_bipushV j 12 (y d22_309) rfl <| o_ishr j (y d22_311) <| o_ior j (y d22_312) <| o_i2bO j (y d22_313) <| k) ?_
            refine sB (v := own_b ((224 : Int32) ||| (c1 >>> ((12 : Int32) &&& 31)))) 2 X90 hx hZ e90 A67v (own_nar_b _) (y d22_314) (fun T92 h92 X92 e92 W92 A92 => ?_)
            have N92 := Fr.snoc X92 N90 G1
            have P92 := P67.wr W92 (Or.inr GK1)
            have Z92 : n0 ≤ h92.size := (by rw [W92.size]; exact Z67)
            have A94 := (A69.other W92 (Nat.ne_of_lt (Nat.lt_of_lt_of_eq pr2.lt g1.symm)))
            have A92v : Arv Z h92 a1 kc1 .byte (6 : Int32) [(.int (own_b ((192 : Int32) ||| (c0 >>> ((6 : Int32) &&& 31))))), (.int (own_b ((128 : Int32) ||| (c0 &&& (63 : Int32))))), (.int (own_b ((224 : Int32) ||| (c1 >>> ((12 : Int32) &&& 31))))), (.int 0), (.int 0), (.int 0)] (.int 0) := A92
            refine og2 X92 hx (fun j _ k => o_aload j (y d22_315) rfl rfl <| o_iloadN j (y d22_317) rfl <| o_iincL j 1 (y d22_318) rfl (4 : Int32) (by decide) rfl (l' := #[.val (.ref ba), .val (.int 1), .val (.int 4), .val (.int 2), .val (.int 2), .val (.ref a1), .val (.int c1), .unset, .unset]) rfl <| o_sipushV j 128 (y d22_321) rfl <| o_iload j (y d22_324) rfl <| o_bipushV j 6 (y d22_326) rfl <| o_ishr j (y d22_328) <| o_bipushV j 63 (y d22_329) rfl <| o_iand j (y d22_331) <| o_ior j (y d22_332) <| o_i2bO j (y d22_333) <| k) ?_
            refine sB (v := own_b ((128 : Int32) ||| ((c1 >>> ((6 : Int32) &&& 31)) &&& (63 : Int32)))) 3 X92 hx hZ e92 A92v (own_nar_b _) (y d22_334) (fun T95 h95 X95 e95 W95 A95 => ?_)
            have N95 := Fr.snoc X95 N92 G1
            have P95 := P92.wr W95 (Or.inr GK1)
            have Z95 : n0 ≤ h95.size := (by rw [W95.size]; exact Z92)
            have A97 := (A94.other W95 (Nat.ne_of_lt (Nat.lt_of_lt_of_eq pr2.lt g1.symm)))
            have A95v : Arv Z h95 a1 kc1 .byte (6 : Int32) [(.int (own_b ((192 : Int32) ||| (c0 >>> ((6 : Int32) &&& 31))))), (.int (own_b ((128 : Int32) ||| (c0 &&& (63 : Int32))))), (.int (own_b ((224 : Int32) ||| (c1 >>> ((12 : Int32) &&& 31))))), (.int (own_b ((128 : Int32) ||| ((c1 >>> ((6 : Int32) &&& 31)) &&& (63 : Int32))))), (.int 0), (.int 0)] (.int 0) := A95
            refine og2 X95 hx (fun j _ k => o_aload j (y d22_335) rfl rfl <| o_iloadN j (y d22_337) rfl <| o_iincL j 1 (y d22_338) rfl (5 : Int32) (by decide) rfl (l' := #[.val (.ref ba), .val (.int 1), .val (.int 5), .val (.int 2), .val (.int 2), .val (.ref a1), .val (.int c1), .unset, .unset]) rfl <| o_sipushV j 128 (y d22_341) rfl <| o_iload j (y d22_344) rfl <| o_bipushV j 63 (y d22_346) rfl <| o_iand j (y d22_348) <| o_ior j (y d22_349) <| o_i2bO j (y d22_350) <| k) ?_
            refine sB (v := own_b ((128 : Int32) ||| (c1 &&& (63 : Int32)))) 4 X95 hx hZ e95 A95v (own_nar_b _) (y d22_351) (fun T98 h98 X98 e98 W98 A98 => ?_)
            have N98 := Fr.snoc X98 N95 G1
            have P98 := P95.wr W98 (Or.inr GK1)
            have Z98 : n0 ≤ h98.size := (by rw [W98.size]; exact Z95)
            have A100 := (A97.other W98 (Nat.ne_of_lt (Nat.lt_of_lt_of_eq pr2.lt g1.symm)))
            have A98v : Arv Z h98 a1 kc1 .byte (6 : Int32) [(.int (own_b ((192 : Int32) ||| (c0 >>> ((6 : Int32) &&& 31))))), (.int (own_b ((128 : Int32) ||| (c0 &&& (63 : Int32))))), (.int (own_b ((224 : Int32) ||| (c1 >>> ((12 : Int32) &&& 31))))), (.int (own_b ((128 : Int32) ||| ((c1 >>> ((6 : Int32) &&& 31)) &&& (63 : Int32))))), (.int (own_b ((128 : Int32) ||| (c1 &&& (63 : Int32))))), (.int 0)] (.int 0) := A98
            refine og2 X98 hx (fun j _ k => o_goto j (pc' := 58) (y d22_352) <| o_iloadN j (y d22_58) rfl <| o_iload j (y d22_59) rfl <| o_icmpYes j (pc' := 355) (y d22_61) (XT.ii_ge_t (by decide)) <| o_iloadN j (y d22_355) rfl <| o_aload j (y d22_356) rfl rfl <| o_alen X98 hx hZ e98 A98v (y d22_358) <| o_icmpYes j (pc' := 365) (y d22_359) (XT.ii_ne_t (by decide)) <| o_aload j (y d22_365) rfl rfl <| o_iloadN j (y d22_367) rfl <| k) ?_
            refine cS [(.ref a1), (.int 5)] [] 0 X98 hx hZ hown (w 132 rfl) (w 133 rfl) (w 134 rfl) (w 135 rfl) (rmAC65 l Z a0 hw [] a1 kc1 (own_b ((192 : Int32) ||| (c0 >>> ((6 : Int32) &&& 31)))) (own_b ((128 : Int32) ||| (c0 &&& (63 : Int32)))) (own_b ((224 : Int32) ||| (c1 >>> ((12 : Int32) &&& 31)))) (own_b ((128 : Int32) ||| ((c1 >>> ((6 : Int32) &&& 31)) &&& (63 : Int32)))) (own_b ((128 : Int32) ||| (c1 &&& (63 : Int32)))) (0 : Int32) h98 n0 Z98 A98v) e98 hml pd_oaBIcaB (y d22_368) (fun v101 T101 L101 hQ101 X101 => ?_)
            obtain ⟨r_101, rk_101, rfl, N101a, K101, Q101_0, Q101_1⟩ := hQ101
            have N101 := Fr.app N98 N101a
            have e101 : T101.heap = T101.heap := rfl
            have P101 : Keep h0 T101.heap [] := (P98.trans K101 all0)
            have GK101_r : h0.size ≤ r_101 := Nat.le_trans P98.1 Q101_1
            have ne101_ba_r : ba ≠ r_101 := Nat.ne_of_lt (Nat.lt_of_lt_of_le A100.lt Q101_1)
            have ne101_a1_r : a1 ≠ r_101 := Nat.ne_of_lt (Nat.lt_of_lt_of_le A98v.lt Q101_1)
            exact rA X101 hx Bd rfl rfl rfl (y d22_371) e101 ⟨r_101, rk_101, rfl, N101, P101, (by rw [(own_np1 C63), (own_put2 C6 C63), (own_put3 C71 C79 (own_sur0 C91) (own_t16 H4))]; exact Q101_0), GK101_r⟩
          · refine og2 X90 hx (fun j _ k => o_ifNo j (y d22_145) (XT.i0_eq_f C91) <| o_iconstV j (-1) (y d22_148) rfl <| o_istore j (y d22_149) (l' := #[.val (.ref ba), .val (.int 1), .val (.int 2), .val (.int 2), .val (.int 2), .val (.ref a1), .val (.int c1), .val (.int (-1 : Int32)), .unset]) rfl <| o_iload j (y d22_151) rfl <| k) ?_
            refine cS [(.int c1)] [] 0 X90 hx hZ hown (w 125 rfl) (w 126 rfl) (w 121 rfl) (w 127 rfl) (rmHS l Z a0 hw [] c1 h67 n0 Z67) e90 hml pd_oCcZ (y d22_153) (fun v105 T105 L105 hQ105 X105 => ?_)
            obtain ⟨rfl, N105a, eh105⟩ := hQ105
            have N105 := Fr.app N90 N105a
            have e105 : T105.heap = h67 := eh105
            by_cases C106 : own_high c1 = 0
            · refine og2 X105 hx (fun j _ k => o_ifYes j (pc' := 188) (y d22_156) (XT.i0_eq_t C106) <| o_iload j (y d22_188) rfl <| o_ifNo j (y d22_190) (by decide) <| o_iloadN j (y d22_193) rfl <| o_ifNo j (y d22_194) (by decide) <| o_aload j (y d22_197) rfl rfl <| o_iloadN j (y d22_199) rfl <| o_iincL j 1 (y d22_200) rfl (3 : Int32) (by decide) rfl (l' := #[.val (.ref ba), .val (.int 1), .val (.int 3), .val (.int 2), .val (.int 2), .val (.ref a1), .val (.int c1), .val (.int (-1 : Int32)), .unset]) rfl <| o_bipushV j 63 (y d22_203) rfl <| k) ?_
              refine sB (v := (63 : Int32)) 2 X105 hx hZ e105 A67v (by decide) (y d22_205) (fun T107 h107 X107 e107 W107 A107 => ?_)
              have N107 := Fr.snoc X107 N105 G1
              have P107 := P67.wr W107 (Or.inr GK1)
              have Z107 : n0 ≤ h107.size := (by rw [W107.size]; exact Z67)
              have A109 := (A69.other W107 (Nat.ne_of_lt (Nat.lt_of_lt_of_eq pr2.lt g1.symm)))
              have A107v : Arv Z h107 a1 kc1 .byte (6 : Int32) [(.int (own_b ((192 : Int32) ||| (c0 >>> ((6 : Int32) &&& 31))))), (.int (own_b ((128 : Int32) ||| (c0 &&& (63 : Int32))))), (.int 63), (.int 0), (.int 0), (.int 0)] (.int 0) := A107
              refine og2 X107 hx (fun j _ k => o_goto j (pc' := 295) (y d22_206) <| o_goto j (pc' := 352) (y d22_295) <| o_goto j (pc' := 58) (y d22_352) <| o_iloadN j (y d22_58) rfl <| o_iload j (y d22_59) rfl <| o_icmpYes j (pc' := 355) (y d22_61) (XT.ii_ge_t (by decide)) <| o_iloadN j (y d22_355) rfl <| o_aload j (y d22_356) rfl rfl <| o_alen X107 hx hZ e107 A107v (y d22_358) <| o_icmpYes j (pc' := 365) (y d22_359) (XT.ii_ne_t (by decide)) <| o_aload j (y d22_365) rfl rfl <| o_iloadN j (y d22_367) rfl <| k) ?_
              refine cS [(.ref a1), (.int 3)] [] 0 X107 hx hZ hown (w 132 rfl) (w 133 rfl) (w 134 rfl) (w 135 rfl) (rmAC63 l Z a0 hw [] a1 kc1 (own_b ((192 : Int32) ||| (c0 >>> ((6 : Int32) &&& 31)))) (own_b ((128 : Int32) ||| (c0 &&& (63 : Int32)))) (63 : Int32) (0 : Int32) (0 : Int32) (0 : Int32) h107 n0 Z107 A107v) e107 hml pd_oaBIcaB (y d22_368) (fun v110 T110 L110 hQ110 X110 => ?_)
              obtain ⟨r_110, rk_110, rfl, N110a, K110, Q110_0, Q110_1⟩ := hQ110
              have N110 := Fr.app N107 N110a
              have e110 : T110.heap = T110.heap := rfl
              have P110 : Keep h0 T110.heap [] := (P107.trans K110 all0)
              have GK110_r : h0.size ≤ r_110 := Nat.le_trans P107.1 Q110_1
              have ne110_ba_r : ba ≠ r_110 := Nat.ne_of_lt (Nat.lt_of_lt_of_le A109.lt Q110_1)
              have ne110_a1_r : a1 ≠ r_110 := Nat.ne_of_lt (Nat.lt_of_lt_of_le A107v.lt Q110_1)
              exact rA X110 hx Bd rfl rfl rfl (y d22_371) e110 ⟨r_110, rk_110, rfl, N110, P110, (by rw [(own_np1 C63), (own_put2 C6 C63), (own_putS C71 C79 (own_sur1 C91).1 (own_sur1 C91).2)]; exact Q110_0), GK110_r⟩
            · refine og2 X105 hx (fun j _ k => o_ifNo j (y d22_156) (XT.i0_eq_f C106) <| o_iloadN j (y d22_159) rfl <| o_iload j (y d22_160) rfl <| o_icmpYes j (pc' := 188) (y d22_162) (XT.ii_ge_t (by decide)) <| o_iload j (y d22_188) rfl <| o_ifNo j (y d22_190) (by decide) <| o_iloadN j (y d22_193) rfl <| o_ifNo j (y d22_194) (by decide) <| o_aload j (y d22_197) rfl rfl <| o_iloadN j (y d22_199) rfl <| o_iincL j 1 (y d22_200) rfl (3 : Int32) (by decide) rfl (l' := #[.val (.ref ba), .val (.int 1), .val (.int 3), .val (.int 2), .val (.int 2), .val (.ref a1), .val (.int c1), .val (.int (-1 : Int32)), .unset]) rfl <| o_bipushV j 63 (y d22_203) rfl <| k) ?_
              refine sB (v := (63 : Int32)) 2 X105 hx hZ e105 A67v (by decide) (y d22_205) (fun T114 h114 X114 e114 W114 A114 => ?_)
              have N114 := Fr.snoc X114 N105 G1
              have P114 := P67.wr W114 (Or.inr GK1)
              have Z114 : n0 ≤ h114.size := (by rw [W114.size]; exact Z67)
              have A116 := (A69.other W114 (Nat.ne_of_lt (Nat.lt_of_lt_of_eq pr2.lt g1.symm)))
              have A114v : Arv Z h114 a1 kc1 .byte (6 : Int32) [(.int (own_b ((192 : Int32) ||| (c0 >>> ((6 : Int32) &&& 31))))), (.int (own_b ((128 : Int32) ||| (c0 &&& (63 : Int32))))), (.int 63), (.int 0), (.int 0), (.int 0)] (.int 0) := A114
              refine og2 X114 hx (fun j _ k => o_goto j (pc' := 295) (y d22_206) <| o_goto j (pc' := 352) (y d22_295) <| o_goto j (pc' := 58) (y d22_352) <| o_iloadN j (y d22_58) rfl <| o_iload j (y d22_59) rfl <| o_icmpYes j (pc' := 355) (y d22_61) (XT.ii_ge_t (by decide)) <| o_iloadN j (y d22_355) rfl <| o_aload j (y d22_356) rfl rfl <| o_alen X114 hx hZ e114 A114v (y d22_358) <| o_icmpYes j (pc' := 365) (y d22_359) (XT.ii_ne_t (by decide)) <| o_aload j (y d22_365) rfl rfl <| o_iloadN j (y d22_367) rfl <| k) ?_
              refine cS [(.ref a1), (.int 3)] [] 0 X114 hx hZ hown (w 132 rfl) (w 133 rfl) (w 134 rfl) (w 135 rfl) (rmAC63 l Z a0 hw [] a1 kc1 (own_b ((192 : Int32) ||| (c0 >>> ((6 : Int32) &&& 31)))) (own_b ((128 : Int32) ||| (c0 &&& (63 : Int32)))) (63 : Int32) (0 : Int32) (0 : Int32) (0 : Int32) h114 n0 Z114 A114v) e114 hml pd_oaBIcaB (y d22_368) (fun v117 T117 L117 hQ117 X117 => ?_)
              obtain ⟨r_117, rk_117, rfl, N117a, K117, Q117_0, Q117_1⟩ := hQ117
              have N117 := Fr.app N114 N117a
              have e117 : T117.heap = T117.heap := rfl
              have P117 : Keep h0 T117.heap [] := (P114.trans K117 all0)
              have GK117_r : h0.size ≤ r_117 := Nat.le_trans P114.1 Q117_1
              have ne117_ba_r : ba ≠ r_117 := Nat.ne_of_lt (Nat.lt_of_lt_of_le A116.lt Q117_1)
              have ne117_a1_r : a1 ≠ r_117 := Nat.ne_of_lt (Nat.lt_of_lt_of_le A114v.lt Q117_1)
              exact rA X117 hx Bd rfl rfl rfl (y d22_371) e117 ⟨r_117, rk_117, rfl, N117, P117, (by rw [(own_np1 C63), (own_put2 C6 C63), (own_putS C71 C79 (own_sur1 C91).1 (own_sur1 C91).2)]; exact Q117_0), GK117_r⟩
    · refine og2 X62 hx (fun j _ k => o_icmpYes j (pc' := 140) (y d22_100) (XT.ii_ge_t C63) <| o_iload j (y d22_140) rfl <| k) ?_
      refine cS [(.int c0)] [] 0 X62 hx hZ hown (w 119 rfl) (w 120 rfl) (w 121 rfl) (w 122 rfl) (rmSU l Z a0 hw [] c0 h1 n0 Z1) e62 hml pd_oCcZ (y d22_142) (fun v121 T121 L121 hQ121 X121 => ?_)
      obtain ⟨rfl, N121a, eh121⟩ := hQ121
      have N121 := Fr.app N62 N121a
      have e121 : T121.heap = h1 := eh121
      by_cases C122 : own_sur c0 = 0
      · refine og2 X121 hx (fun j _ k => o_ifYes j (pc' := 298) (y d22_145) (XT.i0_eq_t C122) <| o_aload j (y d22_298) rfl rfl <| o_iloadN j (y d22_300) rfl <| o_iincL j 1 (y d22_301) rfl (1 : Int32) (by decide) rfl (l' := #[.val (.ref ba), .val (.int 1), .val (.int 1), .val (.int 1), .val (.int 2), .val (.ref a1), .val (.int c0), .unset, .unset]) rfl <| o_sipushV j 224 (y d22_304) rfl <| o_iload j (y d22_307) rfl <| o_bipushV j 12 (y d22_309) rfl <| o_ishr j (y d22_311) <| o_ior j (y d22_312) <| o_i2bO j (y d22_313) <| k) ?_
        refine sB (v := own_b ((224 : Int32) ||| (c0 >>> ((12 : Int32) &&& 31)))) 0 X121 hx hZ e121 A4 (own_nar_b _) (y d22_314) (fun T123 h123 X123 e123 W123 A123 => ?_)
        have N123 := Fr.snoc X123 N121 G1
        have P123 := P1.wr W123 (Or.inr GK1)
        have Z123 : n0 ≤ h123.size := (by rw [W123.size]; exact Z1)
        have O124 := (O2.wr W123 G1)
        have A125 := (A3.other W123 (Nat.ne_of_lt (Nat.lt_of_lt_of_eq pr2.lt g1.symm)))
        have A123v : Arv Z h123 a1 kc1 .byte (6 : Int32) [(.int (own_b ((224 : Int32) ||| (c0 >>> ((12 : Int32) &&& 31))))), (.int 0), (.int 0), (.int 0), (.int 0), (.int 0)] (.int 0) := A123
        refine og2 X123 hx (fun j _ k => o_aload j (y d22_315) rfl rfl <| o_iloadN j (y d22_317) rfl <| o_iincL j 1 (y d22_318) rfl (2 : Int32) (by decide) rfl (l' := #[.val (.ref ba), .val (.int 1), .val (.int 2), .val (.int 1), .val (.int 2), .val (.ref a1), .val (.int c0), .unset, .unset]) rfl <| o_sipushV j 128 (y d22_321) rfl <| o_iload j (y d22_324) rfl <| o_bipushV j 6 (y d22_326) rfl <| o_ishr j (y d22_328) <| o_bipushV j 63 (y d22_329) rfl <| o_iand j (y d22_331) <| o_ior j (y d22_332) <| o_i2bO j (y d22_333) <| k) ?_
        refine sB (v := own_b ((128 : Int32) ||| ((c0 >>> ((6 : Int32) &&& 31)) &&& (63 : Int32)))) 1 X123 hx hZ e123 A123v (own_nar_b _) (y d22_334) (fun T126 h126 X126 e126 W126 A126 => ?_)
        have N126 := Fr.snoc X126 N123 G1
        have P126 := P123.wr W126 (Or.inr GK1)
        have Z126 : n0 ≤ h126.size := (by rw [W126.size]; exact Z123)
        have O127 := (O124.wr W126 G1)
        have A128 := (A125.other W126 (Nat.ne_of_lt (Nat.lt_of_lt_of_eq pr2.lt g1.symm)))
        have A126v : Arv Z h126 a1 kc1 .byte (6 : Int32) [(.int (own_b ((224 : Int32) ||| (c0 >>> ((12 : Int32) &&& 31))))), (.int (own_b ((128 : Int32) ||| ((c0 >>> ((6 : Int32) &&& 31)) &&& (63 : Int32))))), (.int 0), (.int 0), (.int 0), (.int 0)] (.int 0) := A126
        refine og2 X126 hx (fun j _ k => o_aload j (y d22_335) rfl rfl <| o_iloadN j (y d22_337) rfl <| o_iincL j 1 (y d22_338) rfl (3 : Int32) (by decide) rfl (l' := #[.val (.ref ba), .val (.int 1), .val (.int 3), .val (.int 1), .val (.int 2), .val (.ref a1), .val (.int c0), .unset, .unset]) rfl <| o_sipushV j 128 (y d22_341) rfl <| o_iload j (y d22_344) rfl <| o_bipushV j 63 (y d22_346) rfl <| o_iand j (y d22_348) <| o_ior j (y d22_349) <| o_i2bO j (y d22_350) <| k) ?_
        refine sB (v := own_b ((128 : Int32) ||| (c0 &&& (63 : Int32)))) 2 X126 hx hZ e126 A126v (own_nar_b _) (y d22_351) (fun T129 h129 X129 e129 W129 A129 => ?_)
        have N129 := Fr.snoc X129 N126 G1
        have P129 := P126.wr W129 (Or.inr GK1)
        have Z129 : n0 ≤ h129.size := (by rw [W129.size]; exact Z126)
        have O130 := (O127.wr W129 G1)
        have A131 := (A128.other W129 (Nat.ne_of_lt (Nat.lt_of_lt_of_eq pr2.lt g1.symm)))
        have A129v : Arv Z h129 a1 kc1 .byte (6 : Int32) [(.int (own_b ((224 : Int32) ||| (c0 >>> ((12 : Int32) &&& 31))))), (.int (own_b ((128 : Int32) ||| ((c0 >>> ((6 : Int32) &&& 31)) &&& (63 : Int32))))), (.int (own_b ((128 : Int32) ||| (c0 &&& (63 : Int32))))), (.int 0), (.int 0), (.int 0)] (.int 0) := A129
        refine og2 X129 hx (fun j _ k => o_goto j (pc' := 58) (y d22_352) <| o_iloadN j (y d22_58) rfl <| o_iload j (y d22_59) rfl <| o_icmpNo j (y d22_61) (XT.ii_ge_f (by decide)) <| o_aloadN j (y d22_64) rfl rfl <| o_iloadN j (y d22_65) rfl <| o_iincL j 1 (y d22_66) rfl (2 : Int32) (by decide) rfl (l' := #[.val (.ref ba), .val (.int 1), .val (.int 3), .val (.int 2), .val (.int 2), .val (.ref a1), .val (.int c0), .unset, .unset]) rfl <| k) ?_
        refine cS [(.ref ba), (.int 1)] [] 0 X129 hx hZ hown (w 118 rfl) (w 110 rfl) (w 88 rfl) (w 111 rfl) (rmGC21 l Z a0 hw [] cs u8 ba bk c0 c1 h129 n0 Z129 H0 O130 A131 H4) e129 hml pd_oaBIcC (y d22_69) (fun v132 T132 L132 hQ132 X132 => ?_)
        obtain ⟨rfl, N132a, eh132⟩ := hQ132
        have N132 := Fr.app N129 N132a
        have e132 : T132.heap = h129 := eh132
        refine og2 X132 hx (fun j _ k => o_istore j (y d22_72) (l' := #[.val (.ref ba), .val (.int 1), .val (.int 3), .val (.int 2), .val (.int 2), .val (.ref a1), .val (.int c1), .unset, .unset]) rfl <| o_iload j (y d22_74) rfl <| o_sipushV j 128 (y d22_76) rfl <| k) ?_
        by_cases C133 : c1 < (128 : Int32)
        · refine og2 X132 hx (fun j _ k => o_icmpNo j (y d22_79) (XT.ii_ge_f C133) <| o_aload j (y d22_82) rfl rfl <| o_iloadN j (y d22_84) rfl <| o_iincL j 1 (y d22_85) rfl (4 : Int32) (by decide) rfl (l' := #[.val (.ref ba), .val (.int 1), .val (.int 4), .val (.int 2), .val (.int 2), .val (.ref a1), .val (.int c1), .unset, .unset]) rfl <| o_iload j (y d22_88) rfl <| o_i2bO j (y d22_90) <| k) ?_
          refine sB (v := own_b c1) 3 X132 hx hZ e132 A129v (own_nar_b _) (y d22_91) (fun T134 h134 X134 e134 W134 A134 => ?_)
          have N134 := Fr.snoc X134 N132 G1
          have P134 := P129.wr W134 (Or.inr GK1)
          have Z134 : n0 ≤ h134.size := (by rw [W134.size]; exact Z129)
          have A136 := (A131.other W134 (Nat.ne_of_lt (Nat.lt_of_lt_of_eq pr2.lt g1.symm)))
          have A134v : Arv Z h134 a1 kc1 .byte (6 : Int32) [(.int (own_b ((224 : Int32) ||| (c0 >>> ((12 : Int32) &&& 31))))), (.int (own_b ((128 : Int32) ||| ((c0 >>> ((6 : Int32) &&& 31)) &&& (63 : Int32))))), (.int (own_b ((128 : Int32) ||| (c0 &&& (63 : Int32))))), (.int (own_b c1)), (.int 0), (.int 0)] (.int 0) := A134
          refine og2 X134 hx (fun j _ k => o_goto j (pc' := 352) (y d22_92) <| o_goto j (pc' := 58) (y d22_352) <| o_iloadN j (y d22_58) rfl <| o_iload j (y d22_59) rfl <| o_icmpYes j (pc' := 355) (y d22_61) (XT.ii_ge_t (by decide)) <| o_iloadN j (y d22_355) rfl <| o_aload j (y d22_356) rfl rfl <| o_alen X134 hx hZ e134 A134v (y d22_358) <| o_icmpYes j (pc' := 365) (y d22_359) (XT.ii_ne_t (by decide)) <| o_aload j (y d22_365) rfl rfl <| o_iloadN j (y d22_367) rfl <| k) ?_
          refine cS [(.ref a1), (.int 4)] [] 0 X134 hx hZ hown (w 132 rfl) (w 133 rfl) (w 134 rfl) (w 135 rfl) (rmAC64 l Z a0 hw [] a1 kc1 (own_b ((224 : Int32) ||| (c0 >>> ((12 : Int32) &&& 31)))) (own_b ((128 : Int32) ||| ((c0 >>> ((6 : Int32) &&& 31)) &&& (63 : Int32)))) (own_b ((128 : Int32) ||| (c0 &&& (63 : Int32)))) (own_b c1) (0 : Int32) (0 : Int32) h134 n0 Z134 A134v) e134 hml pd_oaBIcaB (y d22_368) (fun v137 T137 L137 hQ137 X137 => ?_)
          obtain ⟨r_137, rk_137, rfl, N137a, K137, Q137_0, Q137_1⟩ := hQ137
          have N137 := Fr.app N134 N137a
          have e137 : T137.heap = T137.heap := rfl
          have P137 : Keep h0 T137.heap [] := (P134.trans K137 all0)
          have GK137_r : h0.size ≤ r_137 := Nat.le_trans P134.1 Q137_1
          have ne137_ba_r : ba ≠ r_137 := Nat.ne_of_lt (Nat.lt_of_lt_of_le A136.lt Q137_1)
          have ne137_a1_r : a1 ≠ r_137 := Nat.ne_of_lt (Nat.lt_of_lt_of_le A134v.lt Q137_1)
          exact rA X137 hx Bd rfl rfl rfl (y d22_371) e137 ⟨r_137, rk_137, rfl, N137, P137, (by rw [(own_np2 C122), (own_put3 C6 C63 (own_sur0 C122) (own_t16 H3)), (own_put1 C133)]; exact Q137_0), GK137_r⟩
        · refine og2 X132 hx (fun j _ k => o_icmpYes j (pc' := 95) (y d22_79) (XT.ii_ge_t C133) <| o_iload j (y d22_95) rfl <| o_sipushV j 2048 (y d22_97) rfl <| k) ?_
          by_cases C141 : c1 < (2048 : Int32)
          · refine og2 X132 hx (fun j _ k => o_icmpNo j (y d22_100) (XT.ii_ge_f C141) <| o_aload j (y d22_103) rfl rfl <| o_iloadN j (y d22_105) rfl <| o_iincL j 1 (y d22_106) rfl (4 : Int32) (by decide) rfl (l' := #[.val (.ref ba), .val (.int 1), .val (.int 4), .val (.int 2), .val (.int 2), .val (.ref a1), .val (.int c1), .unset, .unset]) rfl <| o_sipushV j 192 (y d22_109) rfl <| o_iload j (y d22_112) rfl <| o_bipushV j 6 (y d22_114) rfl <| o_ishr j (y d22_116) <| o_ior j (y d22_117) <| o_i2bO j (y d22_118) <| k) ?_
            refine sB (v := own_b ((192 : Int32) ||| (c1 >>> ((6 : Int32) &&& 31)))) 3 X132 hx hZ e132 A129v (own_nar_b _) (y d22_119) (fun T142 h142 X142 e142 W142 A142 => ?_)
            have N142 := Fr.snoc X142 N132 G1
            have P142 := P129.wr W142 (Or.inr GK1)
            have Z142 : n0 ≤ h142.size := (by rw [W142.size]; exact Z129)
            have A144 := (A131.other W142 (Nat.ne_of_lt (Nat.lt_of_lt_of_eq pr2.lt g1.symm)))
            have A142v : Arv Z h142 a1 kc1 .byte (6 : Int32) [(.int (own_b ((224 : Int32) ||| (c0 >>> ((12 : Int32) &&& 31))))), (.int (own_b ((128 : Int32) ||| ((c0 >>> ((6 : Int32) &&& 31)) &&& (63 : Int32))))), (.int (own_b ((128 : Int32) ||| (c0 &&& (63 : Int32))))), (.int (own_b ((192 : Int32) ||| (c1 >>> ((6 : Int32) &&& 31))))), (.int 0), (.int 0)] (.int 0) := A142
            refine og2 X142 hx (fun j _ k => o_aload j (y d22_120) rfl rfl <| o_iloadN j (y d22_122) rfl <| o_iincL j 1 (y d22_123) rfl (5 : Int32) (by decide) rfl (l' := #[.val (.ref ba), .val (.int 1), .val (.int 5), .val (.int 2), .val (.int 2), .val (.ref a1), .val (.int c1), .unset, .unset]) rfl <| o_sipushV j 128 (y d22_126) rfl <| o_iload j (y d22_129) rfl <| o_bipushV j 63 (y d22_131) rfl <| o_iand j (y d22_133) <| o_ior j (y d22_134) <| o_i2bO j (y d22_135) <| k) ?_
            refine sB (v := own_b ((128 : Int32) ||| (c1 &&& (63 : Int32)))) 4 X142 hx hZ e142 A142v (own_nar_b _) (y d22_136) (fun T145 h145 X145 e145 W145 A145 => ?_)
            have N145 := Fr.snoc X145 N142 G1
            have P145 := P142.wr W145 (Or.inr GK1)
            have Z145 : n0 ≤ h145.size := (by rw [W145.size]; exact Z142)
            have A147 := (A144.other W145 (Nat.ne_of_lt (Nat.lt_of_lt_of_eq pr2.lt g1.symm)))
            have A145v : Arv Z h145 a1 kc1 .byte (6 : Int32) [(.int (own_b ((224 : Int32) ||| (c0 >>> ((12 : Int32) &&& 31))))), (.int (own_b ((128 : Int32) ||| ((c0 >>> ((6 : Int32) &&& 31)) &&& (63 : Int32))))), (.int (own_b ((128 : Int32) ||| (c0 &&& (63 : Int32))))), (.int (own_b ((192 : Int32) ||| (c1 >>> ((6 : Int32) &&& 31))))), (.int (own_b ((128 : Int32) ||| (c1 &&& (63 : Int32))))), (.int 0)] (.int 0) := A145
            refine og2 X145 hx (fun j _ k => o_goto j (pc' := 352) (y d22_137) <| o_goto j (pc' := 58) (y d22_352) <| o_iloadN j (y d22_58) rfl <| o_iload j (y d22_59) rfl <| o_icmpYes j (pc' := 355) (y d22_61) (XT.ii_ge_t (by decide)) <| o_iloadN j (y d22_355) rfl <| o_aload j (y d22_356) rfl rfl <| o_alen X145 hx hZ e145 A145v (y d22_358) <| o_icmpYes j (pc' := 365) (y d22_359) (XT.ii_ne_t (by decide)) <| o_aload j (y d22_365) rfl rfl <| o_iloadN j (y d22_367) rfl <| k) ?_
            refine cS [(.ref a1), (.int 5)] [] 0 X145 hx hZ hown (w 132 rfl) (w 133 rfl) (w 134 rfl) (w 135 rfl) (rmAC65 l Z a0 hw [] a1 kc1 (own_b ((224 : Int32) ||| (c0 >>> ((12 : Int32) &&& 31)))) (own_b ((128 : Int32) ||| ((c0 >>> ((6 : Int32) &&& 31)) &&& (63 : Int32)))) (own_b ((128 : Int32) ||| (c0 &&& (63 : Int32)))) (own_b ((192 : Int32) ||| (c1 >>> ((6 : Int32) &&& 31)))) (own_b ((128 : Int32) ||| (c1 &&& (63 : Int32)))) (0 : Int32) h145 n0 Z145 A145v) e145 hml pd_oaBIcaB (y d22_368) (fun v148 T148 L148 hQ148 X148 => ?_)
            obtain ⟨r_148, rk_148, rfl, N148a, K148, Q148_0, Q148_1⟩ := hQ148
            have N148 := Fr.app N145 N148a
            have e148 : T148.heap = T148.heap := rfl
            have P148 : Keep h0 T148.heap [] := (P145.trans K148 all0)
            have GK148_r : h0.size ≤ r_148 := Nat.le_trans P145.1 Q148_1
            have ne148_ba_r : ba ≠ r_148 := Nat.ne_of_lt (Nat.lt_of_lt_of_le A147.lt Q148_1)
            have ne148_a1_r : a1 ≠ r_148 := Nat.ne_of_lt (Nat.lt_of_lt_of_le A145v.lt Q148_1)
            exact rA X148 hx Bd rfl rfl rfl (y d22_371) e148 ⟨r_148, rk_148, rfl, N148, P148, (by rw [(own_np2 C122), (own_put3 C6 C63 (own_sur0 C122) (own_t16 H3)), (own_put2 C133 C141)]; exact Q148_0), GK148_r⟩
          · refine og2 X132 hx (fun j _ k => o_icmpYes j (pc' := 140) (y d22_100) (XT.ii_ge_t C141) <| o_iload j (y d22_140) rfl <| k) ?_
            refine cS [(.int c1)] [] 0 X132 hx hZ hown (w 119 rfl) (w 120 rfl) (w 121 rfl) (w 122 rfl) (rmSU l Z a0 hw [] c1 h129 n0 Z129) e132 hml pd_oCcZ (y d22_142) (fun v152 T152 L152 hQ152 X152 => ?_)
            obtain ⟨rfl, N152a, eh152⟩ := hQ152
            have N152 := Fr.app N132 N152a
            have e152 : T152.heap = h129 := eh152
            by_cases C153 : own_sur c1 = 0
            · refine og2 X152 hx (fun j _ k => o_ifYes j (pc' := 298) (y d22_145) (XT.i0_eq_t C153) <| o_aload j (y d22_298) rfl rfl <| o_iloadN j (y d22_300) rfl <| o_iincL j 1 (y d22_301) rfl (4 : Int32) (by decide) rfl (l' := #[.val (.ref ba), .val (.int 1), .val (.int 4), .val (.int 2), .val (.int 2), .val (.ref a1), .val (.int c1), .unset, .unset]) rfl <| o_sipushV j 224 (y d22_304) rfl <| o_iload j (y d22_307) rfl <| o_bipushV j 12 (y d22_309) rfl <| o_ishr j (y d22_311) <| o_ior j (y d22_312) <| o_i2bO j (y d22_313) <| k) ?_
              refine sB (v := own_b ((224 : Int32) ||| (c1 >>> ((12 : Int32) &&& 31)))) 3 X152 hx hZ e152 A129v (own_nar_b _) (y d22_314) (fun T154 h154 X154 e154 W154 A154 => ?_)
              have N154 := Fr.snoc X154 N152 G1
              have P154 := P129.wr W154 (Or.inr GK1)
              have A154v : Arv Z h154 a1 kc1 .byte (6 : Int32) [(.int (own_b ((224 : Int32) ||| (c0 >>> ((12 : Int32) &&& 31))))), (.int (own_b ((128 : Int32) ||| ((c0 >>> ((6 : Int32) &&& 31)) &&& (63 : Int32))))), (.int (own_b ((128 : Int32) ||| (c0 &&& (63 : Int32))))), (.int (own_b ((224 : Int32) ||| (c1 >>> ((12 : Int32) &&& 31))))), (.int 0), (.int 0)] (.int 0) := A154
              refine og2 X154 hx (fun j _ k => o_aload j (y d22_315) rfl rfl <| o_iloadN j (y d22_317) rfl <| o_iincL j 1 (y d22_318) rfl (5 : Int32) (by decide) rfl (l' := #[.val (.ref ba), .val (.int 1), .val (.int 5), .val (.int 2), .val (.int 2), .val (.ref a1), .val (.int c1), .unset, .unset]) rfl <| o_sipushV j 128 (y d22_321) rfl <| o_iload j (y d22_324) rfl <| o_bipushV j 6 (y d22_326) rfl <| o_ishr j (y d22_328) <| o_bipushV j 63 (y d22_329) rfl <| o_iand j (y d22_331) <| o_ior j (y d22_332) <| o_i2bO j (y d22_333) <| k) ?_
              refine sB (v := own_b ((128 : Int32) ||| ((c1 >>> ((6 : Int32) &&& 31)) &&& (63 : Int32)))) 4 X154 hx hZ e154 A154v (own_nar_b _) (y d22_334) (fun T157 h157 X157 e157 W157 A157 => ?_)
              have N157 := Fr.snoc X157 N154 G1
              have P157 := P154.wr W157 (Or.inr GK1)
              have A157v : Arv Z h157 a1 kc1 .byte (6 : Int32) [(.int (own_b ((224 : Int32) ||| (c0 >>> ((12 : Int32) &&& 31))))), (.int (own_b ((128 : Int32) ||| ((c0 >>> ((6 : Int32) &&& 31)) &&& (63 : Int32))))), (.int (own_b ((128 : Int32) ||| (c0 &&& (63 : Int32))))), (.int (own_b ((224 : Int32) ||| (c1 >>> ((12 : Int32) &&& 31))))), (.int (own_b ((128 : Int32) ||| ((c1 >>> ((6 : Int32) &&& 31)) &&& (63 : Int32))))), (.int 0)] (.int 0) := A157
              refine og2 X157 hx (fun j _ k => o_aload j (y d22_335) rfl rfl <| o_iloadN j (y d22_337) rfl <| o_iincL j 1 (y d22_338) rfl (6 : Int32) (by decide) rfl (l' := #[.val (.ref ba), .val (.int 1), .val (.int 6), .val (.int 2), .val (.int 2), .val (.ref a1), .val (.int c1), .unset, .unset]) rfl <| o_sipushV j 128 (y d22_341) rfl <| o_iload j (y d22_344) rfl <| o_bipushV j 63 (y d22_346) rfl <| o_iand j (y d22_348) <| o_ior j (y d22_349) <| o_i2bO j (y d22_350) <| k) ?_
              refine sB (v := own_b ((128 : Int32) ||| (c1 &&& (63 : Int32)))) 5 X157 hx hZ e157 A157v (own_nar_b _) (y d22_351) (fun T160 h160 X160 e160 W160 A160 => ?_)
              have N160 := Fr.snoc X160 N157 G1
              have P160 := P157.wr W160 (Or.inr GK1)
              have A160v : Arv Z h160 a1 kc1 .byte (6 : Int32) [(.int (own_b ((224 : Int32) ||| (c0 >>> ((12 : Int32) &&& 31))))), (.int (own_b ((128 : Int32) ||| ((c0 >>> ((6 : Int32) &&& 31)) &&& (63 : Int32))))), (.int (own_b ((128 : Int32) ||| (c0 &&& (63 : Int32))))), (.int (own_b ((224 : Int32) ||| (c1 >>> ((12 : Int32) &&& 31))))), (.int (own_b ((128 : Int32) ||| ((c1 >>> ((6 : Int32) &&& 31)) &&& (63 : Int32))))), (.int (own_b ((128 : Int32) ||| (c1 &&& (63 : Int32)))))] (.int 0) := A160
              refine og2 X160 hx (fun j _ k => o_goto j (pc' := 58) (y d22_352) <| o_iloadN j (y d22_58) rfl <| o_iload j (y d22_59) rfl <| o_icmpYes j (pc' := 355) (y d22_61) (XT.ii_ge_t (by decide)) <| o_iloadN j (y d22_355) rfl <| o_aload j (y d22_356) rfl rfl <| o_alen X160 hx hZ e160 A160v (y d22_358) <| o_icmpNo j (y d22_359) (XT.ii_ne_f rfl) <| o_aload j (y d22_362) rfl rfl <| k) ?_
              exact rA X160 hx Bd rfl rfl rfl (y d22_364) e160 ⟨a1, kc1, rfl, N160, P160, (by rw [(own_np2 C122), (own_put3 C6 C63 (own_sur0 C122) (own_t16 H3)), (own_put3 C133 C141 (own_sur0 C153) (own_t16 H4))]; exact A160v), GK1⟩
            · refine og2 X152 hx (fun j _ k => o_ifNo j (y d22_145) (XT.i0_eq_f C153) <| o_iconstV j (-1) (y d22_148) rfl <| o_istore j (y d22_149) (l' := #[.val (.ref ba), .val (.int 1), .val (.int 3), .val (.int 2), .val (.int 2), .val (.ref a1), .val (.int c1), .val (.int (-1 : Int32)), .unset]) rfl <| o_iload j (y d22_151) rfl <| k) ?_
              refine cS [(.int c1)] [] 0 X152 hx hZ hown (w 125 rfl) (w 126 rfl) (w 121 rfl) (w 127 rfl) (rmHS l Z a0 hw [] c1 h129 n0 Z129) e152 hml pd_oCcZ (y d22_153) (fun v163 T163 L163 hQ163 X163 => ?_)
              obtain ⟨rfl, N163a, eh163⟩ := hQ163
              have N163 := Fr.app N152 N163a
              have e163 : T163.heap = h129 := eh163
              by_cases C164 : own_high c1 = 0
              · refine og2 X163 hx (fun j _ k => o_ifYes j (pc' := 188) (y d22_156) (XT.i0_eq_t C164) <| o_iload j (y d22_188) rfl <| o_ifNo j (y d22_190) (by decide) <| o_iloadN j (y d22_193) rfl <| o_ifNo j (y d22_194) (by decide) <| o_aload j (y d22_197) rfl rfl <| o_iloadN j (y d22_199) rfl <| o_iincL j 1 (y d22_200) rfl (4 : Int32) (by decide) rfl (l' := #[.val (.ref ba), .val (.int 1), .val (.int 4), .val (.int 2), .val (.int 2), .val (.ref a1), .val (.int c1), .val (.int (-1 : Int32)), .unset]) rfl <| o_bipushV j 63 (y d22_203) rfl <| k) ?_
                refine sB (v := (63 : Int32)) 3 X163 hx hZ e163 A129v (by decide) (y d22_205) (fun T165 h165 X165 e165 W165 A165 => ?_)
                have N165 := Fr.snoc X165 N163 G1
                have P165 := P129.wr W165 (Or.inr GK1)
                have Z165 : n0 ≤ h165.size := (by rw [W165.size]; exact Z129)
                have A167 := (A131.other W165 (Nat.ne_of_lt (Nat.lt_of_lt_of_eq pr2.lt g1.symm)))
                have A165v : Arv Z h165 a1 kc1 .byte (6 : Int32) [(.int (own_b ((224 : Int32) ||| (c0 >>> ((12 : Int32) &&& 31))))), (.int (own_b ((128 : Int32) ||| ((c0 >>> ((6 : Int32) &&& 31)) &&& (63 : Int32))))), (.int (own_b ((128 : Int32) ||| (c0 &&& (63 : Int32))))), (.int 63), (.int 0), (.int 0)] (.int 0) := A165
                refine og2 X165 hx (fun j _ k => o_goto j (pc' := 295) (y d22_206) <| o_goto j (pc' := 352) (y d22_295) <| o_goto j (pc' := 58) (y d22_352) <| o_iloadN j (y d22_58) rfl <| o_iload j (y d22_59) rfl <| o_icmpYes j (pc' := 355) (y d22_61) (XT.ii_ge_t (by decide)) <| o_iloadN j (y d22_355) rfl <| o_aload j (y d22_356) rfl rfl <| o_alen X165 hx hZ e165 A165v (y d22_358) <| o_icmpYes j (pc' := 365) (y d22_359) (XT.ii_ne_t (by decide)) <| o_aload j (y d22_365) rfl rfl <| o_iloadN j (y d22_367) rfl <| k) ?_
                refine cS [(.ref a1), (.int 4)] [] 0 X165 hx hZ hown (w 132 rfl) (w 133 rfl) (w 134 rfl) (w 135 rfl) (rmAC64 l Z a0 hw [] a1 kc1 (own_b ((224 : Int32) ||| (c0 >>> ((12 : Int32) &&& 31)))) (own_b ((128 : Int32) ||| ((c0 >>> ((6 : Int32) &&& 31)) &&& (63 : Int32)))) (own_b ((128 : Int32) ||| (c0 &&& (63 : Int32)))) (63 : Int32) (0 : Int32) (0 : Int32) h165 n0 Z165 A165v) e165 hml pd_oaBIcaB (y d22_368) (fun v168 T168 L168 hQ168 X168 => ?_)
                obtain ⟨r_168, rk_168, rfl, N168a, K168, Q168_0, Q168_1⟩ := hQ168
                have N168 := Fr.app N165 N168a
                have e168 : T168.heap = T168.heap := rfl
                have P168 : Keep h0 T168.heap [] := (P165.trans K168 all0)
                have GK168_r : h0.size ≤ r_168 := Nat.le_trans P165.1 Q168_1
                have ne168_ba_r : ba ≠ r_168 := Nat.ne_of_lt (Nat.lt_of_lt_of_le A167.lt Q168_1)
                have ne168_a1_r : a1 ≠ r_168 := Nat.ne_of_lt (Nat.lt_of_lt_of_le A165v.lt Q168_1)
                exact rA X168 hx Bd rfl rfl rfl (y d22_371) e168 ⟨r_168, rk_168, rfl, N168, P168, (by rw [(own_np2 C122), (own_put3 C6 C63 (own_sur0 C122) (own_t16 H3)), (own_putS C133 C141 (own_sur1 C153).1 (own_sur1 C153).2)]; exact Q168_0), GK168_r⟩
              · refine og2 X163 hx (fun j _ k => o_ifNo j (y d22_156) (XT.i0_eq_f C164) <| o_iloadN j (y d22_159) rfl <| o_iload j (y d22_160) rfl <| o_icmpYes j (pc' := 188) (y d22_162) (XT.ii_ge_t (by decide)) <| o_iload j (y d22_188) rfl <| o_ifNo j (y d22_190) (by decide) <| o_iloadN j (y d22_193) rfl <| o_ifNo j (y d22_194) (by decide) <| o_aload j (y d22_197) rfl rfl <| o_iloadN j (y d22_199) rfl <| o_iincL j 1 (y d22_200) rfl (4 : Int32) (by decide) rfl (l' := #[.val (.ref ba), .val (.int 1), .val (.int 4), .val (.int 2), .val (.int 2), .val (.ref a1), .val (.int c1), .val (.int (-1 : Int32)), .unset]) rfl <| o_bipushV j 63 (y d22_203) rfl <| k) ?_
                refine sB (v := (63 : Int32)) 3 X163 hx hZ e163 A129v (by decide) (y d22_205) (fun T172 h172 X172 e172 W172 A172 => ?_)
                have N172 := Fr.snoc X172 N163 G1
                have P172 := P129.wr W172 (Or.inr GK1)
                have Z172 : n0 ≤ h172.size := (by rw [W172.size]; exact Z129)
                have A174 := (A131.other W172 (Nat.ne_of_lt (Nat.lt_of_lt_of_eq pr2.lt g1.symm)))
                have A172v : Arv Z h172 a1 kc1 .byte (6 : Int32) [(.int (own_b ((224 : Int32) ||| (c0 >>> ((12 : Int32) &&& 31))))), (.int (own_b ((128 : Int32) ||| ((c0 >>> ((6 : Int32) &&& 31)) &&& (63 : Int32))))), (.int (own_b ((128 : Int32) ||| (c0 &&& (63 : Int32))))), (.int 63), (.int 0), (.int 0)] (.int 0) := A172
                refine og2 X172 hx (fun j _ k => o_goto j (pc' := 295) (y d22_206) <| o_goto j (pc' := 352) (y d22_295) <| o_goto j (pc' := 58) (y d22_352) <| o_iloadN j (y d22_58) rfl <| o_iload j (y d22_59) rfl <| o_icmpYes j (pc' := 355) (y d22_61) (XT.ii_ge_t (by decide)) <| o_iloadN j (y d22_355) rfl <| o_aload j (y d22_356) rfl rfl <| o_alen X172 hx hZ e172 A172v (y d22_358) <| o_icmpYes j (pc' := 365) (y d22_359) (XT.ii_ne_t (by decide)) <| o_aload j (y d22_365) rfl rfl <| o_iloadN j (y d22_367) rfl <| k) ?_
                refine cS [(.ref a1), (.int 4)] [] 0 X172 hx hZ hown (w 132 rfl) (w 133 rfl) (w 134 rfl) (w 135 rfl) (rmAC64 l Z a0 hw [] a1 kc1 (own_b ((224 : Int32) ||| (c0 >>> ((12 : Int32) &&& 31)))) (own_b ((128 : Int32) ||| ((c0 >>> ((6 : Int32) &&& 31)) &&& (63 : Int32)))) (own_b ((128 : Int32) ||| (c0 &&& (63 : Int32)))) (63 : Int32) (0 : Int32) (0 : Int32) h172 n0 Z172 A172v) e172 hml pd_oaBIcaB (y d22_368) (fun v175 T175 L175 hQ175 X175 => ?_)
                obtain ⟨r_175, rk_175, rfl, N175a, K175, Q175_0, Q175_1⟩ := hQ175
                have N175 := Fr.app N172 N175a
                have e175 : T175.heap = T175.heap := rfl
                have P175 : Keep h0 T175.heap [] := (P172.trans K175 all0)
                have GK175_r : h0.size ≤ r_175 := Nat.le_trans P172.1 Q175_1
                have ne175_ba_r : ba ≠ r_175 := Nat.ne_of_lt (Nat.lt_of_lt_of_le A174.lt Q175_1)
                have ne175_a1_r : a1 ≠ r_175 := Nat.ne_of_lt (Nat.lt_of_lt_of_le A172v.lt Q175_1)
                exact rA X175 hx Bd rfl rfl rfl (y d22_371) e175 ⟨r_175, rk_175, rfl, N175, P175, (by rw [(own_np2 C122), (own_put3 C6 C63 (own_sur0 C122) (own_t16 H3)), (own_putS C133 C141 (own_sur1 C153).1 (own_sur1 C153).2)]; exact Q175_0), GK175_r⟩
      · refine og2 X121 hx (fun j _ k => o_ifNo j (y d22_145) (XT.i0_eq_f C122) <| o_iconstV j (-1) (y d22_148) rfl <| o_istore j (y d22_149) (l' := #[.val (.ref ba), .val (.int 1), .val (.int 0), .val (.int 1), .val (.int 2), .val (.ref a1), .val (.int c0), .val (.int (-1 : Int32)), .unset]) rfl <| o_iload j (y d22_151) rfl <| k) ?_
        refine cS [(.int c0)] [] 0 X121 hx hZ hown (w 125 rfl) (w 126 rfl) (w 121 rfl) (w 127 rfl) (rmHS l Z a0 hw [] c0 h1 n0 Z1) e121 hml pd_oCcZ (y d22_153) (fun v179 T179 L179 hQ179 X179 => ?_)
        obtain ⟨rfl, N179a, eh179⟩ := hQ179
        have N179 := Fr.app N121 N179a
        have e179 : T179.heap = h1 := eh179
        by_cases C180 : own_high c0 = 0
        · refine og2 X179 hx (fun j _ k => o_ifYes j (pc' := 188) (y d22_156) (XT.i0_eq_t C180) <| o_iload j (y d22_188) rfl <| o_ifNo j (y d22_190) (by decide) <| o_iloadN j (y d22_193) rfl <| o_ifNo j (y d22_194) (by decide) <| o_aload j (y d22_197) rfl rfl <| o_iloadN j (y d22_199) rfl <| o_iincL j 1 (y d22_200) rfl (1 : Int32) (by decide) rfl (l' := #[.val (.ref ba), .val (.int 1), .val (.int 1), .val (.int 1), .val (.int 2), .val (.ref a1), .val (.int c0), .val (.int (-1 : Int32)), .unset]) rfl <| o_bipushV j 63 (y d22_203) rfl <| k) ?_
          refine sB (v := (63 : Int32)) 0 X179 hx hZ e179 A4 (by decide) (y d22_205) (fun T181 h181 X181 e181 W181 A181 => ?_)
          have N181 := Fr.snoc X181 N179 G1
          have P181 := P1.wr W181 (Or.inr GK1)
          have Z181 : n0 ≤ h181.size := (by rw [W181.size]; exact Z1)
          have O182 := (O2.wr W181 G1)
          have A183 := (A3.other W181 (Nat.ne_of_lt (Nat.lt_of_lt_of_eq pr2.lt g1.symm)))
          have A181v : Arv Z h181 a1 kc1 .byte (6 : Int32) [(.int 63), (.int 0), (.int 0), (.int 0), (.int 0), (.int 0)] (.int 0) := A181
          refine og2 X181 hx (fun j _ k => o_goto j (pc' := 295) (y d22_206) <| o_goto j (pc' := 352) (y d22_295) <| o_goto j (pc' := 58) (y d22_352) <| o_iloadN j (y d22_58) rfl <| o_iload j (y d22_59) rfl <| o_icmpNo j (y d22_61) (XT.ii_ge_f (by decide)) <| o_aloadN j (y d22_64) rfl rfl <| o_iloadN j (y d22_65) rfl <| o_iincL j 1 (y d22_66) rfl (2 : Int32) (by decide) rfl (l' := #[.val (.ref ba), .val (.int 1), .val (.int 1), .val (.int 2), .val (.int 2), .val (.ref a1), .val (.int c0), .val (.int (-1 : Int32)), .unset]) rfl <| k) ?_
          refine cS [(.ref ba), (.int 1)] [] 0 X181 hx hZ hown (w 118 rfl) (w 110 rfl) (w 88 rfl) (w 111 rfl) (rmGC21 l Z a0 hw [] cs u8 ba bk c0 c1 h181 n0 Z181 H0 O182 A183 H4) e181 hml pd_oaBIcC (y d22_69) (fun v184 T184 L184 hQ184 X184 => ?_)
          obtain ⟨rfl, N184a, eh184⟩ := hQ184
          have N184 := Fr.app N181 N184a
          have e184 : T184.heap = h181 := eh184
          refine og2 X184 hx (fun j _ k => o_istore j (y d22_72) (l' := #[.val (.ref ba), .val (.int 1), .val (.int 1), .val (.int 2), .val (.int 2), .val (.ref a1), .val (.int c1), .val (.int (-1 : Int32)), .unset]) rfl <| o_iload j (y d22_74) rfl <| o_sipushV j 128 (y d22_76) rfl <| k) ?_
          by_cases C185 : c1 < (128 : Int32)
          · refine og2 X184 hx (fun j _ k => o_icmpNo j (y d22_79) (XT.ii_ge_f C185) <| o_aload j (y d22_82) rfl rfl <| o_iloadN j (y d22_84) rfl <| o_iincL j 1 (y d22_85) rfl (2 : Int32) (by decide) rfl (l' := #[.val (.ref ba), .val (.int 1), .val (.int 2), .val (.int 2), .val (.int 2), .val (.ref a1), .val (.int c1), .val (.int (-1 : Int32)), .unset]) rfl <| o_iload j (y d22_88) rfl <| o_i2bO j (y d22_90) <| k) ?_
            refine sB (v := own_b c1) 1 X184 hx hZ e184 A181v (own_nar_b _) (y d22_91) (fun T186 h186 X186 e186 W186 A186 => ?_)
            have N186 := Fr.snoc X186 N184 G1
            have P186 := P181.wr W186 (Or.inr GK1)
            have Z186 : n0 ≤ h186.size := (by rw [W186.size]; exact Z181)
            have A188 := (A183.other W186 (Nat.ne_of_lt (Nat.lt_of_lt_of_eq pr2.lt g1.symm)))
            have A186v : Arv Z h186 a1 kc1 .byte (6 : Int32) [(.int 63), (.int (own_b c1)), (.int 0), (.int 0), (.int 0), (.int 0)] (.int 0) := A186
            refine og2 X186 hx (fun j _ k => o_goto j (pc' := 352) (y d22_92) <| o_goto j (pc' := 58) (y d22_352) <| o_iloadN j (y d22_58) rfl <| o_iload j (y d22_59) rfl <| o_icmpYes j (pc' := 355) (y d22_61) (XT.ii_ge_t (by decide)) <| o_iloadN j (y d22_355) rfl <| o_aload j (y d22_356) rfl rfl <| o_alen X186 hx hZ e186 A186v (y d22_358) <| o_icmpYes j (pc' := 365) (y d22_359) (XT.ii_ne_t (by decide)) <| o_aload j (y d22_365) rfl rfl <| o_iloadN j (y d22_367) rfl <| k) ?_
            refine cS [(.ref a1), (.int 2)] [] 0 X186 hx hZ hown (w 132 rfl) (w 133 rfl) (w 134 rfl) (w 135 rfl) (rmAC62 l Z a0 hw [] a1 kc1 (63 : Int32) (own_b c1) (0 : Int32) (0 : Int32) (0 : Int32) (0 : Int32) h186 n0 Z186 A186v) e186 hml pd_oaBIcaB (y d22_368) (fun v189 T189 L189 hQ189 X189 => ?_)
            obtain ⟨r_189, rk_189, rfl, N189a, K189, Q189_0, Q189_1⟩ := hQ189
            have N189 := Fr.app N186 N189a
            have e189 : T189.heap = T189.heap := rfl
            have P189 : Keep h0 T189.heap [] := (P186.trans K189 all0)
            have GK189_r : h0.size ≤ r_189 := Nat.le_trans P186.1 Q189_1
            have ne189_ba_r : ba ≠ r_189 := Nat.ne_of_lt (Nat.lt_of_lt_of_le A188.lt Q189_1)
            have ne189_a1_r : a1 ≠ r_189 := Nat.ne_of_lt (Nat.lt_of_lt_of_le A186v.lt Q189_1)
            exact rA X189 hx Bd rfl rfl rfl (y d22_371) e189 ⟨r_189, rk_189, rfl, N189, P189, (by rw [(own_np3 C180), (own_putS C6 C63 (own_sur1 C122).1 (own_sur1 C122).2), (own_put1 C185)]; exact Q189_0), GK189_r⟩
          · refine og2 X184 hx (fun j _ k => o_icmpYes j (pc' := 95) (y d22_79) (XT.ii_ge_t C185) <| o_iload j (y d22_95) rfl <| o_sipushV j 2048 (y d22_97) rfl <| k) ?_
            by_cases C193 : c1 < (2048 : Int32)
            · refine og2 X184 hx (fun j _ k => o_icmpNo j (y d22_100) (XT.ii_ge_f C193) <| o_aload j (y d22_103) rfl rfl <| o_iloadN j (y d22_105) rfl <| o_iincL j 1 (y d22_106) rfl (2 : Int32) (by decide) rfl (l' := #[.val (.ref ba), .val (.int 1), .val (.int 2), .val (.int 2), .val (.int 2), .val (.ref a1), .val (.int c1), .val (.int (-1 : Int32)), .unset]) rfl <| o_sipushV j 192 (y d22_109) rfl <| o_iload j (y d22_112) rfl <| o_bipushV j 6 (y d22_114) rfl <| o_ishr j (y d22_116) <| o_ior j (y d22_117) <| o_i2bO j (y d22_118) <| k) ?_
              refine sB (v := own_b ((192 : Int32) ||| (c1 >>> ((6 : Int32) &&& 31)))) 1 X184 hx hZ e184 A181v (own_nar_b _) (y d22_119) (fun T194 h194 X194 e194 W194 A194 => ?_)
              have N194 := Fr.snoc X194 N184 G1
              have P194 := P181.wr W194 (Or.inr GK1)
              have Z194 : n0 ≤ h194.size := (by rw [W194.size]; exact Z181)
              have A196 := (A183.other W194 (Nat.ne_of_lt (Nat.lt_of_lt_of_eq pr2.lt g1.symm)))
              have A194v : Arv Z h194 a1 kc1 .byte (6 : Int32) [(.int 63), (.int (own_b ((192 : Int32) ||| (c1 >>> ((6 : Int32) &&& 31))))), (.int 0), (.int 0), (.int 0), (.int 0)] (.int 0) := A194
              refine og2 X194 hx (fun j _ k => o_aload j (y d22_120) rfl rfl <| o_iloadN j (y d22_122) rfl <| o_iincL j 1 (y d22_123) rfl (3 : Int32) (by decide) rfl (l' := #[.val (.ref ba), .val (.int 1), .val (.int 3), .val (.int 2), .val (.int 2), .val (.ref a1), .val (.int c1), .val (.int (-1 : Int32)), .unset]) rfl <| o_sipushV j 128 (y d22_126) rfl <| o_iload j (y d22_129) rfl <| o_bipushV j 63 (y d22_131) rfl <| o_iand j (y d22_133) <| o_ior j (y d22_134) <| o_i2bO j (y d22_135) <| k) ?_
              refine sB (v := own_b ((128 : Int32) ||| (c1 &&& (63 : Int32)))) 2 X194 hx hZ e194 A194v (own_nar_b _) (y d22_136) (fun T197 h197 X197 e197 W197 A197 => ?_)
              have N197 := Fr.snoc X197 N194 G1
              have P197 := P194.wr W197 (Or.inr GK1)
              have Z197 : n0 ≤ h197.size := (by rw [W197.size]; exact Z194)
              have A199 := (A196.other W197 (Nat.ne_of_lt (Nat.lt_of_lt_of_eq pr2.lt g1.symm)))
              have A197v : Arv Z h197 a1 kc1 .byte (6 : Int32) [(.int 63), (.int (own_b ((192 : Int32) ||| (c1 >>> ((6 : Int32) &&& 31))))), (.int (own_b ((128 : Int32) ||| (c1 &&& (63 : Int32))))), (.int 0), (.int 0), (.int 0)] (.int 0) := A197
              refine og2 X197 hx (fun j _ k => o_goto j (pc' := 352) (y d22_137) <| o_goto j (pc' := 58) (y d22_352) <| o_iloadN j (y d22_58) rfl <| o_iload j (y d22_59) rfl <| o_icmpYes j (pc' := 355) (y d22_61) (XT.ii_ge_t (by decide)) <| o_iloadN j (y d22_355) rfl <| o_aload j (y d22_356) rfl rfl <| o_alen X197 hx hZ e197 A197v (y d22_358) <| o_icmpYes j (pc' := 365) (y d22_359) (XT.ii_ne_t (by decide)) <| o_aload j (y d22_365) rfl rfl <| o_iloadN j (y d22_367) rfl <| k) ?_
              refine cS [(.ref a1), (.int 3)] [] 0 X197 hx hZ hown (w 132 rfl) (w 133 rfl) (w 134 rfl) (w 135 rfl) (rmAC63 l Z a0 hw [] a1 kc1 (63 : Int32) (own_b ((192 : Int32) ||| (c1 >>> ((6 : Int32) &&& 31)))) (own_b ((128 : Int32) ||| (c1 &&& (63 : Int32)))) (0 : Int32) (0 : Int32) (0 : Int32) h197 n0 Z197 A197v) e197 hml pd_oaBIcaB (y d22_368) (fun v200 T200 L200 hQ200 X200 => ?_)
              obtain ⟨r_200, rk_200, rfl, N200a, K200, Q200_0, Q200_1⟩ := hQ200
              have N200 := Fr.app N197 N200a
              have e200 : T200.heap = T200.heap := rfl
              have P200 : Keep h0 T200.heap [] := (P197.trans K200 all0)
              have GK200_r : h0.size ≤ r_200 := Nat.le_trans P197.1 Q200_1
              have ne200_ba_r : ba ≠ r_200 := Nat.ne_of_lt (Nat.lt_of_lt_of_le A199.lt Q200_1)
              have ne200_a1_r : a1 ≠ r_200 := Nat.ne_of_lt (Nat.lt_of_lt_of_le A197v.lt Q200_1)
              exact rA X200 hx Bd rfl rfl rfl (y d22_371) e200 ⟨r_200, rk_200, rfl, N200, P200, (by rw [(own_np3 C180), (own_putS C6 C63 (own_sur1 C122).1 (own_sur1 C122).2), (own_put2 C185 C193)]; exact Q200_0), GK200_r⟩
            · refine og2 X184 hx (fun j _ k => o_icmpYes j (pc' := 140) (y d22_100) (XT.ii_ge_t C193) <| o_iload j (y d22_140) rfl <| k) ?_
              refine cS [(.int c1)] [] 0 X184 hx hZ hown (w 119 rfl) (w 120 rfl) (w 121 rfl) (w 122 rfl) (rmSU l Z a0 hw [] c1 h181 n0 Z181) e184 hml pd_oCcZ (y d22_142) (fun v204 T204 L204 hQ204 X204 => ?_)
              obtain ⟨rfl, N204a, eh204⟩ := hQ204
              have N204 := Fr.app N184 N204a
              have e204 : T204.heap = h181 := eh204
              by_cases C205 : own_sur c1 = 0
              · refine og2 X204 hx (fun j _ k => o_ifYes j (pc' := 298) (y d22_145) (XT.i0_eq_t C205) <| o_aload j (y d22_298) rfl rfl <| o_iloadN j (y d22_300) rfl <| o_iincL j 1 (y d22_301) rfl (2 : Int32) (by decide) rfl (l' := #[.val (.ref ba), .val (.int 1), .val (.int 2), .val (.int 2), .val (.int 2), .val (.ref a1), .val (.int c1), .val (.int (-1 : Int32)), .unset]) rfl <| o_sipushV j 224 (y d22_304) rfl <| o_iload j (y d22_307) rfl <| o_bipushV j 12 (y d22_309) rfl <| o_ishr j (y d22_311) <| o_ior j (y d22_312) <| o_i2bO j (y d22_313) <| k) ?_
                refine sB (v := own_b ((224 : Int32) ||| (c1 >>> ((12 : Int32) &&& 31)))) 1 X204 hx hZ e204 A181v (own_nar_b _) (y d22_314) (fun T206 h206 X206 e206 W206 A206 => ?_)
                have N206 := Fr.snoc X206 N204 G1
                have P206 := P181.wr W206 (Or.inr GK1)
                have Z206 : n0 ≤ h206.size := (by rw [W206.size]; exact Z181)
                have A208 := (A183.other W206 (Nat.ne_of_lt (Nat.lt_of_lt_of_eq pr2.lt g1.symm)))
                have A206v : Arv Z h206 a1 kc1 .byte (6 : Int32) [(.int 63), (.int (own_b ((224 : Int32) ||| (c1 >>> ((12 : Int32) &&& 31))))), (.int 0), (.int 0), (.int 0), (.int 0)] (.int 0) := A206
                refine og2 X206 hx (fun j _ k => o_aload j (y d22_315) rfl rfl <| o_iloadN j (y d22_317) rfl <| o_iincL j 1 (y d22_318) rfl (3 : Int32) (by decide) rfl (l' := #[.val (.ref ba), .val (.int 1), .val (.int 3), .val (.int 2), .val (.int 2), .val (.ref a1), .val (.int c1), .val (.int (-1 : Int32)), .unset]) rfl <| o_sipushV j 128 (y d22_321) rfl <| o_iload j (y d22_324) rfl <| o_bipushV j 6 (y d22_326) rfl <| o_ishr j (y d22_328) <| o_bipushV j 63 (y d22_329) rfl <| o_iand j (y d22_331) <| o_ior j (y d22_332) <| o_i2bO j (y d22_333) <| k) ?_
                refine sB (v := own_b ((128 : Int32) ||| ((c1 >>> ((6 : Int32) &&& 31)) &&& (63 : Int32)))) 2 X206 hx hZ e206 A206v (own_nar_b _) (y d22_334) (fun T209 h209 X209 e209 W209 A209 => ?_)
                have N209 := Fr.snoc X209 N206 G1
                have P209 := P206.wr W209 (Or.inr GK1)
                have Z209 : n0 ≤ h209.size := (by rw [W209.size]; exact Z206)
                have A211 := (A208.other W209 (Nat.ne_of_lt (Nat.lt_of_lt_of_eq pr2.lt g1.symm)))
                have A209v : Arv Z h209 a1 kc1 .byte (6 : Int32) [(.int 63), (.int (own_b ((224 : Int32) ||| (c1 >>> ((12 : Int32) &&& 31))))), (.int (own_b ((128 : Int32) ||| ((c1 >>> ((6 : Int32) &&& 31)) &&& (63 : Int32))))), (.int 0), (.int 0), (.int 0)] (.int 0) := A209
                refine og2 X209 hx (fun j _ k => o_aload j (y d22_335) rfl rfl <| o_iloadN j (y d22_337) rfl <| o_iincL j 1 (y d22_338) rfl (4 : Int32) (by decide) rfl (l' := #[.val (.ref ba), .val (.int 1), .val (.int 4), .val (.int 2), .val (.int 2), .val (.ref a1), .val (.int c1), .val (.int (-1 : Int32)), .unset]) rfl <| o_sipushV j 128 (y d22_341) rfl <| o_iload j (y d22_344) rfl <| o_bipushV j 63 (y d22_346) rfl <| o_iand j (y d22_348) <| o_ior j (y d22_349) <| o_i2bO j (y d22_350) <| k) ?_
                refine sB (v := own_b ((128 : Int32) ||| (c1 &&& (63 : Int32)))) 3 X209 hx hZ e209 A209v (own_nar_b _) (y d22_351) (fun T212 h212 X212 e212 W212 A212 => ?_)
                have N212 := Fr.snoc X212 N209 G1
                have P212 := P209.wr W212 (Or.inr GK1)
                have Z212 : n0 ≤ h212.size := (by rw [W212.size]; exact Z209)
                have A214 := (A211.other W212 (Nat.ne_of_lt (Nat.lt_of_lt_of_eq pr2.lt g1.symm)))
                have A212v : Arv Z h212 a1 kc1 .byte (6 : Int32) [(.int 63), (.int (own_b ((224 : Int32) ||| (c1 >>> ((12 : Int32) &&& 31))))), (.int (own_b ((128 : Int32) ||| ((c1 >>> ((6 : Int32) &&& 31)) &&& (63 : Int32))))), (.int (own_b ((128 : Int32) ||| (c1 &&& (63 : Int32))))), (.int 0), (.int 0)] (.int 0) := A212
                refine og2 X212 hx (fun j _ k => o_goto j (pc' := 58) (y d22_352) <| o_iloadN j (y d22_58) rfl <| o_iload j (y d22_59) rfl <| o_icmpYes j (pc' := 355) (y d22_61) (XT.ii_ge_t (by decide)) <| o_iloadN j (y d22_355) rfl <| o_aload j (y d22_356) rfl rfl <| o_alen X212 hx hZ e212 A212v (y d22_358) <| o_icmpYes j (pc' := 365) (y d22_359) (XT.ii_ne_t (by decide)) <| o_aload j (y d22_365) rfl rfl <| o_iloadN j (y d22_367) rfl <| k) ?_
                refine cS [(.ref a1), (.int 4)] [] 0 X212 hx hZ hown (w 132 rfl) (w 133 rfl) (w 134 rfl) (w 135 rfl) (rmAC64 l Z a0 hw [] a1 kc1 (63 : Int32) (own_b ((224 : Int32) ||| (c1 >>> ((12 : Int32) &&& 31)))) (own_b ((128 : Int32) ||| ((c1 >>> ((6 : Int32) &&& 31)) &&& (63 : Int32)))) (own_b ((128 : Int32) ||| (c1 &&& (63 : Int32)))) (0 : Int32) (0 : Int32) h212 n0 Z212 A212v) e212 hml pd_oaBIcaB (y d22_368) (fun v215 T215 L215 hQ215 X215 => ?_)
                obtain ⟨r_215, rk_215, rfl, N215a, K215, Q215_0, Q215_1⟩ := hQ215
                have N215 := Fr.app N212 N215a
                have e215 : T215.heap = T215.heap := rfl
                have P215 : Keep h0 T215.heap [] := (P212.trans K215 all0)
                have GK215_r : h0.size ≤ r_215 := Nat.le_trans P212.1 Q215_1
                have ne215_ba_r : ba ≠ r_215 := Nat.ne_of_lt (Nat.lt_of_lt_of_le A214.lt Q215_1)
                have ne215_a1_r : a1 ≠ r_215 := Nat.ne_of_lt (Nat.lt_of_lt_of_le A212v.lt Q215_1)
                exact rA X215 hx Bd rfl rfl rfl (y d22_371) e215 ⟨r_215, rk_215, rfl, N215, P215, (by rw [(own_np3 C180), (own_putS C6 C63 (own_sur1 C122).1 (own_sur1 C122).2), (own_put3 C185 C193 (own_sur0 C205) (own_t16 H4))]; exact Q215_0), GK215_r⟩
              · refine og2 X204 hx (fun j _ k => o_ifNo j (y d22_145) (XT.i0_eq_f C205) <| o_iconstV j (-1) (y d22_148) rfl <| o_istore j (y d22_149) (l' := #[.val (.ref ba), .val (.int 1), .val (.int 1), .val (.int 2), .val (.int 2), .val (.ref a1), .val (.int c1), .val (.int (-1 : Int32)), .unset]) rfl <| o_iload j (y d22_151) rfl <| k) ?_
                refine cS [(.int c1)] [] 0 X204 hx hZ hown (w 125 rfl) (w 126 rfl) (w 121 rfl) (w 127 rfl) (rmHS l Z a0 hw [] c1 h181 n0 Z181) e204 hml pd_oCcZ (y d22_153) (fun v219 T219 L219 hQ219 X219 => ?_)
                obtain ⟨rfl, N219a, eh219⟩ := hQ219
                have N219 := Fr.app N204 N219a
                have e219 : T219.heap = h181 := eh219
                by_cases C220 : own_high c1 = 0
                · refine og2 X219 hx (fun j _ k => o_ifYes j (pc' := 188) (y d22_156) (XT.i0_eq_t C220) <| o_iload j (y d22_188) rfl <| o_ifNo j (y d22_190) (by decide) <| o_iloadN j (y d22_193) rfl <| o_ifNo j (y d22_194) (by decide) <| o_aload j (y d22_197) rfl rfl <| o_iloadN j (y d22_199) rfl <| o_iincL j 1 (y d22_200) rfl (2 : Int32) (by decide) rfl (l' := #[.val (.ref ba), .val (.int 1), .val (.int 2), .val (.int 2), .val (.int 2), .val (.ref a1), .val (.int c1), .val (.int (-1 : Int32)), .unset]) rfl <| o_bipushV j 63 (y d22_203) rfl <| k) ?_
                  refine sB (v := (63 : Int32)) 1 X219 hx hZ e219 A181v (by decide) (y d22_205) (fun T221 h221 X221 e221 W221 A221 => ?_)
                  have N221 := Fr.snoc X221 N219 G1
                  have P221 := P181.wr W221 (Or.inr GK1)
                  have Z221 : n0 ≤ h221.size := (by rw [W221.size]; exact Z181)
                  have A223 := (A183.other W221 (Nat.ne_of_lt (Nat.lt_of_lt_of_eq pr2.lt g1.symm)))
                  have A221v : Arv Z h221 a1 kc1 .byte (6 : Int32) [(.int 63), (.int 63), (.int 0), (.int 0), (.int 0), (.int 0)] (.int 0) := A221
                  refine og2 X221 hx (fun j _ k => o_goto j (pc' := 295) (y d22_206) <| o_goto j (pc' := 352) (y d22_295) <| o_goto j (pc' := 58) (y d22_352) <| o_iloadN j (y d22_58) rfl <| o_iload j (y d22_59) rfl <| o_icmpYes j (pc' := 355) (y d22_61) (XT.ii_ge_t (by decide)) <| o_iloadN j (y d22_355) rfl <| o_aload j (y d22_356) rfl rfl <| o_alen X221 hx hZ e221 A221v (y d22_358) <| o_icmpYes j (pc' := 365) (y d22_359) (XT.ii_ne_t (by decide)) <| o_aload j (y d22_365) rfl rfl <| o_iloadN j (y d22_367) rfl <| k) ?_
                  refine cS [(.ref a1), (.int 2)] [] 0 X221 hx hZ hown (w 132 rfl) (w 133 rfl) (w 134 rfl) (w 135 rfl) (rmAC62 l Z a0 hw [] a1 kc1 (63 : Int32) (63 : Int32) (0 : Int32) (0 : Int32) (0 : Int32) (0 : Int32) h221 n0 Z221 A221v) e221 hml pd_oaBIcaB (y d22_368) (fun v224 T224 L224 hQ224 X224 => ?_)
                  obtain ⟨r_224, rk_224, rfl, N224a, K224, Q224_0, Q224_1⟩ := hQ224
                  have N224 := Fr.app N221 N224a
                  have e224 : T224.heap = T224.heap := rfl
                  have P224 : Keep h0 T224.heap [] := (P221.trans K224 all0)
                  have GK224_r : h0.size ≤ r_224 := Nat.le_trans P221.1 Q224_1
                  have ne224_ba_r : ba ≠ r_224 := Nat.ne_of_lt (Nat.lt_of_lt_of_le A223.lt Q224_1)
                  have ne224_a1_r : a1 ≠ r_224 := Nat.ne_of_lt (Nat.lt_of_lt_of_le A221v.lt Q224_1)
                  exact rA X224 hx Bd rfl rfl rfl (y d22_371) e224 ⟨r_224, rk_224, rfl, N224, P224, (by rw [(own_np3 C180), (own_putS C6 C63 (own_sur1 C122).1 (own_sur1 C122).2), (own_putS C185 C193 (own_sur1 C205).1 (own_sur1 C205).2)]; exact Q224_0), GK224_r⟩
                · refine og2 X219 hx (fun j _ k => o_ifNo j (y d22_156) (XT.i0_eq_f C220) <| o_iloadN j (y d22_159) rfl <| o_iload j (y d22_160) rfl <| o_icmpYes j (pc' := 188) (y d22_162) (XT.ii_ge_t (by decide)) <| o_iload j (y d22_188) rfl <| o_ifNo j (y d22_190) (by decide) <| o_iloadN j (y d22_193) rfl <| o_ifNo j (y d22_194) (by decide) <| o_aload j (y d22_197) rfl rfl <| o_iloadN j (y d22_199) rfl <| o_iincL j 1 (y d22_200) rfl (2 : Int32) (by decide) rfl (l' := #[.val (.ref ba), .val (.int 1), .val (.int 2), .val (.int 2), .val (.int 2), .val (.ref a1), .val (.int c1), .val (.int (-1 : Int32)), .unset]) rfl <| o_bipushV j 63 (y d22_203) rfl <| k) ?_
                  refine sB (v := (63 : Int32)) 1 X219 hx hZ e219 A181v (by decide) (y d22_205) (fun T228 h228 X228 e228 W228 A228 => ?_)
                  have N228 := Fr.snoc X228 N219 G1
                  have P228 := P181.wr W228 (Or.inr GK1)
                  have Z228 : n0 ≤ h228.size := (by rw [W228.size]; exact Z181)
                  have A230 := (A183.other W228 (Nat.ne_of_lt (Nat.lt_of_lt_of_eq pr2.lt g1.symm)))
                  have A228v : Arv Z h228 a1 kc1 .byte (6 : Int32) [(.int 63), (.int 63), (.int 0), (.int 0), (.int 0), (.int 0)] (.int 0) := A228
                  refine og2 X228 hx (fun j _ k => o_goto j (pc' := 295) (y d22_206) <| o_goto j (pc' := 352) (y d22_295) <| o_goto j (pc' := 58) (y d22_352) <| o_iloadN j (y d22_58) rfl <| o_iload j (y d22_59) rfl <| o_icmpYes j (pc' := 355) (y d22_61) (XT.ii_ge_t (by decide)) <| o_iloadN j (y d22_355) rfl <| o_aload j (y d22_356) rfl rfl <| o_alen X228 hx hZ e228 A228v (y d22_358) <| o_icmpYes j (pc' := 365) (y d22_359) (XT.ii_ne_t (by decide)) <| o_aload j (y d22_365) rfl rfl <| o_iloadN j (y d22_367) rfl <| k) ?_
                  refine cS [(.ref a1), (.int 2)] [] 0 X228 hx hZ hown (w 132 rfl) (w 133 rfl) (w 134 rfl) (w 135 rfl) (rmAC62 l Z a0 hw [] a1 kc1 (63 : Int32) (63 : Int32) (0 : Int32) (0 : Int32) (0 : Int32) (0 : Int32) h228 n0 Z228 A228v) e228 hml pd_oaBIcaB (y d22_368) (fun v231 T231 L231 hQ231 X231 => ?_)
                  obtain ⟨r_231, rk_231, rfl, N231a, K231, Q231_0, Q231_1⟩ := hQ231
                  have N231 := Fr.app N228 N231a
                  have e231 : T231.heap = T231.heap := rfl
                  have P231 : Keep h0 T231.heap [] := (P228.trans K231 all0)
                  have GK231_r : h0.size ≤ r_231 := Nat.le_trans P228.1 Q231_1
                  have ne231_ba_r : ba ≠ r_231 := Nat.ne_of_lt (Nat.lt_of_lt_of_le A230.lt Q231_1)
                  have ne231_a1_r : a1 ≠ r_231 := Nat.ne_of_lt (Nat.lt_of_lt_of_le A228v.lt Q231_1)
                  exact rA X231 hx Bd rfl rfl rfl (y d22_371) e231 ⟨r_231, rk_231, rfl, N231, P231, (by rw [(own_np3 C180), (own_putS C6 C63 (own_sur1 C122).1 (own_sur1 C122).2), (own_putS C185 C193 (own_sur1 C205).1 (own_sur1 C205).2)]; exact Q231_0), GK231_r⟩
        · refine og2 X179 hx (fun j _ k => o_ifNo j (y d22_156) (XT.i0_eq_f C180) <| o_iloadN j (y d22_159) rfl <| o_iload j (y d22_160) rfl <| o_icmpNo j (y d22_162) (XT.ii_ge_f (by decide)) <| o_aloadN j (y d22_165) rfl rfl <| o_iloadN j (y d22_166) rfl <| k) ?_
          refine cS [(.ref ba), (.int 1)] [] 0 X179 hx hZ hown (w 118 rfl) (w 110 rfl) (w 88 rfl) (w 111 rfl) (rmGC21 l Z a0 hw [] cs u8 ba bk c0 c1 h1 n0 Z1 H0 O2 A3 H4) e179 hml pd_oaBIcC (y d22_167) (fun v235 T235 L235 hQ235 X235 => ?_)
          obtain ⟨rfl, N235a, eh235⟩ := hQ235
          have N235 := Fr.app N179 N235a
          have e235 : T235.heap = h1 := eh235
          refine og2 X235 hx (fun j _ k => o_dup j (y d22_170) rfl <| o_istore j (y d22_171) (l' := #[.val (.ref ba), .val (.int 1), .val (.int 0), .val (.int 1), .val (.int 2), .val (.ref a1), .val (.int c0), .val (.int (-1 : Int32)), .val (.int c1)]) rfl <| k) ?_
          refine cS [(.int c1)] [] 0 X235 hx hZ hown (w 129 rfl) (w 130 rfl) (w 121 rfl) (w 131 rfl) (rmLS l Z a0 hw [] c1 h1 n0 Z1) e235 hml pd_oCcZ (y d22_173) (fun v236 T236 L236 hQ236 X236 => ?_)
          obtain ⟨rfl, N236a, eh236⟩ := hQ236
          have N236 := Fr.app N235 N236a
          have e236 : T236.heap = h1 := eh236
          by_cases C237 : own_low c1 = 0
          · refine og2 X236 hx (fun j _ k => o_ifYes j (pc' := 188) (y d22_176) (XT.i0_eq_t C237) <| o_iload j (y d22_188) rfl <| o_ifNo j (y d22_190) (by decide) <| o_iloadN j (y d22_193) rfl <| o_ifNo j (y d22_194) (by decide) <| o_aload j (y d22_197) rfl rfl <| o_iloadN j (y d22_199) rfl <| o_iincL j 1 (y d22_200) rfl (1 : Int32) (by decide) rfl (l' := #[.val (.ref ba), .val (.int 1), .val (.int 1), .val (.int 1), .val (.int 2), .val (.ref a1), .val (.int c0), .val (.int (-1 : Int32)), .val (.int c1)]) rfl <| o_bipushV j 63 (y d22_203) rfl <| k) ?_
            refine sB (v := (63 : Int32)) 0 X236 hx hZ e236 A4 (by decide) (y d22_205) (fun T238 h238 X238 e238 W238 A238 => ?_)
            have N238 := Fr.snoc X238 N236 G1
            have P238 := P1.wr W238 (Or.inr GK1)
            have Z238 : n0 ≤ h238.size := (by rw [W238.size]; exact Z1)
            have O239 := (O2.wr W238 G1)
            have A240 := (A3.other W238 (Nat.ne_of_lt (Nat.lt_of_lt_of_eq pr2.lt g1.symm)))
            have A238v : Arv Z h238 a1 kc1 .byte (6 : Int32) [(.int 63), (.int 0), (.int 0), (.int 0), (.int 0), (.int 0)] (.int 0) := A238
            refine og2 X238 hx (fun j _ k => o_goto j (pc' := 295) (y d22_206) <| o_goto j (pc' := 352) (y d22_295) <| o_goto j (pc' := 58) (y d22_352) <| o_iloadN j (y d22_58) rfl <| o_iload j (y d22_59) rfl <| o_icmpNo j (y d22_61) (XT.ii_ge_f (by decide)) <| o_aloadN j (y d22_64) rfl rfl <| o_iloadN j (y d22_65) rfl <| o_iincL j 1 (y d22_66) rfl (2 : Int32) (by decide) rfl (l' := #[.val (.ref ba), .val (.int 1), .val (.int 1), .val (.int 2), .val (.int 2), .val (.ref a1), .val (.int c0), .val (.int (-1 : Int32)), .val (.int c1)]) rfl <| k) ?_
            refine cS [(.ref ba), (.int 1)] [] 0 X238 hx hZ hown (w 118 rfl) (w 110 rfl) (w 88 rfl) (w 111 rfl) (rmGC21 l Z a0 hw [] cs u8 ba bk c0 c1 h238 n0 Z238 H0 O239 A240 H4) e238 hml pd_oaBIcC (y d22_69) (fun v241 T241 L241 hQ241 X241 => ?_)
            obtain ⟨rfl, N241a, eh241⟩ := hQ241
            have N241 := Fr.app N238 N241a
            have e241 : T241.heap = h238 := eh241
            refine og2 X241 hx (fun j _ k => o_istore j (y d22_72) (l' := #[.val (.ref ba), .val (.int 1), .val (.int 1), .val (.int 2), .val (.int 2), .val (.ref a1), .val (.int c1), .val (.int (-1 : Int32)), .val (.int c1)]) rfl <| o_iload j (y d22_74) rfl <| o_sipushV j 128 (y d22_76) rfl <| k) ?_
            by_cases C242 : c1 < (128 : Int32)
            · refine og2 X241 hx (fun j _ k => o_icmpNo j (y d22_79) (XT.ii_ge_f C242) <| o_aload j (y d22_82) rfl rfl <| o_iloadN j (y d22_84) rfl <| o_iincL j 1 (y d22_85) rfl (2 : Int32) (by decide) rfl (l' := #[.val (.ref ba), .val (.int 1), .val (.int 2), .val (.int 2), .val (.int 2), .val (.ref a1), .val (.int c1), .val (.int (-1 : Int32)), .val (.int c1)]) rfl <| o_iload j (y d22_88) rfl <| o_i2bO j (y d22_90) <| k) ?_
              refine sB (v := own_b c1) 1 X241 hx hZ e241 A238v (own_nar_b _) (y d22_91) (fun T243 h243 X243 e243 W243 A243 => ?_)
              have N243 := Fr.snoc X243 N241 G1
              have P243 := P238.wr W243 (Or.inr GK1)
              have Z243 : n0 ≤ h243.size := (by rw [W243.size]; exact Z238)
              have A245 := (A240.other W243 (Nat.ne_of_lt (Nat.lt_of_lt_of_eq pr2.lt g1.symm)))
              have A243v : Arv Z h243 a1 kc1 .byte (6 : Int32) [(.int 63), (.int (own_b c1)), (.int 0), (.int 0), (.int 0), (.int 0)] (.int 0) := A243
              refine og2 X243 hx (fun j _ k => o_goto j (pc' := 352) (y d22_92) <| o_goto j (pc' := 58) (y d22_352) <| o_iloadN j (y d22_58) rfl <| o_iload j (y d22_59) rfl <| o_icmpYes j (pc' := 355) (y d22_61) (XT.ii_ge_t (by decide)) <| o_iloadN j (y d22_355) rfl <| o_aload j (y d22_356) rfl rfl <| o_alen X243 hx hZ e243 A243v (y d22_358) <| o_icmpYes j (pc' := 365) (y d22_359) (XT.ii_ne_t (by decide)) <| o_aload j (y d22_365) rfl rfl <| o_iloadN j (y d22_367) rfl <| k) ?_
              refine cS [(.ref a1), (.int 2)] [] 0 X243 hx hZ hown (w 132 rfl) (w 133 rfl) (w 134 rfl) (w 135 rfl) (rmAC62 l Z a0 hw [] a1 kc1 (63 : Int32) (own_b c1) (0 : Int32) (0 : Int32) (0 : Int32) (0 : Int32) h243 n0 Z243 A243v) e243 hml pd_oaBIcaB (y d22_368) (fun v246 T246 L246 hQ246 X246 => ?_)
              obtain ⟨r_246, rk_246, rfl, N246a, K246, Q246_0, Q246_1⟩ := hQ246
              have N246 := Fr.app N243 N246a
              have e246 : T246.heap = T246.heap := rfl
              have P246 : Keep h0 T246.heap [] := (P243.trans K246 all0)
              have GK246_r : h0.size ≤ r_246 := Nat.le_trans P243.1 Q246_1
              have ne246_ba_r : ba ≠ r_246 := Nat.ne_of_lt (Nat.lt_of_lt_of_le A245.lt Q246_1)
              have ne246_a1_r : a1 ≠ r_246 := Nat.ne_of_lt (Nat.lt_of_lt_of_le A243v.lt Q246_1)
              exact rA X246 hx Bd rfl rfl rfl (y d22_371) e246 ⟨r_246, rk_246, rfl, N246, P246, (by rw [(own_np4 C237), (own_putS C6 C63 (own_sur1 C122).1 (own_sur1 C122).2), (own_put1 C242)]; exact Q246_0), GK246_r⟩
            · refine og2 X241 hx (fun j _ k => o_icmpYes j (pc' := 95) (y d22_79) (XT.ii_ge_t C242) <| o_iload j (y d22_95) rfl <| o_sipushV j 2048 (y d22_97) rfl <| k) ?_
              by_cases C250 : c1 < (2048 : Int32)
              · refine og2 X241 hx (fun j _ k => o_icmpNo j (y d22_100) (XT.ii_ge_f C250) <| o_aload j (y d22_103) rfl rfl <| o_iloadN j (y d22_105) rfl <| o_iincL j 1 (y d22_106) rfl (2 : Int32) (by decide) rfl (l' := #[.val (.ref ba), .val (.int 1), .val (.int 2), .val (.int 2), .val (.int 2), .val (.ref a1), .val (.int c1), .val (.int (-1 : Int32)), .val (.int c1)]) rfl <| o_sipushV j 192 (y d22_109) rfl <| o_iload j (y d22_112) rfl <| o_bipushV j 6 (y d22_114) rfl <| o_ishr j (y d22_116) <| o_ior j (y d22_117) <| o_i2bO j (y d22_118) <| k) ?_
                refine sB (v := own_b ((192 : Int32) ||| (c1 >>> ((6 : Int32) &&& 31)))) 1 X241 hx hZ e241 A238v (own_nar_b _) (y d22_119) (fun T251 h251 X251 e251 W251 A251 => ?_)
                have N251 := Fr.snoc X251 N241 G1
                have P251 := P238.wr W251 (Or.inr GK1)
                have Z251 : n0 ≤ h251.size := (by rw [W251.size]; exact Z238)
                have A253 := (A240.other W251 (Nat.ne_of_lt (Nat.lt_of_lt_of_eq pr2.lt g1.symm)))
                have A251v : Arv Z h251 a1 kc1 .byte (6 : Int32) [(.int 63), (.int (own_b ((192 : Int32) ||| (c1 >>> ((6 : Int32) &&& 31))))), (.int 0), (.int 0), (.int 0), (.int 0)] (.int 0) := A251
                refine og2 X251 hx (fun j _ k => o_aload j (y d22_120) rfl rfl <| o_iloadN j (y d22_122) rfl <| o_iincL j 1 (y d22_123) rfl (3 : Int32) (by decide) rfl (l' := #[.val (.ref ba), .val (.int 1), .val (.int 3), .val (.int 2), .val (.int 2), .val (.ref a1), .val (.int c1), .val (.int (-1 : Int32)), .val (.int c1)]) rfl <| o_sipushV j 128 (y d22_126) rfl <| o_iload j (y d22_129) rfl <| o_bipushV j 63 (y d22_131) rfl <| o_iand j (y d22_133) <| o_ior j (y d22_134) <| o_i2bO j (y d22_135) <| k) ?_
                refine sB (v := own_b ((128 : Int32) ||| (c1 &&& (63 : Int32)))) 2 X251 hx hZ e251 A251v (own_nar_b _) (y d22_136) (fun T254 h254 X254 e254 W254 A254 => ?_)
                have N254 := Fr.snoc X254 N251 G1
                have P254 := P251.wr W254 (Or.inr GK1)
                have Z254 : n0 ≤ h254.size := (by rw [W254.size]; exact Z251)
                have A256 := (A253.other W254 (Nat.ne_of_lt (Nat.lt_of_lt_of_eq pr2.lt g1.symm)))
                have A254v : Arv Z h254 a1 kc1 .byte (6 : Int32) [(.int 63), (.int (own_b ((192 : Int32) ||| (c1 >>> ((6 : Int32) &&& 31))))), (.int (own_b ((128 : Int32) ||| (c1 &&& (63 : Int32))))), (.int 0), (.int 0), (.int 0)] (.int 0) := A254
                refine og2 X254 hx (fun j _ k => o_goto j (pc' := 352) (y d22_137) <| o_goto j (pc' := 58) (y d22_352) <| o_iloadN j (y d22_58) rfl <| o_iload j (y d22_59) rfl <| o_icmpYes j (pc' := 355) (y d22_61) (XT.ii_ge_t (by decide)) <| o_iloadN j (y d22_355) rfl <| o_aload j (y d22_356) rfl rfl <| o_alen X254 hx hZ e254 A254v (y d22_358) <| o_icmpYes j (pc' := 365) (y d22_359) (XT.ii_ne_t (by decide)) <| o_aload j (y d22_365) rfl rfl <| o_iloadN j (y d22_367) rfl <| k) ?_
                refine cS [(.ref a1), (.int 3)] [] 0 X254 hx hZ hown (w 132 rfl) (w 133 rfl) (w 134 rfl) (w 135 rfl) (rmAC63 l Z a0 hw [] a1 kc1 (63 : Int32) (own_b ((192 : Int32) ||| (c1 >>> ((6 : Int32) &&& 31)))) (own_b ((128 : Int32) ||| (c1 &&& (63 : Int32)))) (0 : Int32) (0 : Int32) (0 : Int32) h254 n0 Z254 A254v) e254 hml pd_oaBIcaB (y d22_368) (fun v257 T257 L257 hQ257 X257 => ?_)
                obtain ⟨r_257, rk_257, rfl, N257a, K257, Q257_0, Q257_1⟩ := hQ257
                have N257 := Fr.app N254 N257a
                have e257 : T257.heap = T257.heap := rfl
                have P257 : Keep h0 T257.heap [] := (P254.trans K257 all0)
                have GK257_r : h0.size ≤ r_257 := Nat.le_trans P254.1 Q257_1
                have ne257_ba_r : ba ≠ r_257 := Nat.ne_of_lt (Nat.lt_of_lt_of_le A256.lt Q257_1)
                have ne257_a1_r : a1 ≠ r_257 := Nat.ne_of_lt (Nat.lt_of_lt_of_le A254v.lt Q257_1)
                exact rA X257 hx Bd rfl rfl rfl (y d22_371) e257 ⟨r_257, rk_257, rfl, N257, P257, (by rw [(own_np4 C237), (own_putS C6 C63 (own_sur1 C122).1 (own_sur1 C122).2), (own_put2 C242 C250)]; exact Q257_0), GK257_r⟩
              · refine og2 X241 hx (fun j _ k => o_icmpYes j (pc' := 140) (y d22_100) (XT.ii_ge_t C250) <| o_iload j (y d22_140) rfl <| k) ?_
                refine cS [(.int c1)] [] 0 X241 hx hZ hown (w 119 rfl) (w 120 rfl) (w 121 rfl) (w 122 rfl) (rmSU l Z a0 hw [] c1 h238 n0 Z238) e241 hml pd_oCcZ (y d22_142) (fun v261 T261 L261 hQ261 X261 => ?_)
                obtain ⟨rfl, N261a, eh261⟩ := hQ261
                have N261 := Fr.app N241 N261a
                have e261 : T261.heap = h238 := eh261
                by_cases C262 : own_sur c1 = 0
                · refine og2 X261 hx (fun j _ k => o_ifYes j (pc' := 298) (y d22_145) (XT.i0_eq_t C262) <| o_aload j (y d22_298) rfl rfl <| o_iloadN j (y d22_300) rfl <| o_iincL j 1 (y d22_301) rfl (2 : Int32) (by decide) rfl (l' := #[.val (.ref ba), .val (.int 1), .val (.int 2), .val (.int 2), .val (.int 2), .val (.ref a1), .val (.int c1), .val (.int (-1 : Int32)), .val (.int c1)]) rfl <| o_sipushV j 224 (y d22_304) rfl <| o_iload j (y d22_307) rfl <| o_bipushV j 12 (y d22_309) rfl <| o_ishr j (y d22_311) <| o_ior j (y d22_312) <| o_i2bO j (y d22_313) <| k) ?_
                  refine sB (v := own_b ((224 : Int32) ||| (c1 >>> ((12 : Int32) &&& 31)))) 1 X261 hx hZ e261 A238v (own_nar_b _) (y d22_314) (fun T263 h263 X263 e263 W263 A263 => ?_)
                  have N263 := Fr.snoc X263 N261 G1
                  have P263 := P238.wr W263 (Or.inr GK1)
                  have Z263 : n0 ≤ h263.size := (by rw [W263.size]; exact Z238)
                  have A265 := (A240.other W263 (Nat.ne_of_lt (Nat.lt_of_lt_of_eq pr2.lt g1.symm)))
                  have A263v : Arv Z h263 a1 kc1 .byte (6 : Int32) [(.int 63), (.int (own_b ((224 : Int32) ||| (c1 >>> ((12 : Int32) &&& 31))))), (.int 0), (.int 0), (.int 0), (.int 0)] (.int 0) := A263
                  refine og2 X263 hx (fun j _ k => o_aload j (y d22_315) rfl rfl <| o_iloadN j (y d22_317) rfl <| o_iincL j 1 (y d22_318) rfl (3 : Int32) (by decide) rfl (l' := #[.val (.ref ba), .val (.int 1), .val (.int 3), .val (.int 2), .val (.int 2), .val (.ref a1), .val (.int c1), .val (.int (-1 : Int32)), .val (.int c1)]) rfl <| o_sipushV j 128 (y d22_321) rfl <| o_iload j (y d22_324) rfl <| o_bipushV j 6 (y d22_326) rfl <| o_ishr j (y d22_328) <| o_bipushV j 63 (y d22_329) rfl <| o_iand j (y d22_331) <| o_ior j (y d22_332) <| o_i2bO j (y d22_333) <| k) ?_
                  refine sB (v := own_b ((128 : Int32) ||| ((c1 >>> ((6 : Int32) &&& 31)) &&& (63 : Int32)))) 2 X263 hx hZ e263 A263v (own_nar_b _) (y d22_334) (fun T266 h266 X266 e266 W266 A266 => ?_)
                  have N266 := Fr.snoc X266 N263 G1
                  have P266 := P263.wr W266 (Or.inr GK1)
                  have Z266 : n0 ≤ h266.size := (by rw [W266.size]; exact Z263)
                  have A268 := (A265.other W266 (Nat.ne_of_lt (Nat.lt_of_lt_of_eq pr2.lt g1.symm)))
                  have A266v : Arv Z h266 a1 kc1 .byte (6 : Int32) [(.int 63), (.int (own_b ((224 : Int32) ||| (c1 >>> ((12 : Int32) &&& 31))))), (.int (own_b ((128 : Int32) ||| ((c1 >>> ((6 : Int32) &&& 31)) &&& (63 : Int32))))), (.int 0), (.int 0), (.int 0)] (.int 0) := A266
                  refine og2 X266 hx (fun j _ k => o_aload j (y d22_335) rfl rfl <| o_iloadN j (y d22_337) rfl <| o_iincL j 1 (y d22_338) rfl (4 : Int32) (by decide) rfl (l' := #[.val (.ref ba), .val (.int 1), .val (.int 4), .val (.int 2), .val (.int 2), .val (.ref a1), .val (.int c1), .val (.int (-1 : Int32)), .val (.int c1)]) rfl <| o_sipushV j 128 (y d22_341) rfl <| o_iload j (y d22_344) rfl <| o_bipushV j 63 (y d22_346) rfl <| o_iand j (y d22_348) <| o_ior j (y d22_349) <| o_i2bO j (y d22_350) <| k) ?_
                  refine sB (v := own_b ((128 : Int32) ||| (c1 &&& (63 : Int32)))) 3 X266 hx hZ e266 A266v (own_nar_b _) (y d22_351) (fun T269 h269 X269 e269 W269 A269 => ?_)
                  have N269 := Fr.snoc X269 N266 G1
                  have P269 := P266.wr W269 (Or.inr GK1)
                  have Z269 : n0 ≤ h269.size := (by rw [W269.size]; exact Z266)
                  have A271 := (A268.other W269 (Nat.ne_of_lt (Nat.lt_of_lt_of_eq pr2.lt g1.symm)))
                  have A269v : Arv Z h269 a1 kc1 .byte (6 : Int32) [(.int 63), (.int (own_b ((224 : Int32) ||| (c1 >>> ((12 : Int32) &&& 31))))), (.int (own_b ((128 : Int32) ||| ((c1 >>> ((6 : Int32) &&& 31)) &&& (63 : Int32))))), (.int (own_b ((128 : Int32) ||| (c1 &&& (63 : Int32))))), (.int 0), (.int 0)] (.int 0) := A269
                  refine og2 X269 hx (fun j _ k => o_goto j (pc' := 58) (y d22_352) <| o_iloadN j (y d22_58) rfl <| o_iload j (y d22_59) rfl <| o_icmpYes j (pc' := 355) (y d22_61) (XT.ii_ge_t (by decide)) <| o_iloadN j (y d22_355) rfl <| o_aload j (y d22_356) rfl rfl <| o_alen X269 hx hZ e269 A269v (y d22_358) <| o_icmpYes j (pc' := 365) (y d22_359) (XT.ii_ne_t (by decide)) <| o_aload j (y d22_365) rfl rfl <| o_iloadN j (y d22_367) rfl <| k) ?_
                  refine cS [(.ref a1), (.int 4)] [] 0 X269 hx hZ hown (w 132 rfl) (w 133 rfl) (w 134 rfl) (w 135 rfl) (rmAC64 l Z a0 hw [] a1 kc1 (63 : Int32) (own_b ((224 : Int32) ||| (c1 >>> ((12 : Int32) &&& 31)))) (own_b ((128 : Int32) ||| ((c1 >>> ((6 : Int32) &&& 31)) &&& (63 : Int32)))) (own_b ((128 : Int32) ||| (c1 &&& (63 : Int32)))) (0 : Int32) (0 : Int32) h269 n0 Z269 A269v) e269 hml pd_oaBIcaB (y d22_368) (fun v272 T272 L272 hQ272 X272 => ?_)
                  obtain ⟨r_272, rk_272, rfl, N272a, K272, Q272_0, Q272_1⟩ := hQ272
                  have N272 := Fr.app N269 N272a
                  have e272 : T272.heap = T272.heap := rfl
                  have P272 : Keep h0 T272.heap [] := (P269.trans K272 all0)
                  have GK272_r : h0.size ≤ r_272 := Nat.le_trans P269.1 Q272_1
                  have ne272_ba_r : ba ≠ r_272 := Nat.ne_of_lt (Nat.lt_of_lt_of_le A271.lt Q272_1)
                  have ne272_a1_r : a1 ≠ r_272 := Nat.ne_of_lt (Nat.lt_of_lt_of_le A269v.lt Q272_1)
                  exact rA X272 hx Bd rfl rfl rfl (y d22_371) e272 ⟨r_272, rk_272, rfl, N272, P272, (by rw [(own_np4 C237), (own_putS C6 C63 (own_sur1 C122).1 (own_sur1 C122).2), (own_put3 C242 C250 (own_sur0 C262) (own_t16 H4))]; exact Q272_0), GK272_r⟩
                · refine og2 X261 hx (fun j _ k => o_ifNo j (y d22_145) (XT.i0_eq_f C262) <| o_iconstV j (-1) (y d22_148) rfl <| o_istore j (y d22_149) (l' := #[.val (.ref ba), .val (.int 1), .val (.int 1), .val (.int 2), .val (.int 2), .val (.ref a1), .val (.int c1), .val (.int (-1 : Int32)), .val (.int c1)]) rfl <| o_iload j (y d22_151) rfl <| k) ?_
                  refine cS [(.int c1)] [] 0 X261 hx hZ hown (w 125 rfl) (w 126 rfl) (w 121 rfl) (w 127 rfl) (rmHS l Z a0 hw [] c1 h238 n0 Z238) e261 hml pd_oCcZ (y d22_153) (fun v276 T276 L276 hQ276 X276 => ?_)
                  obtain ⟨rfl, N276a, eh276⟩ := hQ276
                  have N276 := Fr.app N261 N276a
                  have e276 : T276.heap = h238 := eh276
                  by_cases C277 : own_high c1 = 0
                  · refine og2 X276 hx (fun j _ k => o_ifYes j (pc' := 188) (y d22_156) (XT.i0_eq_t C277) <| o_iload j (y d22_188) rfl <| o_ifNo j (y d22_190) (by decide) <| o_iloadN j (y d22_193) rfl <| o_ifNo j (y d22_194) (by decide) <| o_aload j (y d22_197) rfl rfl <| o_iloadN j (y d22_199) rfl <| o_iincL j 1 (y d22_200) rfl (2 : Int32) (by decide) rfl (l' := #[.val (.ref ba), .val (.int 1), .val (.int 2), .val (.int 2), .val (.int 2), .val (.ref a1), .val (.int c1), .val (.int (-1 : Int32)), .val (.int c1)]) rfl <| o_bipushV j 63 (y d22_203) rfl <| k) ?_
                    refine sB (v := (63 : Int32)) 1 X276 hx hZ e276 A238v (by decide) (y d22_205) (fun T278 h278 X278 e278 W278 A278 => ?_)
                    have N278 := Fr.snoc X278 N276 G1
                    have P278 := P238.wr W278 (Or.inr GK1)
                    have Z278 : n0 ≤ h278.size := (by rw [W278.size]; exact Z238)
                    have A280 := (A240.other W278 (Nat.ne_of_lt (Nat.lt_of_lt_of_eq pr2.lt g1.symm)))
                    have A278v : Arv Z h278 a1 kc1 .byte (6 : Int32) [(.int 63), (.int 63), (.int 0), (.int 0), (.int 0), (.int 0)] (.int 0) := A278
                    refine og2 X278 hx (fun j _ k => o_goto j (pc' := 295) (y d22_206) <| o_goto j (pc' := 352) (y d22_295) <| o_goto j (pc' := 58) (y d22_352) <| o_iloadN j (y d22_58) rfl <| o_iload j (y d22_59) rfl <| o_icmpYes j (pc' := 355) (y d22_61) (XT.ii_ge_t (by decide)) <| o_iloadN j (y d22_355) rfl <| o_aload j (y d22_356) rfl rfl <| o_alen X278 hx hZ e278 A278v (y d22_358) <| o_icmpYes j (pc' := 365) (y d22_359) (XT.ii_ne_t (by decide)) <| o_aload j (y d22_365) rfl rfl <| o_iloadN j (y d22_367) rfl <| k) ?_
                    refine cS [(.ref a1), (.int 2)] [] 0 X278 hx hZ hown (w 132 rfl) (w 133 rfl) (w 134 rfl) (w 135 rfl) (rmAC62 l Z a0 hw [] a1 kc1 (63 : Int32) (63 : Int32) (0 : Int32) (0 : Int32) (0 : Int32) (0 : Int32) h278 n0 Z278 A278v) e278 hml pd_oaBIcaB (y d22_368) (fun v281 T281 L281 hQ281 X281 => ?_)
                    obtain ⟨r_281, rk_281, rfl, N281a, K281, Q281_0, Q281_1⟩ := hQ281
                    have N281 := Fr.app N278 N281a
                    have e281 : T281.heap = T281.heap := rfl
                    have P281 : Keep h0 T281.heap [] := (P278.trans K281 all0)
                    have GK281_r : h0.size ≤ r_281 := Nat.le_trans P278.1 Q281_1
                    have ne281_ba_r : ba ≠ r_281 := Nat.ne_of_lt (Nat.lt_of_lt_of_le A280.lt Q281_1)
                    have ne281_a1_r : a1 ≠ r_281 := Nat.ne_of_lt (Nat.lt_of_lt_of_le A278v.lt Q281_1)
                    exact rA X281 hx Bd rfl rfl rfl (y d22_371) e281 ⟨r_281, rk_281, rfl, N281, P281, (by rw [(own_np4 C237), (own_putS C6 C63 (own_sur1 C122).1 (own_sur1 C122).2), (own_putS C242 C250 (own_sur1 C262).1 (own_sur1 C262).2)]; exact Q281_0), GK281_r⟩
                  · refine og2 X276 hx (fun j _ k => o_ifNo j (y d22_156) (XT.i0_eq_f C277) <| o_iloadN j (y d22_159) rfl <| o_iload j (y d22_160) rfl <| o_icmpYes j (pc' := 188) (y d22_162) (XT.ii_ge_t (by decide)) <| o_iload j (y d22_188) rfl <| o_ifNo j (y d22_190) (by decide) <| o_iloadN j (y d22_193) rfl <| o_ifNo j (y d22_194) (by decide) <| o_aload j (y d22_197) rfl rfl <| o_iloadN j (y d22_199) rfl <| o_iincL j 1 (y d22_200) rfl (2 : Int32) (by decide) rfl (l' := #[.val (.ref ba), .val (.int 1), .val (.int 2), .val (.int 2), .val (.int 2), .val (.ref a1), .val (.int c1), .val (.int (-1 : Int32)), .val (.int c1)]) rfl <| o_bipushV j 63 (y d22_203) rfl <| k) ?_
                    refine sB (v := (63 : Int32)) 1 X276 hx hZ e276 A238v (by decide) (y d22_205) (fun T285 h285 X285 e285 W285 A285 => ?_)
                    have N285 := Fr.snoc X285 N276 G1
                    have P285 := P238.wr W285 (Or.inr GK1)
                    have Z285 : n0 ≤ h285.size := (by rw [W285.size]; exact Z238)
                    have A287 := (A240.other W285 (Nat.ne_of_lt (Nat.lt_of_lt_of_eq pr2.lt g1.symm)))
                    have A285v : Arv Z h285 a1 kc1 .byte (6 : Int32) [(.int 63), (.int 63), (.int 0), (.int 0), (.int 0), (.int 0)] (.int 0) := A285
                    refine og2 X285 hx (fun j _ k => o_goto j (pc' := 295) (y d22_206) <| o_goto j (pc' := 352) (y d22_295) <| o_goto j (pc' := 58) (y d22_352) <| o_iloadN j (y d22_58) rfl <| o_iload j (y d22_59) rfl <| o_icmpYes j (pc' := 355) (y d22_61) (XT.ii_ge_t (by decide)) <| o_iloadN j (y d22_355) rfl <| o_aload j (y d22_356) rfl rfl <| o_alen X285 hx hZ e285 A285v (y d22_358) <| o_icmpYes j (pc' := 365) (y d22_359) (XT.ii_ne_t (by decide)) <| o_aload j (y d22_365) rfl rfl <| o_iloadN j (y d22_367) rfl <| k) ?_
                    refine cS [(.ref a1), (.int 2)] [] 0 X285 hx hZ hown (w 132 rfl) (w 133 rfl) (w 134 rfl) (w 135 rfl) (rmAC62 l Z a0 hw [] a1 kc1 (63 : Int32) (63 : Int32) (0 : Int32) (0 : Int32) (0 : Int32) (0 : Int32) h285 n0 Z285 A285v) e285 hml pd_oaBIcaB (y d22_368) (fun v288 T288 L288 hQ288 X288 => ?_)
                    obtain ⟨r_288, rk_288, rfl, N288a, K288, Q288_0, Q288_1⟩ := hQ288
                    have N288 := Fr.app N285 N288a
                    have e288 : T288.heap = T288.heap := rfl
                    have P288 : Keep h0 T288.heap [] := (P285.trans K288 all0)
                    have GK288_r : h0.size ≤ r_288 := Nat.le_trans P285.1 Q288_1
                    have ne288_ba_r : ba ≠ r_288 := Nat.ne_of_lt (Nat.lt_of_lt_of_le A287.lt Q288_1)
                    have ne288_a1_r : a1 ≠ r_288 := Nat.ne_of_lt (Nat.lt_of_lt_of_le A285v.lt Q288_1)
                    exact rA X288 hx Bd rfl rfl rfl (y d22_371) e288 ⟨r_288, rk_288, rfl, N288, P288, (by rw [(own_np4 C237), (own_putS C6 C63 (own_sur1 C122).1 (own_sur1 C122).2), (own_putS C242 C250 (own_sur1 C262).1 (own_sur1 C262).2)]; exact Q288_0), GK288_r⟩
          · refine og2 X236 hx (fun j _ k => o_ifNo j (y d22_176) (XT.i0_eq_f C237) <| o_iload j (y d22_179) rfl <| o_iload j (y d22_181) rfl <| k) ?_
            refine cS [(.int c0), (.int c1)] [] 0 X236 hx hZ hown (w 151 rfl) (w 152 rfl) (w 121 rfl) (w 153 rfl) (rmCPT l Z a0 hw [] c0 c1 h1 n0 Z1) e236 hml pd_oCCcI (y d22_183) (fun v292 T292 L292 hQ292 X292 => ?_)
            obtain ⟨rfl, N292a, eh292⟩ := hQ292
            have N292 := Fr.app N236 N292a
            have e292 : T292.heap = h1 := eh292
            refine og2 X292 hx (fun j _ k => o_istore j (y d22_186) (l' := #[.val (.ref ba), .val (.int 1), .val (.int 0), .val (.int 1), .val (.int 2), .val (.ref a1), .val (.int c0), .val (.int (own_cp c0 c1)), .val (.int c1)]) rfl <| o_iload j (y d22_188) rfl <| o_ifYes j (pc' := 218) (y d22_190) (XT.i0_ge_t (own_cp_pos (own_high1 C180) (own_low1 C237))) <| o_aload j (y d22_218) rfl rfl <| o_iloadN j (y d22_220) rfl <| o_iincL j 1 (y d22_221) rfl (1 : Int32) (by decide) rfl (l' := #[.val (.ref ba), .val (.int 1), .val (.int 1), .val (.int 1), .val (.int 2), .val (.ref a1), .val (.int c0), .val (.int (own_cp c0 c1)), .val (.int c1)]) rfl <| o_sipushV j 240 (y d22_224) rfl <| o_iload j (y d22_227) rfl <| o_bipushV j 18 (y d22_229) rfl <| o_ishr j (y d22_231) <| o_ior j (y d22_232) <| o_i2bO j (y d22_233) <| k) ?_
            refine sB (v := own_b ((240 : Int32) ||| ((own_cp c0 c1) >>> ((18 : Int32) &&& 31)))) 0 X292 hx hZ e292 A4 (own_nar_b _) (y d22_234) (fun T293 h293 X293 e293 W293 A293 => ?_)
            have N293 := Fr.snoc X293 N292 G1
            have P293 := P1.wr W293 (Or.inr GK1)
            have Z293 : n0 ≤ h293.size := (by rw [W293.size]; exact Z1)
            have A295 := (A3.other W293 (Nat.ne_of_lt (Nat.lt_of_lt_of_eq pr2.lt g1.symm)))
            have A293v : Arv Z h293 a1 kc1 .byte (6 : Int32) [(.int (own_b ((240 : Int32) ||| ((own_cp c0 c1) >>> ((18 : Int32) &&& 31))))), (.int 0), (.int 0), (.int 0), (.int 0), (.int 0)] (.int 0) := A293
            refine og2 X293 hx (fun j _ k => o_aload j (y d22_235) rfl rfl <| o_iloadN j (y d22_237) rfl <| o_iincL j 1 (y d22_238) rfl (2 : Int32) (by decide) rfl (l' := #[.val (.ref ba), .val (.int 1), .val (.int 2), .val (.int 1), .val (.int 2), .val (.ref a1), .val (.int c0), .val (.int (own_cp c0 c1)), .val (.int c1)]) rfl <| o_sipushV j 128 (y d22_241) rfl <| o_iload j (y d22_244) rfl <| o_bipushV j 12 (y d22_246) rfl <| o_ishr j (y d22_248) <| o_bipushV j 63 (y d22_249) rfl <| o_iand j (y d22_251) <| o_ior j (y d22_252) <| o_i2bO j (y d22_253) <| k) ?_
            refine sB (v := own_b ((128 : Int32) ||| (((own_cp c0 c1) >>> ((12 : Int32) &&& 31)) &&& (63 : Int32)))) 1 X293 hx hZ e293 A293v (own_nar_b _) (y d22_254) (fun T296 h296 X296 e296 W296 A296 => ?_)
            have N296 := Fr.snoc X296 N293 G1
            have P296 := P293.wr W296 (Or.inr GK1)
            have Z296 : n0 ≤ h296.size := (by rw [W296.size]; exact Z293)
            have A298 := (A295.other W296 (Nat.ne_of_lt (Nat.lt_of_lt_of_eq pr2.lt g1.symm)))
            have A296v : Arv Z h296 a1 kc1 .byte (6 : Int32) [(.int (own_b ((240 : Int32) ||| ((own_cp c0 c1) >>> ((18 : Int32) &&& 31))))), (.int (own_b ((128 : Int32) ||| (((own_cp c0 c1) >>> ((12 : Int32) &&& 31)) &&& (63 : Int32))))), (.int 0), (.int 0), (.int 0), (.int 0)] (.int 0) := A296
            refine og2 X296 hx (fun j _ k => o_aload j (y d22_255) rfl rfl <| o_iloadN j (y d22_257) rfl <| o_iincL j 1 (y d22_258) rfl (3 : Int32) (by decide) rfl (l' := #[.val (.ref ba), .val (.int 1), .val (.int 3), .val (.int 1), .val (.int 2), .val (.ref a1), .val (.int c0), .val (.int (own_cp c0 c1)), .val (.int c1)]) rfl <| o_sipushV j 128 (y d22_261) rfl <| o_iload j (y d22_264) rfl <| o_bipushV j 6 (y d22_266) rfl <| o_ishr j (y d22_268) <| o_bipushV j 63 (y d22_269) rfl <| o_iand j (y d22_271) <| o_ior j (y d22_272) <| o_i2bO j (y d22_273) <| k) ?_
            refine sB (v := own_b ((128 : Int32) ||| (((own_cp c0 c1) >>> ((6 : Int32) &&& 31)) &&& (63 : Int32)))) 2 X296 hx hZ e296 A296v (own_nar_b _) (y d22_274) (fun T299 h299 X299 e299 W299 A299 => ?_)
            have N299 := Fr.snoc X299 N296 G1
            have P299 := P296.wr W299 (Or.inr GK1)
            have Z299 : n0 ≤ h299.size := (by rw [W299.size]; exact Z296)
            have A301 := (A298.other W299 (Nat.ne_of_lt (Nat.lt_of_lt_of_eq pr2.lt g1.symm)))
            have A299v : Arv Z h299 a1 kc1 .byte (6 : Int32) [(.int (own_b ((240 : Int32) ||| ((own_cp c0 c1) >>> ((18 : Int32) &&& 31))))), (.int (own_b ((128 : Int32) ||| (((own_cp c0 c1) >>> ((12 : Int32) &&& 31)) &&& (63 : Int32))))), (.int (own_b ((128 : Int32) ||| (((own_cp c0 c1) >>> ((6 : Int32) &&& 31)) &&& (63 : Int32))))), (.int 0), (.int 0), (.int 0)] (.int 0) := A299
            refine og2 X299 hx (fun j _ k => o_aload j (y d22_275) rfl rfl <| o_iloadN j (y d22_277) rfl <| o_iincL j 1 (y d22_278) rfl (4 : Int32) (by decide) rfl (l' := #[.val (.ref ba), .val (.int 1), .val (.int 4), .val (.int 1), .val (.int 2), .val (.ref a1), .val (.int c0), .val (.int (own_cp c0 c1)), .val (.int c1)]) rfl <| o_sipushV j 128 (y d22_281) rfl <| o_iload j (y d22_284) rfl <| o_bipushV j 63 (y d22_286) rfl <| o_iand j (y d22_288) <| o_ior j (y d22_289) <| o_i2bO j (y d22_290) <| k) ?_
            refine sB (v := own_b ((128 : Int32) ||| ((own_cp c0 c1) &&& (63 : Int32)))) 3 X299 hx hZ e299 A299v (own_nar_b _) (y d22_291) (fun T302 h302 X302 e302 W302 A302 => ?_)
            have N302 := Fr.snoc X302 N299 G1
            have P302 := P299.wr W302 (Or.inr GK1)
            have Z302 : n0 ≤ h302.size := (by rw [W302.size]; exact Z299)
            have A304 := (A301.other W302 (Nat.ne_of_lt (Nat.lt_of_lt_of_eq pr2.lt g1.symm)))
            have A302v : Arv Z h302 a1 kc1 .byte (6 : Int32) [(.int (own_b ((240 : Int32) ||| ((own_cp c0 c1) >>> ((18 : Int32) &&& 31))))), (.int (own_b ((128 : Int32) ||| (((own_cp c0 c1) >>> ((12 : Int32) &&& 31)) &&& (63 : Int32))))), (.int (own_b ((128 : Int32) ||| (((own_cp c0 c1) >>> ((6 : Int32) &&& 31)) &&& (63 : Int32))))), (.int (own_b ((128 : Int32) ||| ((own_cp c0 c1) &&& (63 : Int32))))), (.int 0), (.int 0)] (.int 0) := A302
            refine og2 X302 hx (fun j _ k => o_iincL j 1 (y d22_292) rfl (2 : Int32) (by decide) rfl (l' := #[.val (.ref ba), .val (.int 1), .val (.int 4), .val (.int 2), .val (.int 2), .val (.ref a1), .val (.int c0), .val (.int (own_cp c0 c1)), .val (.int c1)]) rfl <| o_goto j (pc' := 352) (y d22_295) <| o_goto j (pc' := 58) (y d22_352) <| o_iloadN j (y d22_58) rfl <| o_iload j (y d22_59) rfl <| o_icmpYes j (pc' := 355) (y d22_61) (XT.ii_ge_t (by decide)) <| o_iloadN j (y d22_355) rfl <| o_aload j (y d22_356) rfl rfl <| o_alen X302 hx hZ e302 A302v (y d22_358) <| o_icmpYes j (pc' := 365) (y d22_359) (XT.ii_ne_t (by decide)) <| o_aload j (y d22_365) rfl rfl <| o_iloadN j (y d22_367) rfl <| k) ?_
            refine cS [(.ref a1), (.int 4)] [] 0 X302 hx hZ hown (w 132 rfl) (w 133 rfl) (w 134 rfl) (w 135 rfl) (rmAC64 l Z a0 hw [] a1 kc1 (own_b ((240 : Int32) ||| ((own_cp c0 c1) >>> ((18 : Int32) &&& 31)))) (own_b ((128 : Int32) ||| (((own_cp c0 c1) >>> ((12 : Int32) &&& 31)) &&& (63 : Int32)))) (own_b ((128 : Int32) ||| (((own_cp c0 c1) >>> ((6 : Int32) &&& 31)) &&& (63 : Int32)))) (own_b ((128 : Int32) ||| ((own_cp c0 c1) &&& (63 : Int32)))) (0 : Int32) (0 : Int32) h302 n0 Z302 A302v) e302 hml pd_oaBIcaB (y d22_368) (fun v305 T305 L305 hQ305 X305 => ?_)
            obtain ⟨r_305, rk_305, rfl, N305a, K305, Q305_0, Q305_1⟩ := hQ305
            have N305 := Fr.app N302 N305a
            have e305 : T305.heap = T305.heap := rfl
            have P305 : Keep h0 T305.heap [] := (P302.trans K305 all0)
            have GK305_r : h0.size ≤ r_305 := Nat.le_trans P302.1 Q305_1
            have ne305_ba_r : ba ≠ r_305 := Nat.ne_of_lt (Nat.lt_of_lt_of_le A304.lt Q305_1)
            have ne305_a1_r : a1 ≠ r_305 := Nat.ne_of_lt (Nat.lt_of_lt_of_le A302v.lt Q305_1)
            exact rA X305 hx Bd rfl rfl rfl (y d22_371) e305 ⟨r_305, rk_305, rfl, N305, P305, (by rw [(own_enc2_p (own_high1 C180).1 (own_high1 C180).2 (own_low1 C237).1 (own_low1 C237).2), own_put4 (own_cp_ge (own_high1 C180) (own_low1 C237))]; exact Q305_0), GK305_r⟩

def own_cpos1 (c0 : Int32) : Int32 := if own_b c0 < 0 then 0 else 1
def own_cpos2 (c0 c1 : Int32) : Int32 := if own_b c0 < 0 then 0 else if own_b c1 < 0 then 1 else 2
def own_hn1 (c0 : Int32) : Int32 := if own_cpos1 c0 = 1 then 0 else 1
def own_hn2 (c0 c1 : Int32) : Int32 := if own_cpos2 c0 c1 = 2 then 0 else 1
theorem own_hn1_0 {c0 : Int32} (h : own_hn1 c0 = 0) : ¬ own_b c0 < 0 := fun q => by simp [own_hn1, own_cpos1, q] at h
theorem own_hn2_0 {c0 c1 : Int32} (h : own_hn2 c0 c1 = 0) : ¬ own_b c0 < 0 ∧ ¬ own_b c1 < 0 := by
  by_cases q : own_b c0 < 0
  · simp [own_hn2, own_cpos2, q] at h
  · by_cases r : own_b c1 < 0
    · simp [own_hn2, own_cpos2, q, r] at h
    · exact ⟨q, r⟩
theorem own_la {c : Int32} (h : OCh c) (g : ¬ (255 : Int32) < c) (q : ¬ own_b c < 0) : own_put c = [own_b c] := own_put1 (Decidable.not_not.mp (mt (own_b_neg h g).mpr q))
theorem own_lb {c : Int32} (h : OCh c) (g : ¬ (255 : Int32) < c) (q : own_b c < 0) : own_put c = [own_b (192 ||| (c >>> ((6 : Int32) &&& 31))), own_b (128 ||| (c &&& 63))] := own_put2 ((own_b_neg h g).mp q) (by
  rw [Int32.lt_iff_toInt_lt] at *
  rw [show (255 : Int32).toInt = 255 from rfl] at g
  rw [show (2048 : Int32).toInt = 2048 from rfl]; omega)
theorem own_npl {c0 c1 : Int32} (g : ¬ (255 : Int32) < c0) : own_enc2 c0 c1 = own_put c0 ++ own_put c1 := own_np1 (by
  rw [Int32.lt_iff_toInt_lt] at *
  rw [show (255 : Int32).toInt = 255 from rfl] at g
  rw [show (2048 : Int32).toInt = 2048 from rfl]; omega)

abbrev k1 := jdk_123_method_3_code
theorem d12_0 : decode k1 0 = .ok (.iload_n 1, 1) := by decide +kernel
theorem d12_1 : decode k1 1 = .ok (.iload_n 2, 1) := by decide +kernel
theorem d12_2 : decode k1 2 = .ok (.iadd, 1) := by decide +kernel
theorem d12_3 : decode k1 3 = .ok (.istore_n 3, 1) := by decide +kernel
theorem d12_4 : decode k1 4 = .ok (.iload_n 1, 1) := by decide +kernel
theorem d12_5 : decode k1 5 = .ok (.istore 4, 2) := by decide +kernel
theorem d12_7 : decode k1 7 = .ok (.iload 4, 2) := by decide +kernel
theorem d12_9 : decode k1 9 = .ok (.iload_n 3, 1) := by decide +kernel
theorem d12_10 : decode k1 10 = .ok (.if_icmp .ge 21, 3) := by decide +kernel
theorem d12_31 : decode k1 31 = .ok (.iload_n 2, 1) := by decide +kernel
theorem d12_32 : decode k1 32 = .ok (.ireturn, 1) := by decide +kernel
theorem pn_java_lang_StringCoding : plainName "java/lang/StringCoding" = true := by first | (simp [plainName, overriddenIn]; done) | decide +kernel
def QCN0 (Z : State) (ba : Addr) (bk : ClassId) (h0 : Heap) (n0 : Nat) (v : Option Value) (h : Heap) (L : List Loc) : Prop := v = some (.int 0) ∧ Fr n0 L ∧ h = h0
theorem rmCN0 (l : Launch) (Z : State) (a0 : Array Value) (hw : HW a0 Z) (ws : List Jvm.Cond) (ba : Addr) (bk : ClassId) (h0 : Heap) (n0 : Nat) (Z0 : n0 ≤ h0.size) (pr0 : Arv Z h0 ba bk .byte (0 : Int32) [] (.int 0)) :
    MF l Z ⟨"java/lang/StringCoding", "countPositives", "([BII)I"⟩ jdk_123_method_3_code 5 (some .int) ws R_0_0_0_0 #[(.ref ba), (.int 0), (.int 0)] h0 (QCN0 Z ba bk h0 n0) := by
  refine og_start (plainFor_of_name pn_java_lang_StringCoding) fun p e s m below meth c s₁ Bd hx hby hml hZ hown hnm X0 e0 => ?_
  have y := @hb _ _ hby
  refine og (fun t k => castTop (ef4 m ba (0 : Int32) (0 : Int32)) k) ?_
  refine og2 X0 hx (fun j _ k => o_iloadN j (y d12_0) rfl <| o_iloadN j (y d12_1) rfl <| o_iadd j (y d12_2) <| k) ?_
  rw [(by decide : (0 : Int32) + (0 : Int32) = (0 : Int32))]
  refine og2 X0 hx (fun j _ k => o_istoreN j (y d12_3) (l' := #[.val (.ref ba), .val (.int 0), .val (.int 0), .val (.int 0), .unset]) rfl <| o_iloadN j (y d12_4) rfl <| o_istore j (y d12_5) (l' := #[.val (.ref ba), .val (.int 0), .val (.int 0), .val (.int 0), .val (.int 0)]) rfl <| o_iload j (y d12_7) rfl <| o_iloadN j (y d12_9) rfl <| o_icmpYes j (pc' := 31) (y d12_10) (XT.ii_ge_t (by decide)) <| o_iloadN j (y d12_31) rfl <| k) ?_
  exact rI X0 hx Bd (y d12_32) e0 ⟨rfl, (Fr.nil n0), rfl⟩

abbrev R_1_0_0_16 : Room := ({ frames := 1, cells := 0, slots := 0, locals := 16 } : Room)
abbrev k0 := jdk_123_method_2_code
theorem d11_0 : decode k0 0 = .ok (.aload_n 0, 1) := by decide +kernel
theorem d11_1 : decode k0 1 = .ok (.iload_n 1, 1) := by decide +kernel
theorem d11_2 : decode k0 2 = .ok (.iload_n 2, 1) := by decide +kernel
theorem d11_3 : decode k0 3 = .ok (.invokestatic 7, 3) := by decide +kernel
theorem d11_6 : decode k0 6 = .ok (.iload_n 2, 1) := by decide +kernel
theorem d11_7 : decode k0 7 = .ok (.if_icmp .eq 7, 3) := by decide +kernel
theorem d11_14 : decode k0 14 = .ok (.iconst 0, 1) := by decide +kernel
theorem d11_15 : decode k0 15 = .ok (.ireturn, 1) := by decide +kernel
theorem pd_oaBIIcI : parseMethodDescriptor "([BII)I" = some ⟨[(.array .byte), .int, .int], some .int⟩ := by decide +kernel
def QHN0 (Z : State) (ba : Addr) (bk : ClassId) (h0 : Heap) (n0 : Nat) (v : Option Value) (h : Heap) (L : List Loc) : Prop := v = some (.int 0) ∧ Fr n0 L ∧ h = h0
theorem rmHN0 (l : Launch) (Z : State) (a0 : Array Value) (hw : HW a0 Z) (ws : List Jvm.Cond) (ba : Addr) (bk : ClassId) (h0 : Heap) (n0 : Nat) (Z0 : n0 ≤ h0.size) (pr0 : Arv Z h0 ba bk .byte (0 : Int32) [] (.int 0)) :
    MF l Z ⟨"java/lang/StringCoding", "hasNegatives", "([BII)Z"⟩ jdk_123_method_2_code 3 (some .boolean) ws R_1_0_0_16 #[(.ref ba), (.int 0), (.int 0)] h0 (QHN0 Z ba bk h0 n0) := by
  refine og_start (plainFor_of_name pn_java_lang_StringCoding) fun p e s m below meth c s₁ Bd hx hby hml hZ hown hnm X0 e0 => ?_
  have y := @hb _ _ hby
  have w := @wd _ _ hw
  refine og (fun t k => castTop (ef2 m ba (0 : Int32) (0 : Int32)) k) ?_
  refine og2 X0 hx (fun j _ k => o_aloadN j (y d11_0) rfl rfl <| o_iloadN j (y d11_1) rfl <| o_iloadN j (y d11_2) rfl <| k) ?_
  refine cS [(.ref ba), (.int 0), (.int 0)] [] 0 X0 hx hZ hown (w 70 rfl) (w 71 rfl) (w 68 rfl) (w 72 rfl) (rmCN0 l Z a0 hw [] ba bk h0 n0 Z0 pr0) e0 hml pd_oaBIIcI (y d11_3) (fun v1 T1 L1 hQ1 X1 => ?_)
  obtain ⟨rfl, N1a, eh1⟩ := hQ1
  have N1 := Fr.app (Fr.nil n0) N1a
  have e1 : T1.heap = h0 := eh1
  refine og2 X1 hx (fun j _ k => o_iloadN j (y d11_6) rfl <| o_icmpYes j (pc' := 14) (y d11_7) (XT.ii_eq_t rfl) <| o_iconstV j 0 (y d11_14) rfl <| k) ?_
  exact rN (v := (0 : Int32)) X1 hx Bd (by simp) rfl (y d11_15) e1 ⟨rfl, N1, rfl⟩

theorem d12_13 : decode k1 13 = .ok (.aload_n 0, 1) := by decide +kernel
theorem d12_14 : decode k1 14 = .ok (.iload 4, 2) := by decide +kernel
theorem d12_16 : decode k1 16 = .ok (.baload, 1) := by decide +kernel
theorem d12_17 : decode k1 17 = .ok (.ifCond .ge 8, 3) := by decide +kernel
theorem d12_20 : decode k1 20 = .ok (.iload 4, 2) := by decide +kernel
theorem d12_22 : decode k1 22 = .ok (.iload_n 1, 1) := by decide +kernel
theorem d12_23 : decode k1 23 = .ok (.isub, 1) := by decide +kernel
theorem d12_24 : decode k1 24 = .ok (.ireturn, 1) := by decide +kernel
theorem d12_25 : decode k1 25 = .ok (.iinc 4 1, 3) := by decide +kernel
theorem d12_28 : decode k1 28 = .ok (.goto (-21), 3) := by decide +kernel
def QCN1 (Z : State) (ba : Addr) (bk : ClassId) (c0 : Int32) (h0 : Heap) (n0 : Nat) (v : Option Value) (h : Heap) (L : List Loc) : Prop := v = some (.int (own_cpos1 c0)) ∧ Fr n0 L ∧ h = h0
theorem rmCN1 (l : Launch) (Z : State) (a0 : Array Value) (hw : HW a0 Z) (ws : List Jvm.Cond) (ba : Addr) (bk : ClassId) (c0 : Int32) (h0 : Heap) (n0 : Nat) (Z0 : n0 ≤ h0.size) (pr0 : Arv Z h0 ba bk .byte (1 : Int32) [(.int (own_b c0))] (.int 0)) :
    MF l Z ⟨"java/lang/StringCoding", "countPositives", "([BII)I"⟩ jdk_123_method_3_code 5 (some .int) ws R_0_0_0_0 #[(.ref ba), (.int 0), (.int 1)] h0 (QCN1 Z ba bk c0 h0 n0) := by
  refine og_start (plainFor_of_name pn_java_lang_StringCoding) fun p e s m below meth c s₁ Bd hx hby hml hZ hown hnm X0 e0 => ?_
  have y := @hb _ _ hby
  refine og (fun t k => castTop (ef4 m ba (0 : Int32) (1 : Int32)) k) ?_
  refine og2 X0 hx (fun j _ k => o_iloadN j (y d12_0) rfl <| o_iloadN j (y d12_1) rfl <| o_iadd j (y d12_2) <| k) ?_
  rw [(by decide : (0 : Int32) + (1 : Int32) = (1 : Int32))]
  refine og2 X0 hx (fun j _ k => o_istoreN j (y d12_3) (l' := #[.val (.ref ba), .val (.int 0), .val (.int 1), .val (.int 1), .unset]) rfl <| o_iloadN j (y d12_4) rfl <| o_istore j (y d12_5) (l' := #[.val (.ref ba), .val (.int 0), .val (.int 1), .val (.int 1), .val (.int 0)]) rfl <| o_iload j (y d12_7) rfl <| o_iloadN j (y d12_9) rfl <| o_icmpNo j (y d12_10) (XT.ii_ge_f (by decide)) <| o_aloadN j (y d12_13) rfl rfl <| o_iload j (y d12_14) rfl <| o_baload (v := (.int (own_b c0))) X0 hx hZ e0 pr0 ⟨by decide, by decide⟩ rfl (y d12_16) <| k) ?_
  by_cases C1 : own_b c0 < 0
  · refine og2 X0 hx (fun j _ k => o_ifNo j (y d12_17) (XT.i0_ge_f C1) <| o_iload j (y d12_20) rfl <| o_iloadN j (y d12_22) rfl <| o_isub j (y d12_23) <| k) ?_
    rw [(by decide : (0 : Int32) - (0 : Int32) = (0 : Int32))]
    exact rI X0 hx Bd (y d12_24) e0 ⟨(by rw [own_cpos1, if_pos C1]), (Fr.nil n0), rfl⟩
  · refine og2 X0 hx (fun j _ k => o_ifYes j (pc' := 25) (y d12_17) (XT.i0_ge_t C1) <| o_iincL j 1 (y d12_25) rfl (1 : Int32) (by decide) rfl (l' := #[.val (.ref ba), .val (.int 0), .val (.int 1), .val (.int 1), .val (.int 1)]) rfl <| o_goto j (pc' := 7) (y d12_28) <| o_iload j (y d12_7) rfl <| o_iloadN j (y d12_9) rfl <| o_icmpYes j (pc' := 31) (y d12_10) (XT.ii_ge_t (by decide)) <| o_iloadN j (y d12_31) rfl <| k) ?_
    exact rI X0 hx Bd (y d12_32) e0 ⟨(by rw [own_cpos1, if_neg C1]), (Fr.nil n0), rfl⟩

theorem d11_10 : decode k0 10 = .ok (.iconst 1, 1) := by decide +kernel
theorem d11_11 : decode k0 11 = .ok (.goto 4, 3) := by decide +kernel
def QHN1 (Z : State) (ba : Addr) (bk : ClassId) (c0 : Int32) (h0 : Heap) (n0 : Nat) (v : Option Value) (h : Heap) (L : List Loc) : Prop := v = some (.int (own_hn1 c0)) ∧ Fr n0 L ∧ h = h0
theorem rmHN1 (l : Launch) (Z : State) (a0 : Array Value) (hw : HW a0 Z) (ws : List Jvm.Cond) (ba : Addr) (bk : ClassId) (c0 : Int32) (h0 : Heap) (n0 : Nat) (Z0 : n0 ≤ h0.size) (pr0 : Arv Z h0 ba bk .byte (1 : Int32) [(.int (own_b c0))] (.int 0)) :
    MF l Z ⟨"java/lang/StringCoding", "hasNegatives", "([BII)Z"⟩ jdk_123_method_2_code 3 (some .boolean) ws R_1_0_0_16 #[(.ref ba), (.int 0), (.int 1)] h0 (QHN1 Z ba bk c0 h0 n0) := by
  refine og_start (plainFor_of_name pn_java_lang_StringCoding) fun p e s m below meth c s₁ Bd hx hby hml hZ hown hnm X0 e0 => ?_
  have y := @hb _ _ hby
  have w := @wd _ _ hw
  refine og (fun t k => castTop (ef2 m ba (0 : Int32) (1 : Int32)) k) ?_
  refine og2 X0 hx (fun j _ k => o_aloadN j (y d11_0) rfl rfl <| o_iloadN j (y d11_1) rfl <| o_iloadN j (y d11_2) rfl <| k) ?_
  refine cS [(.ref ba), (.int 0), (.int 1)] [] 0 X0 hx hZ hown (w 70 rfl) (w 71 rfl) (w 68 rfl) (w 72 rfl) (rmCN1 l Z a0 hw [] ba bk c0 h0 n0 Z0 pr0) e0 hml pd_oaBIIcI (y d11_3) (fun v1 T1 L1 hQ1 X1 => ?_)
  obtain ⟨rfl, N1a, eh1⟩ := hQ1
  have N1 := Fr.app (Fr.nil n0) N1a
  have e1 : T1.heap = h0 := eh1
  refine og2 X1 hx (fun j _ k => o_iloadN j (y d11_6) rfl <| k) ?_
  by_cases C2 : (own_cpos1 c0) = (1 : Int32)
  · refine og2 X1 hx (fun j _ k => o_icmpYes j (pc' := 14) (y d11_7) (XT.ii_eq_t C2) <| o_iconstV j 0 (y d11_14) rfl <| k) ?_
    exact rN (v := (0 : Int32)) X1 hx Bd (by simp) rfl (y d11_15) e1 ⟨(by rw [own_hn1, if_pos C2]), N1, rfl⟩
  · refine og2 X1 hx (fun j _ k => o_icmpNo j (y d11_7) (XT.ii_eq_f C2) <| o_iconstV j 1 (y d11_10) rfl <| o_goto j (pc' := 15) (y d11_11) <| k) ?_
    exact rN (v := (1 : Int32)) X1 hx Bd (by simp) rfl (y d11_15) e1 ⟨(by rw [own_hn1, if_neg C2]), N1, rfl⟩

def QCN2 (Z : State) (ba : Addr) (bk : ClassId) (c0 : Int32) (c1 : Int32) (h0 : Heap) (n0 : Nat) (v : Option Value) (h : Heap) (L : List Loc) : Prop := v = some (.int (own_cpos2 c0 c1)) ∧ Fr n0 L ∧ h = h0
theorem rmCN2 (l : Launch) (Z : State) (a0 : Array Value) (hw : HW a0 Z) (ws : List Jvm.Cond) (ba : Addr) (bk : ClassId) (c0 : Int32) (c1 : Int32) (h0 : Heap) (n0 : Nat) (Z0 : n0 ≤ h0.size) (pr0 : Arv Z h0 ba bk .byte (2 : Int32) [(.int (own_b c0)), (.int (own_b c1))] (.int 0)) :
    MF l Z ⟨"java/lang/StringCoding", "countPositives", "([BII)I"⟩ jdk_123_method_3_code 5 (some .int) ws R_0_0_0_0 #[(.ref ba), (.int 0), (.int 2)] h0 (QCN2 Z ba bk c0 c1 h0 n0) := by
  refine og_start (plainFor_of_name pn_java_lang_StringCoding) fun p e s m below meth c s₁ Bd hx hby hml hZ hown hnm X0 e0 => ?_
  have y := @hb _ _ hby
  refine og (fun t k => castTop (ef4 m ba (0 : Int32) (2 : Int32)) k) ?_
  refine og2 X0 hx (fun j _ k => o_iloadN j (y d12_0) rfl <| o_iloadN j (y d12_1) rfl <| o_iadd j (y d12_2) <| k) ?_
  rw [(by decide : (0 : Int32) + (2 : Int32) = (2 : Int32))]
  refine og2 X0 hx (fun j _ k => o_istoreN j (y d12_3) (l' := #[.val (.ref ba), .val (.int 0), .val (.int 2), .val (.int 2), .unset]) rfl <| o_iloadN j (y d12_4) rfl <| o_istore j (y d12_5) (l' := #[.val (.ref ba), .val (.int 0), .val (.int 2), .val (.int 2), .val (.int 0)]) rfl <| o_iload j (y d12_7) rfl <| o_iloadN j (y d12_9) rfl <| o_icmpNo j (y d12_10) (XT.ii_ge_f (by decide)) <| o_aloadN j (y d12_13) rfl rfl <| o_iload j (y d12_14) rfl <| o_baload (v := (.int (own_b c0))) X0 hx hZ e0 pr0 ⟨by decide, by decide⟩ rfl (y d12_16) <| k) ?_
  by_cases C1 : own_b c0 < 0
  · refine og2 X0 hx (fun j _ k => o_ifNo j (y d12_17) (XT.i0_ge_f C1) <| o_iload j (y d12_20) rfl <| o_iloadN j (y d12_22) rfl <| o_isub j (y d12_23) <| k) ?_
    rw [(by decide : (0 : Int32) - (0 : Int32) = (0 : Int32))]
    exact rI X0 hx Bd (y d12_24) e0 ⟨(by rw [own_cpos2, if_pos C1]), (Fr.nil n0), rfl⟩
  · refine og2 X0 hx (fun j _ k => o_ifYes j (pc' := 25) (y d12_17) (XT.i0_ge_t C1) <| o_iincL j 1 (y d12_25) rfl (1 : Int32) (by decide) rfl (l' := #[.val (.ref ba), .val (.int 0), .val (.int 2), .val (.int 2), .val (.int 1)]) rfl <| o_goto j (pc' := 7) (y d12_28) <| o_iload j (y d12_7) rfl <| o_iloadN j (y d12_9) rfl <| o_icmpNo j (y d12_10) (XT.ii_ge_f (by decide)) <| o_aloadN j (y d12_13) rfl rfl <| o_iload j (y d12_14) rfl <| o_baload (v := (.int (own_b c1))) X0 hx hZ e0 pr0 ⟨by decide, by decide⟩ rfl (y d12_16) <| k) ?_
    by_cases C2 : own_b c1 < 0
    · refine og2 X0 hx (fun j _ k => o_ifNo j (y d12_17) (XT.i0_ge_f C2) <| o_iload j (y d12_20) rfl <| o_iloadN j (y d12_22) rfl <| o_isub j (y d12_23) <| k) ?_
      rw [(by decide : (1 : Int32) - (0 : Int32) = (1 : Int32))]
      exact rI X0 hx Bd (y d12_24) e0 ⟨(by rw [own_cpos2, if_neg C1, if_pos C2]), (Fr.nil n0), rfl⟩
    · refine og2 X0 hx (fun j _ k => o_ifYes j (pc' := 25) (y d12_17) (XT.i0_ge_t C2) <| o_iincL j 1 (y d12_25) rfl (2 : Int32) (by decide) rfl (l' := #[.val (.ref ba), .val (.int 0), .val (.int 2), .val (.int 2), .val (.int 2)]) rfl <| o_goto j (pc' := 7) (y d12_28) <| o_iload j (y d12_7) rfl <| o_iloadN j (y d12_9) rfl <| o_icmpYes j (pc' := 31) (y d12_10) (XT.ii_ge_t (by decide)) <| o_iloadN j (y d12_31) rfl <| k) ?_
      exact rI X0 hx Bd (y d12_32) e0 ⟨(by rw [own_cpos2, if_neg C1, if_neg C2]), (Fr.nil n0), rfl⟩

def QHN2 (Z : State) (ba : Addr) (bk : ClassId) (c0 : Int32) (c1 : Int32) (h0 : Heap) (n0 : Nat) (v : Option Value) (h : Heap) (L : List Loc) : Prop := v = some (.int (own_hn2 c0 c1)) ∧ Fr n0 L ∧ h = h0
theorem rmHN2 (l : Launch) (Z : State) (a0 : Array Value) (hw : HW a0 Z) (ws : List Jvm.Cond) (ba : Addr) (bk : ClassId) (c0 : Int32) (c1 : Int32) (h0 : Heap) (n0 : Nat) (Z0 : n0 ≤ h0.size) (pr0 : Arv Z h0 ba bk .byte (2 : Int32) [(.int (own_b c0)), (.int (own_b c1))] (.int 0)) :
    MF l Z ⟨"java/lang/StringCoding", "hasNegatives", "([BII)Z"⟩ jdk_123_method_2_code 3 (some .boolean) ws R_1_0_0_16 #[(.ref ba), (.int 0), (.int 2)] h0 (QHN2 Z ba bk c0 c1 h0 n0) := by
  refine og_start (plainFor_of_name pn_java_lang_StringCoding) fun p e s m below meth c s₁ Bd hx hby hml hZ hown hnm X0 e0 => ?_
  have y := @hb _ _ hby
  have w := @wd _ _ hw
  refine og (fun t k => castTop (ef2 m ba (0 : Int32) (2 : Int32)) k) ?_
  refine og2 X0 hx (fun j _ k => o_aloadN j (y d11_0) rfl rfl <| o_iloadN j (y d11_1) rfl <| o_iloadN j (y d11_2) rfl <| k) ?_
  refine cS [(.ref ba), (.int 0), (.int 2)] [] 0 X0 hx hZ hown (w 70 rfl) (w 71 rfl) (w 68 rfl) (w 72 rfl) (rmCN2 l Z a0 hw [] ba bk c0 c1 h0 n0 Z0 pr0) e0 hml pd_oaBIIcI (y d11_3) (fun v1 T1 L1 hQ1 X1 => ?_)
  obtain ⟨rfl, N1a, eh1⟩ := hQ1
  have N1 := Fr.app (Fr.nil n0) N1a
  have e1 : T1.heap = h0 := eh1
  refine og2 X1 hx (fun j _ k => o_iloadN j (y d11_6) rfl <| k) ?_
  by_cases C2 : (own_cpos2 c0 c1) = (2 : Int32)
  · refine og2 X1 hx (fun j _ k => o_icmpYes j (pc' := 14) (y d11_7) (XT.ii_eq_t C2) <| o_iconstV j 0 (y d11_14) rfl <| k) ?_
    exact rN (v := (0 : Int32)) X1 hx Bd (by simp) rfl (y d11_15) e1 ⟨(by rw [own_hn2, if_pos C2]), N1, rfl⟩
  · refine og2 X1 hx (fun j _ k => o_icmpNo j (y d11_7) (XT.ii_eq_f C2) <| o_iconstV j 1 (y d11_10) rfl <| o_goto j (pc' := 15) (y d11_11) <| k) ?_
    exact rN (v := (1 : Int32)) X1 hx Bd (by simp) rfl (y d11_15) e1 ⟨(by rw [own_hn2, if_neg C2]), N1, rfl⟩

abbrev R_2_1_0_30 : Room := ({ frames := 2, cells := 1, slots := 0, locals := 30 } : Room)
abbrev k9 := jdk_42_method_46_code
theorem d10_0 : decode k9 0 = .ok (.iload_n 0, 1) := by decide +kernel
theorem d10_1 : decode k9 1 = .ok (.iconst 1, 1) := by decide +kernel
theorem d10_2 : decode k9 2 = .ok (.if_icmp .ne 9, 3) := by decide +kernel
theorem d10_11 : decode k9 11 = .ok (.aload_n 1, 1) := by decide +kernel
theorem d10_12 : decode k9 12 = .ok (.iconst 0, 1) := by decide +kernel
theorem d10_13 : decode k9 13 = .ok (.aload_n 1, 1) := by decide +kernel
theorem d10_14 : decode k9 14 = .ok (.arraylength, 1) := by decide +kernel
theorem d10_15 : decode k9 15 = .ok (.invokestatic 128, 3) := by decide +kernel
theorem d10_18 : decode k9 18 = .ok (.ifCond .ne 11, 3) := by decide +kernel
theorem d10_21 : decode k9 21 = .ok (.aload_n 1, 1) := by decide +kernel
theorem d10_22 : decode k9 22 = .ok (.invokevirtual 279, 3) := by decide +kernel
theorem d10_25 : decode k9 25 = .ok (.checkcast 280, 3) := by decide +kernel
theorem d10_28 : decode k9 28 = .ok (.areturn, 1) := by decide +kernel
theorem pd_oaBIIcZ : parseMethodDescriptor "([BII)Z" = some ⟨[(.array .byte), .int, .int], some .boolean⟩ := by decide +kernel
theorem ef12 (m : MethodId) (x0 : Int32) (x1 : Addr) (x2 : Int32) : entryFrame m #[(.int x0), (.ref x1), (.int x2)] 9 = (mkF m 0 #[.val (.int x0), .val (.ref x1), .val (.int x2), .unset, .unset, .unset, .unset, .unset, .unset] []) := by first | (simp [entryFrame, mkF, argsToLocals, Value.category]; done) | rfl
def QE800 (Z : State) (cs : Int32) (u8 : Addr) (ba : Addr) (bk : ClassId) (h0 : Heap) (n0 : Nat) (v : Option Value) (h : Heap) (L : List Loc) : Prop := ∃ r : Addr, ∃ rk : ClassId, v = some (.ref r) ∧ Fr n0 L ∧ Keep h0 h [] ∧ Arv Z h r rk .byte (own_ln ([])) (own_vs ([])) (.int 0) ∧ h0.size ≤ r
theorem rmE800 (l : Launch) (Z : State) (a0 : Array Value) (hw : HW a0 Z) (ws : List Jvm.Cond) (cs : Int32) (u8 : Addr) (ba : Addr) (bk : ClassId) (h0 : Heap) (n0 : Nat) (Z0 : n0 ≤ h0.size) (H0 : OSt Z cs u8) (pr1 : Old Z n0 h0) (pr2 : Arv Z h0 ba bk .byte (0 : Int32) [] (.int 0)) (pr3 : Exa Z h0 ba "[B") :
    MF l Z ⟨"java/lang/String", "encodeUTF8", "(B[BZ)[B"⟩ jdk_42_method_46_code 9 (some (.array .byte)) ws R_2_1_0_30 #[(.int 0), (.ref ba), (.int 1)] h0 (QE800 Z cs u8 ba bk h0 n0) := by
  refine og_start (plainFor_of_name pn_java_lang_String) fun p e s m below meth c s₁ Bd hx hby hml hZ hown hnm X0 e0 => ?_
  have y := @hb _ _ hby
  have w := @wd _ _ hw
  refine og (fun t k => castTop (ef12 m (0 : Int32) ba (1 : Int32)) k) ?_
  refine og2 X0 hx (fun j _ k => o_iloadN j (y d10_0) rfl <| o_iconstV j 1 (y d10_1) rfl <| o_icmpYes j (pc' := 11) (y d10_2) (XT.ii_ne_t (by decide)) <| o_aloadN j (y d10_11) rfl rfl <| o_iconstV j 0 (y d10_12) rfl <| o_aloadN j (y d10_13) rfl rfl <| o_alen X0 hx hZ e0 pr2 (y d10_14) <| k) ?_
  refine cS [(.ref ba), (.int 0), (.int 0)] [] 0 X0 hx hZ hown (w 66 rfl) (w 67 rfl) (w 68 rfl) (w 69 rfl) (rmHN0 l Z a0 hw [] ba bk h0 n0 Z0 pr2) e0 hml pd_oaBIIcZ (y d10_15) (fun v1 T1 L1 hQ1 X1 => ?_)
  obtain ⟨rfl, N1a, eh1⟩ := hQ1
  have N1 := Fr.app (Fr.nil n0) N1a
  have e1 : T1.heap = h0 := eh1
  refine og2 X1 hx (fun j _ k => o_ifNo j (y d10_18) (by decide) <| o_aloadN j (y d10_21) rfl rfl <| k) ?_
  obtain ⟨T2, h2, X2, e2, E2, A2, D2, st2⟩ := cloneH X1 hx hZ hown (w 73 rfl) (w 74 rfl) (w 78 rfl) (w 76 rfl) (w 77 rfl) (w 79 rfl) e1 (Arv.arh pr2) pr3 (g := (mkF m 22 #[.val (.int 0), .val (.ref ba), .val (.int 1), .unset, .unset, .unset, .unset, .unset, .unset] [(.ref ba)])) rfl (by rw [hml]; rfl) rfl (y d10_22) (by decide) (W := 0) (by show 2 * 0 + _ ≤ _; exact Nat.le_of_eq rfl) (by decide) (cap := 0) (by decide) (by decide) (by decide)
  obtain ⟨a2, g2⟩ : ∃ z, z = h0.size := ⟨_, rfl⟩
  rw [← g2] at A2 D2 st2
  have GK2 : h0.size ≤ a2 := Nat.le_trans (Keep.refl h0 []).1 (Nat.le_of_eq g2.symm)
  have P2 := (Keep.refl h0 []).ext E2
  have A2v : Arv Z h2 a2 bk .byte (0 : Int32) [] (.int 0) := A2
  refine og st2 ?_
  change OG _ _ _ _ (T2.setTop (mkF m 25 #[.val (.int 0), .val (.ref ba), .val (.int 1), .unset, .unset, .unset, .unset, .unset, .unset] [(.ref a2)]))
  refine g_cast (C := "") X2 hx hZ hown (w 80 rfl) e2 (Ins.self D2) (y d10_25) (fun T6 X6 e6 => ?_)
  exact rA X6 hx Bd rfl rfl rfl (y d10_28) e6 ⟨a2, bk, rfl, N1, P2, A2v, GK2⟩

abbrev R_3_1_0_50 : Room := ({ frames := 3, cells := 1, slots := 0, locals := 50 } : Room)
abbrev k7 := jdk_42_method_18_code
theorem d9_0 : decode k7 0 = .ok (.aload_n 0, 1) := by decide +kernel
theorem d9_1 : decode k7 1 = .ok (.getstatic 86, 3) := by decide +kernel
theorem d9_4 : decode k7 4 = .ok (.if_acmp .ne 10, 3) := by decide +kernel
theorem d9_7 : decode k7 7 = .ok (.iload_n 1, 1) := by decide +kernel
theorem d9_8 : decode k7 8 = .ok (.aload_n 2, 1) := by decide +kernel
theorem d9_9 : decode k7 9 = .ok (.iconst 1, 1) := by decide +kernel
theorem d9_10 : decode k7 10 = .ok (.invokestatic 252, 3) := by decide +kernel
theorem d9_13 : decode k7 13 = .ok (.areturn, 1) := by decide +kernel
theorem pd_oBaBZcaB : parseMethodDescriptor "(B[BZ)[B" = some ⟨[.byte, (.array .byte), .boolean], some (.array .byte)⟩ := by decide +kernel
theorem ef13 (m : MethodId) (x0 : Addr) (x1 : Int32) (x2 : Addr) : entryFrame m #[(.ref x0), (.int x1), (.ref x2)] 3 = (mkF m 0 #[.val (.ref x0), .val (.int x1), .val (.ref x2)] []) := by first | (simp [entryFrame, mkF, argsToLocals, Value.category]; done) | rfl
def QEN00 (Z : State) (cs : Int32) (u8 : Addr) (ba : Addr) (bk : ClassId) (h0 : Heap) (n0 : Nat) (v : Option Value) (h : Heap) (L : List Loc) : Prop := ∃ r : Addr, ∃ rk : ClassId, v = some (.ref r) ∧ Fr n0 L ∧ Keep h0 h [] ∧ Arv Z h r rk .byte (own_ln ([])) (own_vs ([])) (.int 0) ∧ h0.size ≤ r
theorem rmEN00 (l : Launch) (Z : State) (a0 : Array Value) (hw : HW a0 Z) (ws : List Jvm.Cond) (cs : Int32) (u8 : Addr) (ba : Addr) (bk : ClassId) (h0 : Heap) (n0 : Nat) (Z0 : n0 ≤ h0.size) (H0 : OSt Z cs u8) (pr1 : Old Z n0 h0) (pr2 : Arv Z h0 ba bk .byte (0 : Int32) [] (.int 0)) (pr3 : Exa Z h0 ba "[B") :
    MF l Z ⟨"java/lang/String", "encode", "(Ljava/nio/charset/Charset;B[B)[B"⟩ jdk_42_method_18_code 3 (some (.array .byte)) ws R_3_1_0_50 #[(.ref u8), (.int 0), (.ref ba)] h0 (QEN00 Z cs u8 ba bk h0 n0) := by
  refine og_start (plainFor_of_name pn_java_lang_String) fun p e s m below meth c s₁ Bd hx hby hml hZ hown hnm X0 e0 => ?_
  have y := @hb _ _ hby
  have w := @wd _ _ hw
  refine og (fun t k => castTop (ef13 m u8 (0 : Int32) ba) k) ?_
  refine og2 X0 hx (fun j _ k => o_aloadN j (y d9_0) rfl rfl <| k) ?_
  refine g_getS X0 hx hZ hown (w 61 rfl) e0 (Sta.ext pr1.2 H0.2.2.2.1) (y d9_1) (fun T1 X1 e1 => ?_)
  refine og2 X1 hx (fun j _ k => o_acmpNo j (y d9_4) rfl rfl (XT.aa_ne_f rfl) <| o_iloadN j (y d9_7) rfl <| o_aloadN j (y d9_8) rfl rfl <| o_iconstV j 1 (y d9_9) rfl <| k) ?_
  refine cS [(.int 0), (.ref ba), (.int 1)] [] 0 X1 hx hZ hown (w 63 rfl) (w 64 rfl) (w 7 rfl) (w 65 rfl) (rmE800 l Z a0 hw [] cs u8 ba bk h0 n0 Z0 H0 pr1 pr2 pr3) e1 hml pd_oBaBZcaB (y d9_10) (fun v2 T2 L2 hQ2 X2 => ?_)
  obtain ⟨r_2, rk_2, rfl, N2a, K2, Q2_0, Q2_1⟩ := hQ2
  have N2 := Fr.app (Fr.nil n0) N2a
  have e2 : T2.heap = T2.heap := rfl
  have P2 : Keep h0 T2.heap [] := ((Keep.refl h0 []).trans K2 all0)
  have GK2_r : h0.size ≤ r_2 := Nat.le_trans (Keep.refl h0 []).1 Q2_1
  have ne2_ba_r : ba ≠ r_2 := Nat.ne_of_lt (Nat.lt_of_lt_of_le pr2.lt Q2_1)
  exact rA X2 hx Bd rfl rfl rfl (y d9_13) e2 ⟨r_2, rk_2, rfl, N2, P2, Q2_0, GK2_r⟩

abbrev R_4_1_0_64 : Room := ({ frames := 4, cells := 1, slots := 0, locals := 64 } : Room)
abbrev k11 := jdk_42_method_64_code
theorem d7_0 : decode k11 0 = .ok (.aload_n 1, 1) := by decide +kernel
theorem d7_1 : decode k11 1 = .ok (.ifnonnull 11, 3) := by decide +kernel
theorem d7_12 : decode k11 12 = .ok (.aload_n 1, 1) := by decide +kernel
theorem d7_13 : decode k11 13 = .ok (.aload_n 0, 1) := by decide +kernel
theorem d7_14 : decode k11 14 = .ok (.invokevirtual 335, 3) := by decide +kernel
theorem d7_17 : decode k11 17 = .ok (.aload_n 0, 1) := by decide +kernel
theorem d7_18 : decode k11 18 = .ok (.getfield 9, 3) := by decide +kernel
theorem d7_21 : decode k11 21 = .ok (.invokestatic 535, 3) := by decide +kernel
theorem d7_24 : decode k11 24 = .ok (.areturn, 1) := by decide +kernel
theorem pd_ocB : parseMethodDescriptor "()B" = some ⟨[], some .byte⟩ := by decide +kernel
theorem pd_oLjava_nio_charset_CharsetsBaBcaB : parseMethodDescriptor "(Ljava/nio/charset/Charset;B[B)[B" = some ⟨[(.object "java/nio/charset/Charset"), .byte, (.array .byte)], some (.array .byte)⟩ := by decide +kernel
def QGB00 (Z : State) (cs : Int32) (u8 : Addr) (sa : Addr) (ba : Addr) (bk : ClassId) (h0 : Heap) (n0 : Nat) (v : Option Value) (h : Heap) (L : List Loc) : Prop := ∃ r : Addr, ∃ rk : ClassId, v = some (.ref r) ∧ Fr n0 L ∧ Keep h0 h [] ∧ Arv Z h r rk .byte (own_ln ([])) (own_vs ([])) (.int 0) ∧ h0.size ≤ r
theorem rmGB00 (l : Launch) (Z : State) (a0 : Array Value) (hw : HW a0 Z) (ws : List Jvm.Cond) (cs : Int32) (u8 : Addr) (sa : Addr) (ba : Addr) (bk : ClassId) (h0 : Heap) (n0 : Nat) (Z0 : n0 ≤ h0.size) (H0 : OSt Z cs u8) (pr1 : Old Z n0 h0) (pr2 : Arv Z h0 ba bk .byte (0 : Int32) [] (.int 0)) (pr3 : Fld Z h0 sa "java/lang/String" "coder" "B" (.int 0)) (pr4 : Fld Z h0 sa "java/lang/String" "value" "[B" (.ref ba)) (pr5 : Exa Z h0 sa "java/lang/String") (pr6 : Exa Z h0 ba "[B") :
    MF l Z ⟨"java/lang/String", "getBytes", "(Ljava/nio/charset/Charset;)[B"⟩ jdk_42_method_64_code 2 (some (.array .byte)) ws R_4_1_0_64 #[(.ref sa), (.ref u8)] h0 (QGB00 Z cs u8 sa ba bk h0 n0) := by
  refine og_start (plainFor_of_name pn_java_lang_String) fun p e s m below meth c s₁ Bd hx hby hml hZ hown hnm X0 e0 => ?_
  have y := @hb _ _ hby
  have w := @wd _ _ hw
  refine og (fun t k => castTop (ef8 m sa u8) k) ?_
  refine og2 X0 hx (fun j _ k => o_aloadN j (y d7_0) rfl rfl <| o_ifnonnullYes j (pc' := 12) (y d7_1) <| o_aloadN j (y d7_12) rfl rfl <| o_aloadN j (y d7_13) rfl rfl <| k) ?_
  refine cV sa [] [(.ref u8)] 1 X0 hx hZ hown (w 52 rfl) (w 53 rfl) (w 55 rfl) (w 54 rfl) (w 7 rfl) (w 56 rfl) (rmCO0 l Z a0 hw [] cs u8 sa h0 n0 Z0 H0 pr1 pr3) e0 pr5 hml pd_ocB (y d7_14) (fun v1 T1 L1 hQ1 X1 => ?_)
  obtain ⟨rfl, N1a, eh1⟩ := hQ1
  have N1 := Fr.app (Fr.nil n0) N1a
  have e1 : T1.heap = h0 := eh1
  refine og2 X1 hx (fun j _ k => o_aloadN j (y d7_17) rfl rfl <| k) ?_
  refine g_getF X1 hx hZ hown (w 25 rfl) e1 pr4 (y d7_18) (fun T2 X2 e2 => ?_)
  refine cS [(.ref u8), (.int 0), (.ref ba)] [] 0 X2 hx hZ hown (w 58 rfl) (w 59 rfl) (w 7 rfl) (w 60 rfl) (rmEN00 l Z a0 hw [] cs u8 ba bk h0 n0 Z0 H0 pr1 pr2 pr6) e2 hml pd_oLjava_nio_charset_CharsetsBaBcaB (y d7_21) (fun v3 T3 L3 hQ3 X3 => ?_)
  obtain ⟨r_3, rk_3, rfl, N3a, K3, Q3_0, Q3_1⟩ := hQ3
  have N3 := Fr.app N1 N3a
  have e3 : T3.heap = T3.heap := rfl
  have P3 : Keep h0 T3.heap [] := ((Keep.refl h0 []).trans K3 all0)
  have GK3_r : h0.size ≤ r_3 := Nat.le_trans (Keep.refl h0 []).1 Q3_1
  have ne3_ba_r : ba ≠ r_3 := Nat.ne_of_lt (Nat.lt_of_lt_of_le pr2.lt Q3_1)
  have ne3_sa_r : sa ≠ r_3 := Nat.ne_of_lt (Nat.lt_of_lt_of_le pr3.lt Q3_1)
  exact rA X3 hx Bd rfl rfl rfl (y d7_24) e3 ⟨r_3, rk_3, rfl, N3, P3, Q3_0, GK3_r⟩

abbrev R_5_3_16_77 : Room := ({ frames := 5, cells := 3, slots := 16, locals := 77 } : Room)
abbrev k28 := prog_8_method_2_code
theorem d4_0 : decode k28 0 = .ok (.aload_n 0, 1) := by decide +kernel
theorem d4_1 : decode k28 1 = .ok (.ldc 7, 2) := by decide +kernel
theorem d4_3 : decode k28 3 = .ok (.invokestatic 9, 3) := by decide +kernel
theorem d4_6 : decode k28 6 = .ok (.pop, 1) := by decide +kernel
theorem d4_7 : decode k28 7 = .ok (.aload_n 0, 1) := by decide +kernel
theorem d4_8 : decode k28 8 = .ok (.invokeinterface 15 1, 5) := by decide +kernel
theorem d4_13 : decode k28 13 = .ok (.getstatic 21, 3) := by decide +kernel
theorem d4_16 : decode k28 16 = .ok (.invokevirtual 27, 3) := by decide +kernel
theorem d4_19 : decode k28 19 = .ok (.areturn, 1) := by decide +kernel
theorem pd_oLjava_lang_ObjectsLjava_lang_StringscLjava_lang_Objects : parseMethodDescriptor "(Ljava/lang/Object;Ljava/lang/String;)Ljava/lang/Object;" = some ⟨[(.object "java/lang/Object"), (.object "java/lang/String")], some (.object "java/lang/Object")⟩ := by decide +kernel
theorem pd_ocLjava_lang_Strings : parseMethodDescriptor "()Ljava/lang/String;" = some ⟨[], some (.object "java/lang/String")⟩ := by decide +kernel
theorem pd_oLjava_nio_charset_CharsetscaB : parseMethodDescriptor "(Ljava/nio/charset/Charset;)[B" = some ⟨[(.object "java/nio/charset/Charset")], some (.array .byte)⟩ := by decide +kernel
theorem pn_com_example_unseen_unseen_Keys : plainName "com/example/unseen/unseen/Keys" = true := by first | (simp [plainName, overriddenIn]; done) | decide +kernel
def QKU00 (Z : State) (cs : Int32) (u8 : Addr) (sa : Addr) (ba : Addr) (bk : ClassId) (h0 : Heap) (n0 : Nat) (v : Option Value) (h : Heap) (L : List Loc) : Prop := ∃ r : Addr, ∃ rk : ClassId, v = some (.ref r) ∧ Fr n0 L ∧ Keep h0 h [] ∧ Arv Z h r rk .byte (own_ln ([])) (own_vs ([])) (.int 0) ∧ h0.size ≤ r
theorem rmKU00 (l : Launch) (Z : State) (a0 : Array Value) (hw : HW a0 Z) (ws : List Jvm.Cond) (cs : Int32) (u8 : Addr) (sa : Addr) (ba : Addr) (bk : ClassId) (h0 : Heap) (n0 : Nat) (Z0 : n0 ≤ h0.size) (H0 : OSt Z cs u8) (pr1 : Old Z n0 h0) (pr2 : Arv Z h0 ba bk .byte (0 : Int32) [] (.int 0)) (pr3 : Fld Z h0 sa "java/lang/String" "coder" "B" (.int 0)) (pr4 : Fld Z h0 sa "java/lang/String" "value" "[B" (.ref ba)) (pr5 : Exa Z h0 sa "java/lang/String") (pr6 : Exa Z h0 ba "[B") :
    MW l Z ⟨"com/example/unseen/unseen/Keys", "utf8", "(Ljava/lang/CharSequence;)[B"⟩ prog_8_method_2_code 1 (some (.array .byte)) ws R_5_3_16_77 #[(.ref sa)] h0 (QKU00 Z cs u8 sa ba bk h0 n0) := by
  refine og_startW (plainFor_of_name pn_com_example_unseen_unseen_Keys) fun p e s m below meth c s₁ Bd hx hby hml hZ hown hnm X0 e0 hS hkS => ?_
  have y := @hb _ _ hby
  have w := @wd _ _ hw
  refine og (fun t k => castTop (ef9 m sa) k) ?_
  refine og2 X0 hx (fun j _ k => o_aloadN j (y d4_0) rfl rfl <| k) ?_
  obtain ⟨a1, T1, h1, ks1, X1, e1, E1, hS, hkS, hZ, hown, st1⟩ := ldcS X0 hx hZ hown (w 31 rfl) (fun d hd => hw d (own_strAtoms d hd)) e0 hS hkS (g := (mkF m 1 #[.val (.ref sa)] [(.ref sa)])) rfl (y d4_1) (n := 12) (by decide) (by decide) (by decide) (by decide)
  have Z1 : n0 ≤ h1.size := (Nat.le_trans Z0 E1.1)
  have P1 : Keep h0 h1 [] := ((Keep.refl h0 []).ext E1)
  have O2 := (pr1.ext E1)
  have A3 := (pr2.ext E1)
  have F4 := (Fld.ext E1 pr3)
  have F5 := (Fld.ext E1 pr4)
  have E6 := (Exa.ext E1 pr5)
  have E7 := (Exa.ext E1 pr6)
  refine og st1 ?_
  change OG _ _ _ _ (T1.setTop (mkF m 3 #[.val (.ref sa)] [(.ref a1), (.ref sa)]))
  refine cS [(.ref sa), (.ref a1)] [] 0 X1 hx hZ hown (w 32 rfl) (w 33 rfl) (w 34 rfl) (w 35 rfl) (rmRN l Z a0 hw [] sa a1 h1 n0 Z1) e1 hml pd_oLjava_lang_ObjectsLjava_lang_StringscLjava_lang_Objects (y d4_3) (fun v8 T8 L8 hQ8 X8 => ?_)
  obtain ⟨rfl, N8a, eh8⟩ := hQ8
  have N8 := Fr.app (Fr.nil n0) N8a
  have e8 : T8.heap = h1 := eh8
  refine og2 X8 hx (fun j _ k => o_pop j (y d4_6) rfl <| o_aloadN j (y d4_7) rfl rfl <| k) ?_
  refine cF (⟨"java/lang/CharSequence", "toString", "()Ljava/lang/String;"⟩ : MethodName) (⟨"java/lang/String", "toString", "()Ljava/lang/String;"⟩ : MethodName) sa [] [] 0 X8 hx hZ hown (mvT hZ (w 36 rfl)) (mvT hZ (w 37 rfl)) (mvT hZ (w 38 rfl)) (mvT hZ (w 39 rfl)) (mvT hZ (w 40 rfl)) (mvT hZ (w 41 rfl)) (mvT hZ (w 42 rfl)) (mvT hZ (w 43 rfl)) (w 7 rfl) (w 44 rfl) (rmTS l Z a0 hw [] sa h1 n0 Z1) e8 E6 hml pd_ocLjava_lang_Strings (y d4_8) (fun v9 T9 L9 hQ9 X9 => ?_)
  obtain ⟨rfl, N9a, eh9⟩ := hQ9
  have N9 := Fr.app N8 N9a
  have e9 : T9.heap = h1 := eh9
  refine g_getS X9 hx hZ hown (w 45 rfl) e9 (Sta.ext O2.2 H0.2.2.1) (y d4_13) (fun T10 X10 e10 => ?_)
  refine cV sa [(.ref u8)] [] 0 X10 hx hZ hown (w 47 rfl) (w 48 rfl) (w 50 rfl) (w 49 rfl) (w 7 rfl) (w 51 rfl) (rmGB00 l Z a0 hw [] cs u8 sa ba bk h1 n0 Z1 H0 O2 A3 F4 F5 E6 E7) e10 E6 hml pd_oLjava_nio_charset_CharsetscaB (y d4_16) (fun v11 T11 L11 hQ11 X11 => ?_)
  obtain ⟨r_11, rk_11, rfl, N11a, K11, Q11_0, Q11_1⟩ := hQ11
  have N11 := Fr.app N9 N11a
  have e11 : T11.heap = T11.heap := rfl
  have P11 : Keep h0 T11.heap [] := (P1.trans K11 all0)
  have GK11_r : h0.size ≤ r_11 := Nat.le_trans P1.1 Q11_1
  have ne11_ba_r : ba ≠ r_11 := Nat.ne_of_lt (Nat.lt_of_lt_of_le A3.lt Q11_1)
  have ne11_sa_r : sa ≠ r_11 := Nat.ne_of_lt (Nat.lt_of_lt_of_le F4.lt Q11_1)
  exact rAW X11 hx Bd hS (Nat.le_trans hkS K11.1) rfl rfl rfl (y d4_19) e11 ⟨r_11, rk_11, rfl, N11, P11, Q11_0, GK11_r⟩

abbrev R_2_2_3_32 : Room := ({ frames := 2, cells := 2, slots := 3, locals := 32 } : Room)
theorem d10_29 : decode k9 29 = .ok (.iconst 0, 1) := by decide +kernel
theorem d10_30 : decode k9 30 = .ok (.istore_n 3, 1) := by decide +kernel
theorem d10_31 : decode k9 31 = .ok (.aload_n 1, 1) := by decide +kernel
theorem d10_32 : decode k9 32 = .ok (.arraylength, 1) := by decide +kernel
theorem d10_33 : decode k9 33 = .ok (.invokestatic 60, 3) := by decide +kernel
theorem d10_36 : decode k9 36 = .ok (.astore 4, 2) := by decide +kernel
theorem d10_38 : decode k9 38 = .ok (.aload_n 1, 1) := by decide +kernel
theorem d10_39 : decode k9 39 = .ok (.astore 5, 2) := by decide +kernel
theorem d10_41 : decode k9 41 = .ok (.aload 5, 2) := by decide +kernel
theorem d10_43 : decode k9 43 = .ok (.arraylength, 1) := by decide +kernel
theorem d10_44 : decode k9 44 = .ok (.istore 6, 2) := by decide +kernel
theorem d10_46 : decode k9 46 = .ok (.iconst 0, 1) := by decide +kernel
theorem d10_47 : decode k9 47 = .ok (.istore 7, 2) := by decide +kernel
theorem d10_49 : decode k9 49 = .ok (.iload 7, 2) := by decide +kernel
theorem d10_51 : decode k9 51 = .ok (.iload 6, 2) := by decide +kernel
theorem d10_53 : decode k9 53 = .ok (.if_icmp .ge 71, 3) := by decide +kernel
theorem d10_56 : decode k9 56 = .ok (.aload 5, 2) := by decide +kernel
theorem d10_58 : decode k9 58 = .ok (.iload 7, 2) := by decide +kernel
theorem d10_60 : decode k9 60 = .ok (.baload, 1) := by decide +kernel
theorem d10_61 : decode k9 61 = .ok (.istore 8, 2) := by decide +kernel
theorem d10_63 : decode k9 63 = .ok (.iload 8, 2) := by decide +kernel
theorem d10_65 : decode k9 65 = .ok (.ifCond .ge 44, 3) := by decide +kernel
theorem d10_68 : decode k9 68 = .ok (.aload 4, 2) := by decide +kernel
theorem d10_70 : decode k9 70 = .ok (.iload_n 3, 1) := by decide +kernel
theorem d10_71 : decode k9 71 = .ok (.iinc 3 1, 3) := by decide +kernel
theorem d10_74 : decode k9 74 = .ok (.sipush 192, 3) := by decide +kernel
theorem d10_77 : decode k9 77 = .ok (.iload 8, 2) := by decide +kernel
theorem d10_79 : decode k9 79 = .ok (.sipush 255, 3) := by decide +kernel
theorem d10_82 : decode k9 82 = .ok (.iand, 1) := by decide +kernel
theorem d10_83 : decode k9 83 = .ok (.bipush 6, 2) := by decide +kernel
theorem d10_85 : decode k9 85 = .ok (.ishr, 1) := by decide +kernel
theorem d10_86 : decode k9 86 = .ok (.ior, 1) := by decide +kernel
theorem d10_87 : decode k9 87 = .ok (.i2b, 1) := by decide +kernel
theorem d10_88 : decode k9 88 = .ok (.bastore, 1) := by decide +kernel
theorem d10_89 : decode k9 89 = .ok (.aload 4, 2) := by decide +kernel
theorem d10_91 : decode k9 91 = .ok (.iload_n 3, 1) := by decide +kernel
theorem d10_92 : decode k9 92 = .ok (.iinc 3 1, 3) := by decide +kernel
theorem d10_95 : decode k9 95 = .ok (.sipush 128, 3) := by decide +kernel
theorem d10_98 : decode k9 98 = .ok (.iload 8, 2) := by decide +kernel
theorem d10_100 : decode k9 100 = .ok (.bipush 63, 2) := by decide +kernel
theorem d10_102 : decode k9 102 = .ok (.iand, 1) := by decide +kernel
theorem d10_103 : decode k9 103 = .ok (.ior, 1) := by decide +kernel
theorem d10_104 : decode k9 104 = .ok (.i2b, 1) := by decide +kernel
theorem d10_105 : decode k9 105 = .ok (.bastore, 1) := by decide +kernel
theorem d10_106 : decode k9 106 = .ok (.goto 12, 3) := by decide +kernel
theorem d10_109 : decode k9 109 = .ok (.aload 4, 2) := by decide +kernel
theorem d10_111 : decode k9 111 = .ok (.iload_n 3, 1) := by decide +kernel
theorem d10_112 : decode k9 112 = .ok (.iinc 3 1, 3) := by decide +kernel
theorem d10_115 : decode k9 115 = .ok (.iload 8, 2) := by decide +kernel
theorem d10_117 : decode k9 117 = .ok (.bastore, 1) := by decide +kernel
theorem d10_118 : decode k9 118 = .ok (.iinc 7 1, 3) := by decide +kernel
theorem d10_121 : decode k9 121 = .ok (.goto (-72), 3) := by decide +kernel
theorem d10_124 : decode k9 124 = .ok (.iload_n 3, 1) := by decide +kernel
theorem d10_125 : decode k9 125 = .ok (.aload 4, 2) := by decide +kernel
theorem d10_127 : decode k9 127 = .ok (.arraylength, 1) := by decide +kernel
theorem d10_128 : decode k9 128 = .ok (.if_icmp .ne 6, 3) := by decide +kernel
theorem d10_131 : decode k9 131 = .ok (.aload 4, 2) := by decide +kernel
theorem d10_133 : decode k9 133 = .ok (.areturn, 1) := by decide +kernel
theorem d10_134 : decode k9 134 = .ok (.aload 4, 2) := by decide +kernel
theorem d10_136 : decode k9 136 = .ok (.iload_n 3, 1) := by decide +kernel
theorem d10_137 : decode k9 137 = .ok (.invokestatic 102, 3) := by decide +kernel
theorem d10_140 : decode k9 140 = .ok (.areturn, 1) := by decide +kernel
def QE810 (Z : State) (cs : Int32) (u8 : Addr) (ba : Addr) (bk : ClassId) (c0 : Int32) (h0 : Heap) (n0 : Nat) (v : Option Value) (h : Heap) (L : List Loc) : Prop := ∃ r : Addr, ∃ rk : ClassId, v = some (.ref r) ∧ Fr n0 L ∧ Keep h0 h [] ∧ Arv Z h r rk .byte (own_ln (own_put c0)) (own_vs (own_put c0)) (.int 0) ∧ h0.size ≤ r
theorem rmE810 (l : Launch) (Z : State) (a0 : Array Value) (hw : HW a0 Z) (ws : List Jvm.Cond) (cs : Int32) (u8 : Addr) (ba : Addr) (bk : ClassId) (c0 : Int32) (h0 : Heap) (n0 : Nat) (Z0 : n0 ≤ h0.size) (H0 : OSt Z cs u8) (pr1 : Old Z n0 h0) (pr2 : Arv Z h0 ba bk .byte (1 : Int32) [(.int (own_b c0))] (.int 0)) (pr3 : Exa Z h0 ba "[B") (H4 : OCh c0) (H5 : ¬ (255 : Int32) < c0) :
    MF l Z ⟨"java/lang/String", "encodeUTF8", "(B[BZ)[B"⟩ jdk_42_method_46_code 9 (some (.array .byte)) ws R_2_2_3_32 #[(.int 0), (.ref ba), (.int 1)] h0 (QE810 Z cs u8 ba bk c0 h0 n0) := by
  refine og_start (plainFor_of_name pn_java_lang_String) fun p e s m below meth c s₁ Bd hx hby hml hZ hown hnm X0 e0 => ?_
  have y := @hb _ _ hby
  have w := @wd _ _ hw
  refine og (fun t k => castTop (ef12 m (0 : Int32) ba (1 : Int32)) k) ?_
  refine og2 X0 hx (fun j _ k => o_iloadN j (y d10_0) rfl <| o_iconstV j 1 (y d10_1) rfl <| o_icmpYes j (pc' := 11) (y d10_2) (XT.ii_ne_t (by decide)) <| o_aloadN j (y d10_11) rfl rfl <| o_iconstV j 0 (y d10_12) rfl <| o_aloadN j (y d10_13) rfl rfl <| o_alen X0 hx hZ e0 pr2 (y d10_14) <| k) ?_
  refine cS [(.ref ba), (.int 0), (.int 1)] [] 0 X0 hx hZ hown (w 66 rfl) (w 67 rfl) (w 68 rfl) (w 69 rfl) (rmHN1 l Z a0 hw [] ba bk c0 h0 n0 Z0 pr2) e0 hml pd_oaBIIcZ (y d10_15) (fun v1 T1 L1 hQ1 X1 => ?_)
  obtain ⟨rfl, N1a, eh1⟩ := hQ1
  have N1 := Fr.app (Fr.nil n0) N1a
  have e1 : T1.heap = h0 := eh1
  by_cases C2 : own_hn1 c0 = 0
  · refine og2 X1 hx (fun j _ k => o_ifNo j (y d10_18) (XT.i0_ne_f C2) <| o_aloadN j (y d10_21) rfl rfl <| k) ?_
    obtain ⟨T3, h3, X3, e3, E3, A3, D3, st3⟩ := cloneH X1 hx hZ hown (w 73 rfl) (w 74 rfl) (w 78 rfl) (w 76 rfl) (w 77 rfl) (w 79 rfl) e1 (Arv.arh pr2) pr3 (g := (mkF m 22 #[.val (.int 0), .val (.ref ba), .val (.int 1), .unset, .unset, .unset, .unset, .unset, .unset] [(.ref ba)])) rfl (by rw [hml]; rfl) rfl (y d10_22) (by decide) (W := 0) (by show 2 * 0 + _ ≤ _; exact Nat.le_of_eq rfl) (by decide) (cap := 1) (by decide) (by decide) (by decide)
    obtain ⟨a3, g3⟩ : ∃ z, z = h0.size := ⟨_, rfl⟩
    rw [← g3] at A3 D3 st3
    have GK3 : h0.size ≤ a3 := Nat.le_trans (Keep.refl h0 []).1 (Nat.le_of_eq g3.symm)
    have P3 := (Keep.refl h0 []).ext E3
    have A3v : Arv Z h3 a3 bk .byte (1 : Int32) [(.int (own_b c0))] (.int 0) := A3
    refine og st3 ?_
    change OG _ _ _ _ (T3.setTop (mkF m 25 #[.val (.int 0), .val (.ref ba), .val (.int 1), .unset, .unset, .unset, .unset, .unset, .unset] [(.ref a3)]))
    refine g_cast (C := "") X3 hx hZ hown (w 80 rfl) e3 (Ins.self D3) (y d10_25) (fun T7 X7 e7 => ?_)
    exact rA X7 hx Bd rfl rfl rfl (y d10_28) e7 ⟨a3, bk, rfl, N1, P3, (by rw [(own_la H4 H5 (own_hn1_0 C2))]; exact A3v), GK3⟩
  · refine og2 X1 hx (fun j _ k => o_ifYes j (pc' := 29) (y d10_18) (XT.i0_ne_t C2) <| o_iconstV j 0 (y d10_29) rfl <| o_istoreN j (y d10_30) (l' := #[.val (.int 0), .val (.ref ba), .val (.int 1), .val (.int 0), .unset, .unset, .unset, .unset, .unset]) rfl <| o_aloadN j (y d10_31) rfl rfl <| o_alen X1 hx hZ e1 pr2 (y d10_32) <| k) ?_
    refine cS [(.int 1)] [] 0 X1 hx hZ hown (w 150 rfl) (w 97 rfl) (w 88 rfl) (w 98 rfl) (rmNF1 l Z a0 hw [] h0 n0 Z0) e1 hml pd_oIcaB (y d10_33) (fun v8 T8 L8 hQ8 X8 => ?_)
    obtain ⟨r_8, rk_8, rfl, N8a, K8, Q8_0, Q8_1⟩ := hQ8
    have N8 := Fr.app N1 N8a
    have e8 : T8.heap = T8.heap := rfl
    have Z8 : n0 ≤ T8.heap.size := (Nat.le_trans Z0 K8.1)
    have P8 : Keep h0 T8.heap [] := ((Keep.refl h0 []).trans K8 all0)
    have A10 := (pr2.keep K8 nin0)
    have G8_r : n0 ≤ r_8 := Nat.le_trans Z0 Q8_1
    have GK8_r : h0.size ≤ r_8 := Nat.le_trans (Keep.refl h0 []).1 Q8_1
    have ne8_ba_r : ba ≠ r_8 := Nat.ne_of_lt (Nat.lt_of_lt_of_le pr2.lt Q8_1)
    refine og2 X8 hx (fun j _ k => o_astore j (y d10_36) rfl (l' := #[.val (.int 0), .val (.ref ba), .val (.int 1), .val (.int 0), .val (.ref r_8), .unset, .unset, .unset, .unset]) rfl <| o_aloadN j (y d10_38) rfl rfl <| o_astore j (y d10_39) rfl (l' := #[.val (.int 0), .val (.ref ba), .val (.int 1), .val (.int 0), .val (.ref r_8), .val (.ref ba), .unset, .unset, .unset]) rfl <| o_aload j (y d10_41) rfl rfl <| o_alen X8 hx hZ e8 A10 (y d10_43) <| o_istore j (y d10_44) (l' := #[.val (.int 0), .val (.ref ba), .val (.int 1), .val (.int 0), .val (.ref r_8), .val (.ref ba), .val (.int 1), .unset, .unset]) rfl <| o_iconstV j 0 (y d10_46) rfl <| o_istore j (y d10_47) (l' := #[.val (.int 0), .val (.ref ba), .val (.int 1), .val (.int 0), .val (.ref r_8), .val (.ref ba), .val (.int 1), .val (.int 0), .unset]) rfl <| o_iload j (y d10_49) rfl <| o_iload j (y d10_51) rfl <| o_icmpNo j (y d10_53) (XT.ii_ge_f (by decide)) <| o_aload j (y d10_56) rfl rfl <| o_iload j (y d10_58) rfl <| o_baload (v := (.int (own_b c0))) X8 hx hZ e8 A10 ⟨by decide, by decide⟩ rfl (y d10_60) <| o_istore j (y d10_61) (l' := #[.val (.int 0), .val (.ref ba), .val (.int 1), .val (.int 0), .val (.ref r_8), .val (.ref ba), .val (.int 1), .val (.int 0), .val (.int (own_b c0))]) rfl <| o_iload j (y d10_63) rfl <| k) ?_
    by_cases C12 : own_b c0 < 0
    · refine og2 X8 hx (fun j _ k => o_ifNo j (y d10_65) (XT.i0_ge_f C12) <| o_aload j (y d10_68) rfl rfl <| o_iloadN j (y d10_70) rfl <| o_iincL j 1 (y d10_71) rfl (1 : Int32) (by decide) rfl (l' := #[.val (.int 0), .val (.ref ba), .val (.int 1), .val (.int 1), .val (.ref r_8), .val (.ref ba), .val (.int 1), .val (.int 0), .val (.int (own_b c0))]) rfl <| o_sipushV j 192 (y d10_74) rfl <| o_iload j (y d10_77) rfl <| o_sipushV j 255 (y d10_79) rfl <| o_iand j (y d10_82) <| k) ?_
      rw [(own_b_255 H4 H5)]
      refine og2 X8 hx (fun j _ k => o_bipushV j 6 (y d10_83) rfl <| o_ishr j (y d10_85) <| o_ior j (y d10_86) <| o_i2bO j (y d10_87) <| k) ?_
      refine sB (v := own_b ((192 : Int32) ||| (c0 >>> ((6 : Int32) &&& 31)))) 0 X8 hx hZ e8 Q8_0 (own_nar_b _) (y d10_88) (fun T13 h13 X13 e13 W13 A13 => ?_)
      have N13 := Fr.snoc X13 N8 G8_r
      have P13 := P8.wr W13 (Or.inr GK8_r)
      have A13v : Arv Z h13 r_8 rk_8 .byte (2 : Int32) [(.int (own_b ((192 : Int32) ||| (c0 >>> ((6 : Int32) &&& 31))))), (.int 0)] (.int 0) := A13
      refine og2 X13 hx (fun j _ k => o_aload j (y d10_89) rfl rfl <| o_iloadN j (y d10_91) rfl <| o_iincL j 1 (y d10_92) rfl (2 : Int32) (by decide) rfl (l' := #[.val (.int 0), .val (.ref ba), .val (.int 1), .val (.int 2), .val (.ref r_8), .val (.ref ba), .val (.int 1), .val (.int 0), .val (.int (own_b c0))]) rfl <| o_sipushV j 128 (y d10_95) rfl <| o_iload j (y d10_98) rfl <| o_bipushV j 63 (y d10_100) rfl <| o_iand j (y d10_102) <| k) ?_
      rw [(own_b_63 c0)]
      refine og2 X13 hx (fun j _ k => o_ior j (y d10_103) <| o_i2bO j (y d10_104) <| k) ?_
      refine sB (v := own_b ((128 : Int32) ||| (c0 &&& (63 : Int32)))) 1 X13 hx hZ e13 A13v (own_nar_b _) (y d10_105) (fun T17 h17 X17 e17 W17 A17 => ?_)
      have N17 := Fr.snoc X17 N13 G8_r
      have P17 := P13.wr W17 (Or.inr GK8_r)
      have A17v : Arv Z h17 r_8 rk_8 .byte (2 : Int32) [(.int (own_b ((192 : Int32) ||| (c0 >>> ((6 : Int32) &&& 31))))), (.int (own_b ((128 : Int32) ||| (c0 &&& (63 : Int32)))))] (.int 0) := A17
      refine og2 X17 hx (fun j _ k => o_goto j (pc' := 118) (y d10_106) <| o_iincL j 1 (y d10_118) rfl (1 : Int32) (by decide) rfl (l' := #[.val (.int 0), .val (.ref ba), .val (.int 1), .val (.int 2), .val (.ref r_8), .val (.ref ba), .val (.int 1), .val (.int 1), .val (.int (own_b c0))]) rfl <| o_goto j (pc' := 49) (y d10_121) <| o_iload j (y d10_49) rfl <| o_iload j (y d10_51) rfl <| o_icmpYes j (pc' := 124) (y d10_53) (XT.ii_ge_t (by decide)) <| o_iloadN j (y d10_124) rfl <| o_aload j (y d10_125) rfl rfl <| o_alen X17 hx hZ e17 A17v (y d10_127) <| o_icmpNo j (y d10_128) (XT.ii_ne_f rfl) <| o_aload j (y d10_131) rfl rfl <| k) ?_
      exact rA X17 hx Bd rfl rfl rfl (y d10_133) e17 ⟨r_8, rk_8, rfl, N17, P17, (by rw [(own_lb H4 H5 C12)]; exact A17v), GK8_r⟩
    · refine og2 X8 hx (fun j _ k => o_ifYes j (pc' := 109) (y d10_65) (XT.i0_ge_t C12) <| o_aload j (y d10_109) rfl rfl <| o_iloadN j (y d10_111) rfl <| o_iincL j 1 (y d10_112) rfl (1 : Int32) (by decide) rfl (l' := #[.val (.int 0), .val (.ref ba), .val (.int 1), .val (.int 1), .val (.ref r_8), .val (.ref ba), .val (.int 1), .val (.int 0), .val (.int (own_b c0))]) rfl <| o_iload j (y d10_115) rfl <| k) ?_
      refine sB (v := own_b c0) 0 X8 hx hZ e8 Q8_0 (own_nar_b _) (y d10_117) (fun T21 h21 X21 e21 W21 A21 => ?_)
      have N21 := Fr.snoc X21 N8 G8_r
      have P21 := P8.wr W21 (Or.inr GK8_r)
      have Z21 : n0 ≤ h21.size := (by rw [W21.size]; exact Z8)
      have A23 := (A10.other W21 ne8_ba_r)
      have A21v : Arv Z h21 r_8 rk_8 .byte (2 : Int32) [(.int (own_b c0)), (.int 0)] (.int 0) := A21
      refine og2 X21 hx (fun j _ k => o_iincL j 1 (y d10_118) rfl (1 : Int32) (by decide) rfl (l' := #[.val (.int 0), .val (.ref ba), .val (.int 1), .val (.int 1), .val (.ref r_8), .val (.ref ba), .val (.int 1), .val (.int 1), .val (.int (own_b c0))]) rfl <| o_goto j (pc' := 49) (y d10_121) <| o_iload j (y d10_49) rfl <| o_iload j (y d10_51) rfl <| o_icmpYes j (pc' := 124) (y d10_53) (XT.ii_ge_t (by decide)) <| o_iloadN j (y d10_124) rfl <| o_aload j (y d10_125) rfl rfl <| o_alen X21 hx hZ e21 A21v (y d10_127) <| o_icmpYes j (pc' := 134) (y d10_128) (XT.ii_ne_t (by decide)) <| o_aload j (y d10_134) rfl rfl <| o_iloadN j (y d10_136) rfl <| k) ?_
      refine cS [(.ref r_8), (.int 1)] [] 0 X21 hx hZ hown (w 132 rfl) (w 133 rfl) (w 134 rfl) (w 135 rfl) (rmAC21 l Z a0 hw [] r_8 rk_8 (own_b c0) (0 : Int32) h21 n0 Z21 A21v) e21 hml pd_oaBIcaB (y d10_137) (fun v25 T25 L25 hQ25 X25 => ?_)
      obtain ⟨r_25, rk_25, rfl, N25a, K25, Q25_0, Q25_1⟩ := hQ25
      have N25 := Fr.app N21 N25a
      have e25 : T25.heap = T25.heap := rfl
      have P25 : Keep h0 T25.heap [] := (P21.trans K25 all0)
      have GK25_r : h0.size ≤ r_25 := Nat.le_trans P21.1 Q25_1
      have ne25_ba_r : ba ≠ r_25 := Nat.ne_of_lt (Nat.lt_of_lt_of_le A23.lt Q25_1)
      have ne25_r_8_r : r_8 ≠ r_25 := Nat.ne_of_lt (Nat.lt_of_lt_of_le A21v.lt Q25_1)
      exact rA X25 hx Bd rfl rfl rfl (y d10_140) e25 ⟨r_25, rk_25, rfl, N25, P25, (by rw [(own_la H4 H5 C12)]; exact Q25_0), GK25_r⟩

abbrev R_3_2_3_52 : Room := ({ frames := 3, cells := 2, slots := 3, locals := 52 } : Room)
def QEN10 (Z : State) (cs : Int32) (u8 : Addr) (ba : Addr) (bk : ClassId) (c0 : Int32) (h0 : Heap) (n0 : Nat) (v : Option Value) (h : Heap) (L : List Loc) : Prop := ∃ r : Addr, ∃ rk : ClassId, v = some (.ref r) ∧ Fr n0 L ∧ Keep h0 h [] ∧ Arv Z h r rk .byte (own_ln (own_put c0)) (own_vs (own_put c0)) (.int 0) ∧ h0.size ≤ r
theorem rmEN10 (l : Launch) (Z : State) (a0 : Array Value) (hw : HW a0 Z) (ws : List Jvm.Cond) (cs : Int32) (u8 : Addr) (ba : Addr) (bk : ClassId) (c0 : Int32) (h0 : Heap) (n0 : Nat) (Z0 : n0 ≤ h0.size) (H0 : OSt Z cs u8) (pr1 : Old Z n0 h0) (pr2 : Arv Z h0 ba bk .byte (1 : Int32) [(.int (own_b c0))] (.int 0)) (pr3 : Exa Z h0 ba "[B") (H4 : OCh c0) (H5 : ¬ (255 : Int32) < c0) :
    MF l Z ⟨"java/lang/String", "encode", "(Ljava/nio/charset/Charset;B[B)[B"⟩ jdk_42_method_18_code 3 (some (.array .byte)) ws R_3_2_3_52 #[(.ref u8), (.int 0), (.ref ba)] h0 (QEN10 Z cs u8 ba bk c0 h0 n0) := by
  refine og_start (plainFor_of_name pn_java_lang_String) fun p e s m below meth c s₁ Bd hx hby hml hZ hown hnm X0 e0 => ?_
  have y := @hb _ _ hby
  have w := @wd _ _ hw
  refine og (fun t k => castTop (ef13 m u8 (0 : Int32) ba) k) ?_
  refine og2 X0 hx (fun j _ k => o_aloadN j (y d9_0) rfl rfl <| k) ?_
  refine g_getS X0 hx hZ hown (w 61 rfl) e0 (Sta.ext pr1.2 H0.2.2.2.1) (y d9_1) (fun T1 X1 e1 => ?_)
  refine og2 X1 hx (fun j _ k => o_acmpNo j (y d9_4) rfl rfl (XT.aa_ne_f rfl) <| o_iloadN j (y d9_7) rfl <| o_aloadN j (y d9_8) rfl rfl <| o_iconstV j 1 (y d9_9) rfl <| k) ?_
  refine cS [(.int 0), (.ref ba), (.int 1)] [] 0 X1 hx hZ hown (w 63 rfl) (w 64 rfl) (w 7 rfl) (w 65 rfl) (rmE810 l Z a0 hw [] cs u8 ba bk c0 h0 n0 Z0 H0 pr1 pr2 pr3 H4 H5) e1 hml pd_oBaBZcaB (y d9_10) (fun v2 T2 L2 hQ2 X2 => ?_)
  obtain ⟨r_2, rk_2, rfl, N2a, K2, Q2_0, Q2_1⟩ := hQ2
  have N2 := Fr.app (Fr.nil n0) N2a
  have e2 : T2.heap = T2.heap := rfl
  have P2 : Keep h0 T2.heap [] := ((Keep.refl h0 []).trans K2 all0)
  have GK2_r : h0.size ≤ r_2 := Nat.le_trans (Keep.refl h0 []).1 Q2_1
  have ne2_ba_r : ba ≠ r_2 := Nat.ne_of_lt (Nat.lt_of_lt_of_le pr2.lt Q2_1)
  exact rA X2 hx Bd rfl rfl rfl (y d9_13) e2 ⟨r_2, rk_2, rfl, N2, P2, Q2_0, GK2_r⟩

abbrev R_4_2_3_66 : Room := ({ frames := 4, cells := 2, slots := 3, locals := 66 } : Room)
def QGB10 (Z : State) (cs : Int32) (u8 : Addr) (sa : Addr) (ba : Addr) (bk : ClassId) (c0 : Int32) (h0 : Heap) (n0 : Nat) (v : Option Value) (h : Heap) (L : List Loc) : Prop := ∃ r : Addr, ∃ rk : ClassId, v = some (.ref r) ∧ Fr n0 L ∧ Keep h0 h [] ∧ Arv Z h r rk .byte (own_ln (own_put c0)) (own_vs (own_put c0)) (.int 0) ∧ h0.size ≤ r
theorem rmGB10 (l : Launch) (Z : State) (a0 : Array Value) (hw : HW a0 Z) (ws : List Jvm.Cond) (cs : Int32) (u8 : Addr) (sa : Addr) (ba : Addr) (bk : ClassId) (c0 : Int32) (h0 : Heap) (n0 : Nat) (Z0 : n0 ≤ h0.size) (H0 : OSt Z cs u8) (pr1 : Old Z n0 h0) (pr2 : Arv Z h0 ba bk .byte (1 : Int32) [(.int (own_b c0))] (.int 0)) (pr3 : Fld Z h0 sa "java/lang/String" "coder" "B" (.int 0)) (pr4 : Fld Z h0 sa "java/lang/String" "value" "[B" (.ref ba)) (pr5 : Exa Z h0 sa "java/lang/String") (pr6 : Exa Z h0 ba "[B") (H7 : OCh c0) (H8 : ¬ (255 : Int32) < c0) :
    MF l Z ⟨"java/lang/String", "getBytes", "(Ljava/nio/charset/Charset;)[B"⟩ jdk_42_method_64_code 2 (some (.array .byte)) ws R_4_2_3_66 #[(.ref sa), (.ref u8)] h0 (QGB10 Z cs u8 sa ba bk c0 h0 n0) := by
  refine og_start (plainFor_of_name pn_java_lang_String) fun p e s m below meth c s₁ Bd hx hby hml hZ hown hnm X0 e0 => ?_
  have y := @hb _ _ hby
  have w := @wd _ _ hw
  refine og (fun t k => castTop (ef8 m sa u8) k) ?_
  refine og2 X0 hx (fun j _ k => o_aloadN j (y d7_0) rfl rfl <| o_ifnonnullYes j (pc' := 12) (y d7_1) <| o_aloadN j (y d7_12) rfl rfl <| o_aloadN j (y d7_13) rfl rfl <| k) ?_
  refine cV sa [] [(.ref u8)] 1 X0 hx hZ hown (w 52 rfl) (w 53 rfl) (w 55 rfl) (w 54 rfl) (w 7 rfl) (w 56 rfl) (rmCO0 l Z a0 hw [] cs u8 sa h0 n0 Z0 H0 pr1 pr3) e0 pr5 hml pd_ocB (y d7_14) (fun v1 T1 L1 hQ1 X1 => ?_)
  obtain ⟨rfl, N1a, eh1⟩ := hQ1
  have N1 := Fr.app (Fr.nil n0) N1a
  have e1 : T1.heap = h0 := eh1
  refine og2 X1 hx (fun j _ k => o_aloadN j (y d7_17) rfl rfl <| k) ?_
  refine g_getF X1 hx hZ hown (w 25 rfl) e1 pr4 (y d7_18) (fun T2 X2 e2 => ?_)
  refine cS [(.ref u8), (.int 0), (.ref ba)] [] 0 X2 hx hZ hown (w 58 rfl) (w 59 rfl) (w 7 rfl) (w 60 rfl) (rmEN10 l Z a0 hw [] cs u8 ba bk c0 h0 n0 Z0 H0 pr1 pr2 pr6 H7 H8) e2 hml pd_oLjava_nio_charset_CharsetsBaBcaB (y d7_21) (fun v3 T3 L3 hQ3 X3 => ?_)
  obtain ⟨r_3, rk_3, rfl, N3a, K3, Q3_0, Q3_1⟩ := hQ3
  have N3 := Fr.app N1 N3a
  have e3 : T3.heap = T3.heap := rfl
  have P3 : Keep h0 T3.heap [] := ((Keep.refl h0 []).trans K3 all0)
  have GK3_r : h0.size ≤ r_3 := Nat.le_trans (Keep.refl h0 []).1 Q3_1
  have ne3_ba_r : ba ≠ r_3 := Nat.ne_of_lt (Nat.lt_of_lt_of_le pr2.lt Q3_1)
  have ne3_sa_r : sa ≠ r_3 := Nat.ne_of_lt (Nat.lt_of_lt_of_le pr3.lt Q3_1)
  exact rA X3 hx Bd rfl rfl rfl (y d7_24) e3 ⟨r_3, rk_3, rfl, N3, P3, Q3_0, GK3_r⟩

abbrev R_5_4_19_79 : Room := ({ frames := 5, cells := 4, slots := 19, locals := 79 } : Room)
def QKU10 (Z : State) (cs : Int32) (u8 : Addr) (sa : Addr) (ba : Addr) (bk : ClassId) (c0 : Int32) (h0 : Heap) (n0 : Nat) (v : Option Value) (h : Heap) (L : List Loc) : Prop := ∃ r : Addr, ∃ rk : ClassId, v = some (.ref r) ∧ Fr n0 L ∧ Keep h0 h [] ∧ Arv Z h r rk .byte (own_ln (own_put c0)) (own_vs (own_put c0)) (.int 0) ∧ h0.size ≤ r
theorem rmKU10 (l : Launch) (Z : State) (a0 : Array Value) (hw : HW a0 Z) (ws : List Jvm.Cond) (cs : Int32) (u8 : Addr) (sa : Addr) (ba : Addr) (bk : ClassId) (c0 : Int32) (h0 : Heap) (n0 : Nat) (Z0 : n0 ≤ h0.size) (H0 : OSt Z cs u8) (pr1 : Old Z n0 h0) (pr2 : Arv Z h0 ba bk .byte (1 : Int32) [(.int (own_b c0))] (.int 0)) (pr3 : Fld Z h0 sa "java/lang/String" "coder" "B" (.int 0)) (pr4 : Fld Z h0 sa "java/lang/String" "value" "[B" (.ref ba)) (pr5 : Exa Z h0 sa "java/lang/String") (pr6 : Exa Z h0 ba "[B") (H7 : OCh c0) (H8 : ¬ (255 : Int32) < c0) :
    MW l Z ⟨"com/example/unseen/unseen/Keys", "utf8", "(Ljava/lang/CharSequence;)[B"⟩ prog_8_method_2_code 1 (some (.array .byte)) ws R_5_4_19_79 #[(.ref sa)] h0 (QKU10 Z cs u8 sa ba bk c0 h0 n0) := by
  refine og_startW (plainFor_of_name pn_com_example_unseen_unseen_Keys) fun p e s m below meth c s₁ Bd hx hby hml hZ hown hnm X0 e0 hS hkS => ?_
  have y := @hb _ _ hby
  have w := @wd _ _ hw
  refine og (fun t k => castTop (ef9 m sa) k) ?_
  refine og2 X0 hx (fun j _ k => o_aloadN j (y d4_0) rfl rfl <| k) ?_
  obtain ⟨a1, T1, h1, ks1, X1, e1, E1, hS, hkS, hZ, hown, st1⟩ := ldcS X0 hx hZ hown (w 31 rfl) (fun d hd => hw d (own_strAtoms d hd)) e0 hS hkS (g := (mkF m 1 #[.val (.ref sa)] [(.ref sa)])) rfl (y d4_1) (n := 12) (by decide) (by decide) (by decide) (by decide)
  have Z1 : n0 ≤ h1.size := (Nat.le_trans Z0 E1.1)
  have P1 : Keep h0 h1 [] := ((Keep.refl h0 []).ext E1)
  have O2 := (pr1.ext E1)
  have A3 := (pr2.ext E1)
  have F4 := (Fld.ext E1 pr3)
  have F5 := (Fld.ext E1 pr4)
  have E6 := (Exa.ext E1 pr5)
  have E7 := (Exa.ext E1 pr6)
  refine og st1 ?_
  change OG _ _ _ _ (T1.setTop (mkF m 3 #[.val (.ref sa)] [(.ref a1), (.ref sa)]))
  refine cS [(.ref sa), (.ref a1)] [] 0 X1 hx hZ hown (w 32 rfl) (w 33 rfl) (w 34 rfl) (w 35 rfl) (rmRN l Z a0 hw [] sa a1 h1 n0 Z1) e1 hml pd_oLjava_lang_ObjectsLjava_lang_StringscLjava_lang_Objects (y d4_3) (fun v8 T8 L8 hQ8 X8 => ?_)
  obtain ⟨rfl, N8a, eh8⟩ := hQ8
  have N8 := Fr.app (Fr.nil n0) N8a
  have e8 : T8.heap = h1 := eh8
  refine og2 X8 hx (fun j _ k => o_pop j (y d4_6) rfl <| o_aloadN j (y d4_7) rfl rfl <| k) ?_
  refine cF (⟨"java/lang/CharSequence", "toString", "()Ljava/lang/String;"⟩ : MethodName) (⟨"java/lang/String", "toString", "()Ljava/lang/String;"⟩ : MethodName) sa [] [] 0 X8 hx hZ hown (mvT hZ (w 36 rfl)) (mvT hZ (w 37 rfl)) (mvT hZ (w 38 rfl)) (mvT hZ (w 39 rfl)) (mvT hZ (w 40 rfl)) (mvT hZ (w 41 rfl)) (mvT hZ (w 42 rfl)) (mvT hZ (w 43 rfl)) (w 7 rfl) (w 44 rfl) (rmTS l Z a0 hw [] sa h1 n0 Z1) e8 E6 hml pd_ocLjava_lang_Strings (y d4_8) (fun v9 T9 L9 hQ9 X9 => ?_)
  obtain ⟨rfl, N9a, eh9⟩ := hQ9
  have N9 := Fr.app N8 N9a
  have e9 : T9.heap = h1 := eh9
  refine g_getS X9 hx hZ hown (w 45 rfl) e9 (Sta.ext O2.2 H0.2.2.1) (y d4_13) (fun T10 X10 e10 => ?_)
  refine cV sa [(.ref u8)] [] 0 X10 hx hZ hown (w 47 rfl) (w 48 rfl) (w 50 rfl) (w 49 rfl) (w 7 rfl) (w 51 rfl) (rmGB10 l Z a0 hw [] cs u8 sa ba bk c0 h1 n0 Z1 H0 O2 A3 F4 F5 E6 E7 H7 H8) e10 E6 hml pd_oLjava_nio_charset_CharsetscaB (y d4_16) (fun v11 T11 L11 hQ11 X11 => ?_)
  obtain ⟨r_11, rk_11, rfl, N11a, K11, Q11_0, Q11_1⟩ := hQ11
  have N11 := Fr.app N9 N11a
  have e11 : T11.heap = T11.heap := rfl
  have P11 : Keep h0 T11.heap [] := (P1.trans K11 all0)
  have GK11_r : h0.size ≤ r_11 := Nat.le_trans P1.1 Q11_1
  have ne11_ba_r : ba ≠ r_11 := Nat.ne_of_lt (Nat.lt_of_lt_of_le A3.lt Q11_1)
  have ne11_sa_r : sa ≠ r_11 := Nat.ne_of_lt (Nat.lt_of_lt_of_le F4.lt Q11_1)
  exact rAW X11 hx Bd hS (Nat.le_trans hkS K11.1) rfl rfl rfl (y d4_19) e11 ⟨r_11, rk_11, rfl, N11, P11, Q11_0, GK11_r⟩

abbrev R_2_2_7_32 : Room := ({ frames := 2, cells := 2, slots := 7, locals := 32 } : Room)
def QE820 (Z : State) (cs : Int32) (u8 : Addr) (ba : Addr) (bk : ClassId) (c0 : Int32) (c1 : Int32) (h0 : Heap) (n0 : Nat) (v : Option Value) (h : Heap) (L : List Loc) : Prop := ∃ r : Addr, ∃ rk : ClassId, v = some (.ref r) ∧ Fr n0 L ∧ Keep h0 h [] ∧ Arv Z h r rk .byte (own_ln (own_enc2 c0 c1)) (own_vs (own_enc2 c0 c1)) (.int 0) ∧ h0.size ≤ r
theorem rmE820 (l : Launch) (Z : State) (a0 : Array Value) (hw : HW a0 Z) (ws : List Jvm.Cond) (cs : Int32) (u8 : Addr) (ba : Addr) (bk : ClassId) (c0 : Int32) (c1 : Int32) (h0 : Heap) (n0 : Nat) (Z0 : n0 ≤ h0.size) (H0 : OSt Z cs u8) (pr1 : Old Z n0 h0) (pr2 : Arv Z h0 ba bk .byte (2 : Int32) [(.int (own_b c0)), (.int (own_b c1))] (.int 0)) (pr3 : Exa Z h0 ba "[B") (H4 : OCh c0) (H5 : OCh c1) (H6 : ¬ (255 : Int32) < c0) (H7 : ¬ (255 : Int32) < c1) :
    MF l Z ⟨"java/lang/String", "encodeUTF8", "(B[BZ)[B"⟩ jdk_42_method_46_code 9 (some (.array .byte)) ws R_2_2_7_32 #[(.int 0), (.ref ba), (.int 1)] h0 (QE820 Z cs u8 ba bk c0 c1 h0 n0) := by
  refine og_start (plainFor_of_name pn_java_lang_String) fun p e s m below meth c s₁ Bd hx hby hml hZ hown hnm X0 e0 => ?_
  have y := @hb _ _ hby
  have w := @wd _ _ hw
  refine og (fun t k => castTop (ef12 m (0 : Int32) ba (1 : Int32)) k) ?_
  refine og2 X0 hx (fun j _ k => o_iloadN j (y d10_0) rfl <| o_iconstV j 1 (y d10_1) rfl <| o_icmpYes j (pc' := 11) (y d10_2) (XT.ii_ne_t (by decide)) <| o_aloadN j (y d10_11) rfl rfl <| o_iconstV j 0 (y d10_12) rfl <| o_aloadN j (y d10_13) rfl rfl <| o_alen X0 hx hZ e0 pr2 (y d10_14) <| k) ?_
  refine cS [(.ref ba), (.int 0), (.int 2)] [] 0 X0 hx hZ hown (w 66 rfl) (w 67 rfl) (w 68 rfl) (w 69 rfl) (rmHN2 l Z a0 hw [] ba bk c0 c1 h0 n0 Z0 pr2) e0 hml pd_oaBIIcZ (y d10_15) (fun v1 T1 L1 hQ1 X1 => ?_)
  obtain ⟨rfl, N1a, eh1⟩ := hQ1
  have N1 := Fr.app (Fr.nil n0) N1a
  have e1 : T1.heap = h0 := eh1
  by_cases C2 : own_hn2 c0 c1 = 0
  · refine og2 X1 hx (fun j _ k => o_ifNo j (y d10_18) (XT.i0_ne_f C2) <| o_aloadN j (y d10_21) rfl rfl <| k) ?_
    obtain ⟨T3, h3, X3, e3, E3, A3, D3, st3⟩ := cloneH X1 hx hZ hown (w 73 rfl) (w 74 rfl) (w 78 rfl) (w 76 rfl) (w 77 rfl) (w 79 rfl) e1 (Arv.arh pr2) pr3 (g := (mkF m 22 #[.val (.int 0), .val (.ref ba), .val (.int 1), .unset, .unset, .unset, .unset, .unset, .unset] [(.ref ba)])) rfl (by rw [hml]; rfl) rfl (y d10_22) (by decide) (W := 0) (by show 2 * 0 + _ ≤ _; exact Nat.le_of_eq rfl) (by decide) (cap := 2) (by decide) (by decide) (by decide)
    obtain ⟨a3, g3⟩ : ∃ z, z = h0.size := ⟨_, rfl⟩
    rw [← g3] at A3 D3 st3
    have GK3 : h0.size ≤ a3 := Nat.le_trans (Keep.refl h0 []).1 (Nat.le_of_eq g3.symm)
    have P3 := (Keep.refl h0 []).ext E3
    have A3v : Arv Z h3 a3 bk .byte (2 : Int32) [(.int (own_b c0)), (.int (own_b c1))] (.int 0) := A3
    refine og st3 ?_
    change OG _ _ _ _ (T3.setTop (mkF m 25 #[.val (.int 0), .val (.ref ba), .val (.int 1), .unset, .unset, .unset, .unset, .unset, .unset] [(.ref a3)]))
    refine g_cast (C := "") X3 hx hZ hown (w 80 rfl) e3 (Ins.self D3) (y d10_25) (fun T7 X7 e7 => ?_)
    exact rA X7 hx Bd rfl rfl rfl (y d10_28) e7 ⟨a3, bk, rfl, N1, P3, (by rw [(own_npl H6), (own_la H4 H6 (own_hn2_0 C2).1), (own_la H5 H7 (own_hn2_0 C2).2)]; exact A3v), GK3⟩
  · refine og2 X1 hx (fun j _ k => o_ifYes j (pc' := 29) (y d10_18) (XT.i0_ne_t C2) <| o_iconstV j 0 (y d10_29) rfl <| o_istoreN j (y d10_30) (l' := #[.val (.int 0), .val (.ref ba), .val (.int 1), .val (.int 0), .unset, .unset, .unset, .unset, .unset]) rfl <| o_aloadN j (y d10_31) rfl rfl <| o_alen X1 hx hZ e1 pr2 (y d10_32) <| k) ?_
    refine cS [(.int 2)] [] 0 X1 hx hZ hown (w 150 rfl) (w 97 rfl) (w 88 rfl) (w 98 rfl) (rmNF2 l Z a0 hw [] h0 n0 Z0) e1 hml pd_oIcaB (y d10_33) (fun v8 T8 L8 hQ8 X8 => ?_)
    obtain ⟨r_8, rk_8, rfl, N8a, K8, Q8_0, Q8_1⟩ := hQ8
    have N8 := Fr.app N1 N8a
    have e8 : T8.heap = T8.heap := rfl
    have Z8 : n0 ≤ T8.heap.size := (Nat.le_trans Z0 K8.1)
    have P8 : Keep h0 T8.heap [] := ((Keep.refl h0 []).trans K8 all0)
    have A10 := (pr2.keep K8 nin0)
    have G8_r : n0 ≤ r_8 := Nat.le_trans Z0 Q8_1
    have GK8_r : h0.size ≤ r_8 := Nat.le_trans (Keep.refl h0 []).1 Q8_1
    have ne8_ba_r : ba ≠ r_8 := Nat.ne_of_lt (Nat.lt_of_lt_of_le pr2.lt Q8_1)
    refine og2 X8 hx (fun j _ k => o_astore j (y d10_36) rfl (l' := #[.val (.int 0), .val (.ref ba), .val (.int 1), .val (.int 0), .val (.ref r_8), .unset, .unset, .unset, .unset]) rfl <| o_aloadN j (y d10_38) rfl rfl <| o_astore j (y d10_39) rfl (l' := #[.val (.int 0), .val (.ref ba), .val (.int 1), .val (.int 0), .val (.ref r_8), .val (.ref ba), .unset, .unset, .unset]) rfl <| o_aload j (y d10_41) rfl rfl <| o_alen X8 hx hZ e8 A10 (y d10_43) <| o_istore j (y d10_44) (l' := #[.val (.int 0), .val (.ref ba), .val (.int 1), .val (.int 0), .val (.ref r_8), .val (.ref ba), .val (.int 2), .unset, .unset]) rfl <| o_iconstV j 0 (y d10_46) rfl <| o_istore j (y d10_47) (l' := #[.val (.int 0), .val (.ref ba), .val (.int 1), .val (.int 0), .val (.ref r_8), .val (.ref ba), .val (.int 2), .val (.int 0), .unset]) rfl <| o_iload j (y d10_49) rfl <| o_iload j (y d10_51) rfl <| o_icmpNo j (y d10_53) (XT.ii_ge_f (by decide)) <| o_aload j (y d10_56) rfl rfl <| o_iload j (y d10_58) rfl <| o_baload (v := (.int (own_b c0))) X8 hx hZ e8 A10 ⟨by decide, by decide⟩ rfl (y d10_60) <| o_istore j (y d10_61) (l' := #[.val (.int 0), .val (.ref ba), .val (.int 1), .val (.int 0), .val (.ref r_8), .val (.ref ba), .val (.int 2), .val (.int 0), .val (.int (own_b c0))]) rfl <| o_iload j (y d10_63) rfl <| k) ?_
    by_cases C12 : own_b c0 < 0
    · refine og2 X8 hx (fun j _ k => o_ifNo j (y d10_65) (XT.i0_ge_f C12) <| o_aload j (y d10_68) rfl rfl <| o_iloadN j (y d10_70) rfl <| o_iincL j 1 (y d10_71) rfl (1 : Int32) (by decide) rfl (l' := #[.val (.int 0), .val (.ref ba), .val (.int 1), .val (.int 1), .val (.ref r_8), .val (.ref ba), .val (.int 2), .val (.int 0), .val (.int (own_b c0))]) rfl <| o_sipushV j 192 (y d10_74) rfl <| o_iload j (y d10_77) rfl <| o_sipushV j 255 (y d10_79) rfl <| o_iand j (y d10_82) <| k) ?_
      rw [(own_b_255 H4 H6)]
      refine og2 X8 hx (fun j _ k => o_bipushV j 6 (y d10_83) rfl <| o_ishr j (y d10_85) <| o_ior j (y d10_86) <| o_i2bO j (y d10_87) <| k) ?_
      refine sB (v := own_b ((192 : Int32) ||| (c0 >>> ((6 : Int32) &&& 31)))) 0 X8 hx hZ e8 Q8_0 (own_nar_b _) (y d10_88) (fun T13 h13 X13 e13 W13 A13 => ?_)
      have N13 := Fr.snoc X13 N8 G8_r
      have P13 := P8.wr W13 (Or.inr GK8_r)
      have Z13 : n0 ≤ h13.size := (by rw [W13.size]; exact Z8)
      have A15 := (A10.other W13 ne8_ba_r)
      have A13v : Arv Z h13 r_8 rk_8 .byte (4 : Int32) [(.int (own_b ((192 : Int32) ||| (c0 >>> ((6 : Int32) &&& 31))))), (.int 0), (.int 0), (.int 0)] (.int 0) := A13
      refine og2 X13 hx (fun j _ k => o_aload j (y d10_89) rfl rfl <| o_iloadN j (y d10_91) rfl <| o_iincL j 1 (y d10_92) rfl (2 : Int32) (by decide) rfl (l' := #[.val (.int 0), .val (.ref ba), .val (.int 1), .val (.int 2), .val (.ref r_8), .val (.ref ba), .val (.int 2), .val (.int 0), .val (.int (own_b c0))]) rfl <| o_sipushV j 128 (y d10_95) rfl <| o_iload j (y d10_98) rfl <| o_bipushV j 63 (y d10_100) rfl <| o_iand j (y d10_102) <| k) ?_
      rw [(own_b_63 c0)]
      refine og2 X13 hx (fun j _ k => o_ior j (y d10_103) <| o_i2bO j (y d10_104) <| k) ?_
      refine sB (v := own_b ((128 : Int32) ||| (c0 &&& (63 : Int32)))) 1 X13 hx hZ e13 A13v (own_nar_b _) (y d10_105) (fun T17 h17 X17 e17 W17 A17 => ?_)
      have N17 := Fr.snoc X17 N13 G8_r
      have P17 := P13.wr W17 (Or.inr GK8_r)
      have Z17 : n0 ≤ h17.size := (by rw [W17.size]; exact Z13)
      have A19 := (A15.other W17 ne8_ba_r)
      have A17v : Arv Z h17 r_8 rk_8 .byte (4 : Int32) [(.int (own_b ((192 : Int32) ||| (c0 >>> ((6 : Int32) &&& 31))))), (.int (own_b ((128 : Int32) ||| (c0 &&& (63 : Int32))))), (.int 0), (.int 0)] (.int 0) := A17
      refine og2 X17 hx (fun j _ k => o_goto j (pc' := 118) (y d10_106) <| o_iincL j 1 (y d10_118) rfl (1 : Int32) (by decide) rfl (l' := #[.val (.int 0), .val (.ref ba), .val (.int 1), .val (.int 2), .val (.ref r_8), .val (.ref ba), .val (.int 2), .val (.int 1), .val (.int (own_b c0))]) rfl <| o_goto j (pc' := 49) (y d10_121) <| o_iload j (y d10_49) rfl <| o_iload j (y d10_51) rfl <| o_icmpNo j (y d10_53) (XT.ii_ge_f (by decide)) <| o_aload j (y d10_56) rfl rfl <| o_iload j (y d10_58) rfl <| o_baload (v := (.int (own_b c1))) X17 hx hZ e17 A19 ⟨by decide, by decide⟩ rfl (y d10_60) <| o_istore j (y d10_61) (l' := #[.val (.int 0), .val (.ref ba), .val (.int 1), .val (.int 2), .val (.ref r_8), .val (.ref ba), .val (.int 2), .val (.int 1), .val (.int (own_b c1))]) rfl <| o_iload j (y d10_63) rfl <| k) ?_
      by_cases C21 : own_b c1 < 0
      · refine og2 X17 hx (fun j _ k => o_ifNo j (y d10_65) (XT.i0_ge_f C21) <| o_aload j (y d10_68) rfl rfl <| o_iloadN j (y d10_70) rfl <| o_iincL j 1 (y d10_71) rfl (3 : Int32) (by decide) rfl (l' := #[.val (.int 0), .val (.ref ba), .val (.int 1), .val (.int 3), .val (.ref r_8), .val (.ref ba), .val (.int 2), .val (.int 1), .val (.int (own_b c1))]) rfl <| o_sipushV j 192 (y d10_74) rfl <| o_iload j (y d10_77) rfl <| o_sipushV j 255 (y d10_79) rfl <| o_iand j (y d10_82) <| k) ?_
        rw [(own_b_255 H5 H7)]
        refine og2 X17 hx (fun j _ k => o_bipushV j 6 (y d10_83) rfl <| o_ishr j (y d10_85) <| o_ior j (y d10_86) <| o_i2bO j (y d10_87) <| k) ?_
        refine sB (v := own_b ((192 : Int32) ||| (c1 >>> ((6 : Int32) &&& 31)))) 2 X17 hx hZ e17 A17v (own_nar_b _) (y d10_88) (fun T22 h22 X22 e22 W22 A22 => ?_)
        have N22 := Fr.snoc X22 N17 G8_r
        have P22 := P17.wr W22 (Or.inr GK8_r)
        have A22v : Arv Z h22 r_8 rk_8 .byte (4 : Int32) [(.int (own_b ((192 : Int32) ||| (c0 >>> ((6 : Int32) &&& 31))))), (.int (own_b ((128 : Int32) ||| (c0 &&& (63 : Int32))))), (.int (own_b ((192 : Int32) ||| (c1 >>> ((6 : Int32) &&& 31))))), (.int 0)] (.int 0) := A22
        refine og2 X22 hx (fun j _ k => o_aload j (y d10_89) rfl rfl <| o_iloadN j (y d10_91) rfl <| o_iincL j 1 (y d10_92) rfl (4 : Int32) (by decide) rfl (l' := #[.val (.int 0), .val (.ref ba), .val (.int 1), .val (.int 4), .val (.ref r_8), .val (.ref ba), .val (.int 2), .val (.int 1), .val (.int (own_b c1))]) rfl <| o_sipushV j 128 (y d10_95) rfl <| o_iload j (y d10_98) rfl <| o_bipushV j 63 (y d10_100) rfl <| o_iand j (y d10_102) <| k) ?_
        rw [(own_b_63 c1)]
        refine og2 X22 hx (fun j _ k => o_ior j (y d10_103) <| o_i2bO j (y d10_104) <| k) ?_
        refine sB (v := own_b ((128 : Int32) ||| (c1 &&& (63 : Int32)))) 3 X22 hx hZ e22 A22v (own_nar_b _) (y d10_105) (fun T26 h26 X26 e26 W26 A26 => ?_)
        have N26 := Fr.snoc X26 N22 G8_r
        have P26 := P22.wr W26 (Or.inr GK8_r)
        have A26v : Arv Z h26 r_8 rk_8 .byte (4 : Int32) [(.int (own_b ((192 : Int32) ||| (c0 >>> ((6 : Int32) &&& 31))))), (.int (own_b ((128 : Int32) ||| (c0 &&& (63 : Int32))))), (.int (own_b ((192 : Int32) ||| (c1 >>> ((6 : Int32) &&& 31))))), (.int (own_b ((128 : Int32) ||| (c1 &&& (63 : Int32)))))] (.int 0) := A26
        refine og2 X26 hx (fun j _ k => o_goto j (pc' := 118) (y d10_106) <| o_iincL j 1 (y d10_118) rfl (2 : Int32) (by decide) rfl (l' := #[.val (.int 0), .val (.ref ba), .val (.int 1), .val (.int 4), .val (.ref r_8), .val (.ref ba), .val (.int 2), .val (.int 2), .val (.int (own_b c1))]) rfl <| o_goto j (pc' := 49) (y d10_121) <| o_iload j (y d10_49) rfl <| o_iload j (y d10_51) rfl <| o_icmpYes j (pc' := 124) (y d10_53) (XT.ii_ge_t (by decide)) <| o_iloadN j (y d10_124) rfl <| o_aload j (y d10_125) rfl rfl <| o_alen X26 hx hZ e26 A26v (y d10_127) <| o_icmpNo j (y d10_128) (XT.ii_ne_f rfl) <| o_aload j (y d10_131) rfl rfl <| k) ?_
        exact rA X26 hx Bd rfl rfl rfl (y d10_133) e26 ⟨r_8, rk_8, rfl, N26, P26, (by rw [(own_npl H6), (own_lb H4 H6 C12), (own_lb H5 H7 C21)]; exact A26v), GK8_r⟩
      · refine og2 X17 hx (fun j _ k => o_ifYes j (pc' := 109) (y d10_65) (XT.i0_ge_t C21) <| o_aload j (y d10_109) rfl rfl <| o_iloadN j (y d10_111) rfl <| o_iincL j 1 (y d10_112) rfl (3 : Int32) (by decide) rfl (l' := #[.val (.int 0), .val (.ref ba), .val (.int 1), .val (.int 3), .val (.ref r_8), .val (.ref ba), .val (.int 2), .val (.int 1), .val (.int (own_b c1))]) rfl <| o_iload j (y d10_115) rfl <| k) ?_
        refine sB (v := own_b c1) 2 X17 hx hZ e17 A17v (own_nar_b _) (y d10_117) (fun T30 h30 X30 e30 W30 A30 => ?_)
        have N30 := Fr.snoc X30 N17 G8_r
        have P30 := P17.wr W30 (Or.inr GK8_r)
        have Z30 : n0 ≤ h30.size := (by rw [W30.size]; exact Z17)
        have A32 := (A19.other W30 ne8_ba_r)
        have A30v : Arv Z h30 r_8 rk_8 .byte (4 : Int32) [(.int (own_b ((192 : Int32) ||| (c0 >>> ((6 : Int32) &&& 31))))), (.int (own_b ((128 : Int32) ||| (c0 &&& (63 : Int32))))), (.int (own_b c1)), (.int 0)] (.int 0) := A30
        refine og2 X30 hx (fun j _ k => o_iincL j 1 (y d10_118) rfl (2 : Int32) (by decide) rfl (l' := #[.val (.int 0), .val (.ref ba), .val (.int 1), .val (.int 3), .val (.ref r_8), .val (.ref ba), .val (.int 2), .val (.int 2), .val (.int (own_b c1))]) rfl <| o_goto j (pc' := 49) (y d10_121) <| o_iload j (y d10_49) rfl <| o_iload j (y d10_51) rfl <| o_icmpYes j (pc' := 124) (y d10_53) (XT.ii_ge_t (by decide)) <| o_iloadN j (y d10_124) rfl <| o_aload j (y d10_125) rfl rfl <| o_alen X30 hx hZ e30 A30v (y d10_127) <| o_icmpYes j (pc' := 134) (y d10_128) (XT.ii_ne_t (by decide)) <| o_aload j (y d10_134) rfl rfl <| o_iloadN j (y d10_136) rfl <| k) ?_
        refine cS [(.ref r_8), (.int 3)] [] 0 X30 hx hZ hown (w 132 rfl) (w 133 rfl) (w 134 rfl) (w 135 rfl) (rmAC43 l Z a0 hw [] r_8 rk_8 (own_b ((192 : Int32) ||| (c0 >>> ((6 : Int32) &&& 31)))) (own_b ((128 : Int32) ||| (c0 &&& (63 : Int32)))) (own_b c1) (0 : Int32) h30 n0 Z30 A30v) e30 hml pd_oaBIcaB (y d10_137) (fun v34 T34 L34 hQ34 X34 => ?_)
        obtain ⟨r_34, rk_34, rfl, N34a, K34, Q34_0, Q34_1⟩ := hQ34
        have N34 := Fr.app N30 N34a
        have e34 : T34.heap = T34.heap := rfl
        have P34 : Keep h0 T34.heap [] := (P30.trans K34 all0)
        have GK34_r : h0.size ≤ r_34 := Nat.le_trans P30.1 Q34_1
        have ne34_ba_r : ba ≠ r_34 := Nat.ne_of_lt (Nat.lt_of_lt_of_le A32.lt Q34_1)
        have ne34_r_8_r : r_8 ≠ r_34 := Nat.ne_of_lt (Nat.lt_of_lt_of_le A30v.lt Q34_1)
        exact rA X34 hx Bd rfl rfl rfl (y d10_140) e34 ⟨r_34, rk_34, rfl, N34, P34, (by rw [(own_npl H6), (own_lb H4 H6 C12), (own_la H5 H7 C21)]; exact Q34_0), GK34_r⟩
    · refine og2 X8 hx (fun j _ k => o_ifYes j (pc' := 109) (y d10_65) (XT.i0_ge_t C12) <| o_aload j (y d10_109) rfl rfl <| o_iloadN j (y d10_111) rfl <| o_iincL j 1 (y d10_112) rfl (1 : Int32) (by decide) rfl (l' := #[.val (.int 0), .val (.ref ba), .val (.int 1), .val (.int 1), .val (.ref r_8), .val (.ref ba), .val (.int 2), .val (.int 0), .val (.int (own_b c0))]) rfl <| o_iload j (y d10_115) rfl <| k) ?_
      refine sB (v := own_b c0) 0 X8 hx hZ e8 Q8_0 (own_nar_b _) (y d10_117) (fun T39 h39 X39 e39 W39 A39 => ?_)
      have N39 := Fr.snoc X39 N8 G8_r
      have P39 := P8.wr W39 (Or.inr GK8_r)
      have Z39 : n0 ≤ h39.size := (by rw [W39.size]; exact Z8)
      have A41 := (A10.other W39 ne8_ba_r)
      have A39v : Arv Z h39 r_8 rk_8 .byte (4 : Int32) [(.int (own_b c0)), (.int 0), (.int 0), (.int 0)] (.int 0) := A39
      refine og2 X39 hx (fun j _ k => o_iincL j 1 (y d10_118) rfl (1 : Int32) (by decide) rfl (l' := #[.val (.int 0), .val (.ref ba), .val (.int 1), .val (.int 1), .val (.ref r_8), .val (.ref ba), .val (.int 2), .val (.int 1), .val (.int (own_b c0))]) rfl <| o_goto j (pc' := 49) (y d10_121) <| o_iload j (y d10_49) rfl <| o_iload j (y d10_51) rfl <| o_icmpNo j (y d10_53) (XT.ii_ge_f (by decide)) <| o_aload j (y d10_56) rfl rfl <| o_iload j (y d10_58) rfl <| o_baload (v := (.int (own_b c1))) X39 hx hZ e39 A41 ⟨by decide, by decide⟩ rfl (y d10_60) <| o_istore j (y d10_61) (l' := #[.val (.int 0), .val (.ref ba), .val (.int 1), .val (.int 1), .val (.ref r_8), .val (.ref ba), .val (.int 2), .val (.int 1), .val (.int (own_b c1))]) rfl <| o_iload j (y d10_63) rfl <| k) ?_
      by_cases C43 : own_b c1 < 0
      · refine og2 X39 hx (fun j _ k => o_ifNo j (y d10_65) (XT.i0_ge_f C43) <| o_aload j (y d10_68) rfl rfl <| o_iloadN j (y d10_70) rfl <| o_iincL j 1 (y d10_71) rfl (2 : Int32) (by decide) rfl (l' := #[.val (.int 0), .val (.ref ba), .val (.int 1), .val (.int 2), .val (.ref r_8), .val (.ref ba), .val (.int 2), .val (.int 1), .val (.int (own_b c1))]) rfl <| o_sipushV j 192 (y d10_74) rfl <| o_iload j (y d10_77) rfl <| o_sipushV j 255 (y d10_79) rfl <| o_iand j (y d10_82) <| k) ?_
        rw [(own_b_255 H5 H7)]
        refine og2 X39 hx (fun j _ k => o_bipushV j 6 (y d10_83) rfl <| o_ishr j (y d10_85) <| o_ior j (y d10_86) <| o_i2bO j (y d10_87) <| k) ?_
        refine sB (v := own_b ((192 : Int32) ||| (c1 >>> ((6 : Int32) &&& 31)))) 1 X39 hx hZ e39 A39v (own_nar_b _) (y d10_88) (fun T44 h44 X44 e44 W44 A44 => ?_)
        have N44 := Fr.snoc X44 N39 G8_r
        have P44 := P39.wr W44 (Or.inr GK8_r)
        have Z44 : n0 ≤ h44.size := (by rw [W44.size]; exact Z39)
        have A46 := (A41.other W44 ne8_ba_r)
        have A44v : Arv Z h44 r_8 rk_8 .byte (4 : Int32) [(.int (own_b c0)), (.int (own_b ((192 : Int32) ||| (c1 >>> ((6 : Int32) &&& 31))))), (.int 0), (.int 0)] (.int 0) := A44
        refine og2 X44 hx (fun j _ k => o_aload j (y d10_89) rfl rfl <| o_iloadN j (y d10_91) rfl <| o_iincL j 1 (y d10_92) rfl (3 : Int32) (by decide) rfl (l' := #[.val (.int 0), .val (.ref ba), .val (.int 1), .val (.int 3), .val (.ref r_8), .val (.ref ba), .val (.int 2), .val (.int 1), .val (.int (own_b c1))]) rfl <| o_sipushV j 128 (y d10_95) rfl <| o_iload j (y d10_98) rfl <| o_bipushV j 63 (y d10_100) rfl <| o_iand j (y d10_102) <| k) ?_
        rw [(own_b_63 c1)]
        refine og2 X44 hx (fun j _ k => o_ior j (y d10_103) <| o_i2bO j (y d10_104) <| k) ?_
        refine sB (v := own_b ((128 : Int32) ||| (c1 &&& (63 : Int32)))) 2 X44 hx hZ e44 A44v (own_nar_b _) (y d10_105) (fun T48 h48 X48 e48 W48 A48 => ?_)
        have N48 := Fr.snoc X48 N44 G8_r
        have P48 := P44.wr W48 (Or.inr GK8_r)
        have Z48 : n0 ≤ h48.size := (by rw [W48.size]; exact Z44)
        have A50 := (A46.other W48 ne8_ba_r)
        have A48v : Arv Z h48 r_8 rk_8 .byte (4 : Int32) [(.int (own_b c0)), (.int (own_b ((192 : Int32) ||| (c1 >>> ((6 : Int32) &&& 31))))), (.int (own_b ((128 : Int32) ||| (c1 &&& (63 : Int32))))), (.int 0)] (.int 0) := A48
        refine og2 X48 hx (fun j _ k => o_goto j (pc' := 118) (y d10_106) <| o_iincL j 1 (y d10_118) rfl (2 : Int32) (by decide) rfl (l' := #[.val (.int 0), .val (.ref ba), .val (.int 1), .val (.int 3), .val (.ref r_8), .val (.ref ba), .val (.int 2), .val (.int 2), .val (.int (own_b c1))]) rfl <| o_goto j (pc' := 49) (y d10_121) <| o_iload j (y d10_49) rfl <| o_iload j (y d10_51) rfl <| o_icmpYes j (pc' := 124) (y d10_53) (XT.ii_ge_t (by decide)) <| o_iloadN j (y d10_124) rfl <| o_aload j (y d10_125) rfl rfl <| o_alen X48 hx hZ e48 A48v (y d10_127) <| o_icmpYes j (pc' := 134) (y d10_128) (XT.ii_ne_t (by decide)) <| o_aload j (y d10_134) rfl rfl <| o_iloadN j (y d10_136) rfl <| k) ?_
        refine cS [(.ref r_8), (.int 3)] [] 0 X48 hx hZ hown (w 132 rfl) (w 133 rfl) (w 134 rfl) (w 135 rfl) (rmAC43 l Z a0 hw [] r_8 rk_8 (own_b c0) (own_b ((192 : Int32) ||| (c1 >>> ((6 : Int32) &&& 31)))) (own_b ((128 : Int32) ||| (c1 &&& (63 : Int32)))) (0 : Int32) h48 n0 Z48 A48v) e48 hml pd_oaBIcaB (y d10_137) (fun v52 T52 L52 hQ52 X52 => ?_)
        obtain ⟨r_52, rk_52, rfl, N52a, K52, Q52_0, Q52_1⟩ := hQ52
        have N52 := Fr.app N48 N52a
        have e52 : T52.heap = T52.heap := rfl
        have P52 : Keep h0 T52.heap [] := (P48.trans K52 all0)
        have GK52_r : h0.size ≤ r_52 := Nat.le_trans P48.1 Q52_1
        have ne52_ba_r : ba ≠ r_52 := Nat.ne_of_lt (Nat.lt_of_lt_of_le A50.lt Q52_1)
        have ne52_r_8_r : r_8 ≠ r_52 := Nat.ne_of_lt (Nat.lt_of_lt_of_le A48v.lt Q52_1)
        exact rA X52 hx Bd rfl rfl rfl (y d10_140) e52 ⟨r_52, rk_52, rfl, N52, P52, (by rw [(own_npl H6), (own_la H4 H6 C12), (own_lb H5 H7 C43)]; exact Q52_0), GK52_r⟩
      · refine og2 X39 hx (fun j _ k => o_ifYes j (pc' := 109) (y d10_65) (XT.i0_ge_t C43) <| o_aload j (y d10_109) rfl rfl <| o_iloadN j (y d10_111) rfl <| o_iincL j 1 (y d10_112) rfl (2 : Int32) (by decide) rfl (l' := #[.val (.int 0), .val (.ref ba), .val (.int 1), .val (.int 2), .val (.ref r_8), .val (.ref ba), .val (.int 2), .val (.int 1), .val (.int (own_b c1))]) rfl <| o_iload j (y d10_115) rfl <| k) ?_
        refine sB (v := own_b c1) 1 X39 hx hZ e39 A39v (own_nar_b _) (y d10_117) (fun T57 h57 X57 e57 W57 A57 => ?_)
        have N57 := Fr.snoc X57 N39 G8_r
        have P57 := P39.wr W57 (Or.inr GK8_r)
        have Z57 : n0 ≤ h57.size := (by rw [W57.size]; exact Z39)
        have A59 := (A41.other W57 ne8_ba_r)
        have A57v : Arv Z h57 r_8 rk_8 .byte (4 : Int32) [(.int (own_b c0)), (.int (own_b c1)), (.int 0), (.int 0)] (.int 0) := A57
        refine og2 X57 hx (fun j _ k => o_iincL j 1 (y d10_118) rfl (2 : Int32) (by decide) rfl (l' := #[.val (.int 0), .val (.ref ba), .val (.int 1), .val (.int 2), .val (.ref r_8), .val (.ref ba), .val (.int 2), .val (.int 2), .val (.int (own_b c1))]) rfl <| o_goto j (pc' := 49) (y d10_121) <| o_iload j (y d10_49) rfl <| o_iload j (y d10_51) rfl <| o_icmpYes j (pc' := 124) (y d10_53) (XT.ii_ge_t (by decide)) <| o_iloadN j (y d10_124) rfl <| o_aload j (y d10_125) rfl rfl <| o_alen X57 hx hZ e57 A57v (y d10_127) <| o_icmpYes j (pc' := 134) (y d10_128) (XT.ii_ne_t (by decide)) <| o_aload j (y d10_134) rfl rfl <| o_iloadN j (y d10_136) rfl <| k) ?_
        refine cS [(.ref r_8), (.int 2)] [] 0 X57 hx hZ hown (w 132 rfl) (w 133 rfl) (w 134 rfl) (w 135 rfl) (rmAC42 l Z a0 hw [] r_8 rk_8 (own_b c0) (own_b c1) (0 : Int32) (0 : Int32) h57 n0 Z57 A57v) e57 hml pd_oaBIcaB (y d10_137) (fun v61 T61 L61 hQ61 X61 => ?_)
        obtain ⟨r_61, rk_61, rfl, N61a, K61, Q61_0, Q61_1⟩ := hQ61
        have N61 := Fr.app N57 N61a
        have e61 : T61.heap = T61.heap := rfl
        have P61 : Keep h0 T61.heap [] := (P57.trans K61 all0)
        have GK61_r : h0.size ≤ r_61 := Nat.le_trans P57.1 Q61_1
        have ne61_ba_r : ba ≠ r_61 := Nat.ne_of_lt (Nat.lt_of_lt_of_le A59.lt Q61_1)
        have ne61_r_8_r : r_8 ≠ r_61 := Nat.ne_of_lt (Nat.lt_of_lt_of_le A57v.lt Q61_1)
        exact rA X61 hx Bd rfl rfl rfl (y d10_140) e61 ⟨r_61, rk_61, rfl, N61, P61, (by rw [(own_npl H6), (own_la H4 H6 C12), (own_la H5 H7 C43)]; exact Q61_0), GK61_r⟩

abbrev R_3_2_7_52 : Room := ({ frames := 3, cells := 2, slots := 7, locals := 52 } : Room)
def QEN20 (Z : State) (cs : Int32) (u8 : Addr) (ba : Addr) (bk : ClassId) (c0 : Int32) (c1 : Int32) (h0 : Heap) (n0 : Nat) (v : Option Value) (h : Heap) (L : List Loc) : Prop := ∃ r : Addr, ∃ rk : ClassId, v = some (.ref r) ∧ Fr n0 L ∧ Keep h0 h [] ∧ Arv Z h r rk .byte (own_ln (own_enc2 c0 c1)) (own_vs (own_enc2 c0 c1)) (.int 0) ∧ h0.size ≤ r
theorem rmEN20 (l : Launch) (Z : State) (a0 : Array Value) (hw : HW a0 Z) (ws : List Jvm.Cond) (cs : Int32) (u8 : Addr) (ba : Addr) (bk : ClassId) (c0 : Int32) (c1 : Int32) (h0 : Heap) (n0 : Nat) (Z0 : n0 ≤ h0.size) (H0 : OSt Z cs u8) (pr1 : Old Z n0 h0) (pr2 : Arv Z h0 ba bk .byte (2 : Int32) [(.int (own_b c0)), (.int (own_b c1))] (.int 0)) (pr3 : Exa Z h0 ba "[B") (H4 : OCh c0) (H5 : OCh c1) (H6 : ¬ (255 : Int32) < c0) (H7 : ¬ (255 : Int32) < c1) :
    MF l Z ⟨"java/lang/String", "encode", "(Ljava/nio/charset/Charset;B[B)[B"⟩ jdk_42_method_18_code 3 (some (.array .byte)) ws R_3_2_7_52 #[(.ref u8), (.int 0), (.ref ba)] h0 (QEN20 Z cs u8 ba bk c0 c1 h0 n0) := by
  refine og_start (plainFor_of_name pn_java_lang_String) fun p e s m below meth c s₁ Bd hx hby hml hZ hown hnm X0 e0 => ?_
  have y := @hb _ _ hby
  have w := @wd _ _ hw
  refine og (fun t k => castTop (ef13 m u8 (0 : Int32) ba) k) ?_
  refine og2 X0 hx (fun j _ k => o_aloadN j (y d9_0) rfl rfl <| k) ?_
  refine g_getS X0 hx hZ hown (w 61 rfl) e0 (Sta.ext pr1.2 H0.2.2.2.1) (y d9_1) (fun T1 X1 e1 => ?_)
  refine og2 X1 hx (fun j _ k => o_acmpNo j (y d9_4) rfl rfl (XT.aa_ne_f rfl) <| o_iloadN j (y d9_7) rfl <| o_aloadN j (y d9_8) rfl rfl <| o_iconstV j 1 (y d9_9) rfl <| k) ?_
  refine cS [(.int 0), (.ref ba), (.int 1)] [] 0 X1 hx hZ hown (w 63 rfl) (w 64 rfl) (w 7 rfl) (w 65 rfl) (rmE820 l Z a0 hw [] cs u8 ba bk c0 c1 h0 n0 Z0 H0 pr1 pr2 pr3 H4 H5 H6 H7) e1 hml pd_oBaBZcaB (y d9_10) (fun v2 T2 L2 hQ2 X2 => ?_)
  obtain ⟨r_2, rk_2, rfl, N2a, K2, Q2_0, Q2_1⟩ := hQ2
  have N2 := Fr.app (Fr.nil n0) N2a
  have e2 : T2.heap = T2.heap := rfl
  have P2 : Keep h0 T2.heap [] := ((Keep.refl h0 []).trans K2 all0)
  have GK2_r : h0.size ≤ r_2 := Nat.le_trans (Keep.refl h0 []).1 Q2_1
  have ne2_ba_r : ba ≠ r_2 := Nat.ne_of_lt (Nat.lt_of_lt_of_le pr2.lt Q2_1)
  exact rA X2 hx Bd rfl rfl rfl (y d9_13) e2 ⟨r_2, rk_2, rfl, N2, P2, Q2_0, GK2_r⟩

abbrev R_4_2_7_66 : Room := ({ frames := 4, cells := 2, slots := 7, locals := 66 } : Room)
def QGB20 (Z : State) (cs : Int32) (u8 : Addr) (sa : Addr) (ba : Addr) (bk : ClassId) (c0 : Int32) (c1 : Int32) (h0 : Heap) (n0 : Nat) (v : Option Value) (h : Heap) (L : List Loc) : Prop := ∃ r : Addr, ∃ rk : ClassId, v = some (.ref r) ∧ Fr n0 L ∧ Keep h0 h [] ∧ Arv Z h r rk .byte (own_ln (own_enc2 c0 c1)) (own_vs (own_enc2 c0 c1)) (.int 0) ∧ h0.size ≤ r
theorem rmGB20 (l : Launch) (Z : State) (a0 : Array Value) (hw : HW a0 Z) (ws : List Jvm.Cond) (cs : Int32) (u8 : Addr) (sa : Addr) (ba : Addr) (bk : ClassId) (c0 : Int32) (c1 : Int32) (h0 : Heap) (n0 : Nat) (Z0 : n0 ≤ h0.size) (H0 : OSt Z cs u8) (pr1 : Old Z n0 h0) (pr2 : Arv Z h0 ba bk .byte (2 : Int32) [(.int (own_b c0)), (.int (own_b c1))] (.int 0)) (pr3 : Fld Z h0 sa "java/lang/String" "coder" "B" (.int 0)) (pr4 : Fld Z h0 sa "java/lang/String" "value" "[B" (.ref ba)) (pr5 : Exa Z h0 sa "java/lang/String") (pr6 : Exa Z h0 ba "[B") (H7 : OCh c0) (H8 : OCh c1) (H9 : ¬ (255 : Int32) < c0) (H10 : ¬ (255 : Int32) < c1) :
    MF l Z ⟨"java/lang/String", "getBytes", "(Ljava/nio/charset/Charset;)[B"⟩ jdk_42_method_64_code 2 (some (.array .byte)) ws R_4_2_7_66 #[(.ref sa), (.ref u8)] h0 (QGB20 Z cs u8 sa ba bk c0 c1 h0 n0) := by
  refine og_start (plainFor_of_name pn_java_lang_String) fun p e s m below meth c s₁ Bd hx hby hml hZ hown hnm X0 e0 => ?_
  have y := @hb _ _ hby
  have w := @wd _ _ hw
  refine og (fun t k => castTop (ef8 m sa u8) k) ?_
  refine og2 X0 hx (fun j _ k => o_aloadN j (y d7_0) rfl rfl <| o_ifnonnullYes j (pc' := 12) (y d7_1) <| o_aloadN j (y d7_12) rfl rfl <| o_aloadN j (y d7_13) rfl rfl <| k) ?_
  refine cV sa [] [(.ref u8)] 1 X0 hx hZ hown (w 52 rfl) (w 53 rfl) (w 55 rfl) (w 54 rfl) (w 7 rfl) (w 56 rfl) (rmCO0 l Z a0 hw [] cs u8 sa h0 n0 Z0 H0 pr1 pr3) e0 pr5 hml pd_ocB (y d7_14) (fun v1 T1 L1 hQ1 X1 => ?_)
  obtain ⟨rfl, N1a, eh1⟩ := hQ1
  have N1 := Fr.app (Fr.nil n0) N1a
  have e1 : T1.heap = h0 := eh1
  refine og2 X1 hx (fun j _ k => o_aloadN j (y d7_17) rfl rfl <| k) ?_
  refine g_getF X1 hx hZ hown (w 25 rfl) e1 pr4 (y d7_18) (fun T2 X2 e2 => ?_)
  refine cS [(.ref u8), (.int 0), (.ref ba)] [] 0 X2 hx hZ hown (w 58 rfl) (w 59 rfl) (w 7 rfl) (w 60 rfl) (rmEN20 l Z a0 hw [] cs u8 ba bk c0 c1 h0 n0 Z0 H0 pr1 pr2 pr6 H7 H8 H9 H10) e2 hml pd_oLjava_nio_charset_CharsetsBaBcaB (y d7_21) (fun v3 T3 L3 hQ3 X3 => ?_)
  obtain ⟨r_3, rk_3, rfl, N3a, K3, Q3_0, Q3_1⟩ := hQ3
  have N3 := Fr.app N1 N3a
  have e3 : T3.heap = T3.heap := rfl
  have P3 : Keep h0 T3.heap [] := ((Keep.refl h0 []).trans K3 all0)
  have GK3_r : h0.size ≤ r_3 := Nat.le_trans (Keep.refl h0 []).1 Q3_1
  have ne3_ba_r : ba ≠ r_3 := Nat.ne_of_lt (Nat.lt_of_lt_of_le pr2.lt Q3_1)
  have ne3_sa_r : sa ≠ r_3 := Nat.ne_of_lt (Nat.lt_of_lt_of_le pr3.lt Q3_1)
  exact rA X3 hx Bd rfl rfl rfl (y d7_24) e3 ⟨r_3, rk_3, rfl, N3, P3, Q3_0, GK3_r⟩

abbrev R_5_4_23_79 : Room := ({ frames := 5, cells := 4, slots := 23, locals := 79 } : Room)
def QKU20 (Z : State) (cs : Int32) (u8 : Addr) (sa : Addr) (ba : Addr) (bk : ClassId) (c0 : Int32) (c1 : Int32) (h0 : Heap) (n0 : Nat) (v : Option Value) (h : Heap) (L : List Loc) : Prop := ∃ r : Addr, ∃ rk : ClassId, v = some (.ref r) ∧ Fr n0 L ∧ Keep h0 h [] ∧ Arv Z h r rk .byte (own_ln (own_enc2 c0 c1)) (own_vs (own_enc2 c0 c1)) (.int 0) ∧ h0.size ≤ r
theorem rmKU20 (l : Launch) (Z : State) (a0 : Array Value) (hw : HW a0 Z) (ws : List Jvm.Cond) (cs : Int32) (u8 : Addr) (sa : Addr) (ba : Addr) (bk : ClassId) (c0 : Int32) (c1 : Int32) (h0 : Heap) (n0 : Nat) (Z0 : n0 ≤ h0.size) (H0 : OSt Z cs u8) (pr1 : Old Z n0 h0) (pr2 : Arv Z h0 ba bk .byte (2 : Int32) [(.int (own_b c0)), (.int (own_b c1))] (.int 0)) (pr3 : Fld Z h0 sa "java/lang/String" "coder" "B" (.int 0)) (pr4 : Fld Z h0 sa "java/lang/String" "value" "[B" (.ref ba)) (pr5 : Exa Z h0 sa "java/lang/String") (pr6 : Exa Z h0 ba "[B") (H7 : OCh c0) (H8 : OCh c1) (H9 : ¬ (255 : Int32) < c0) (H10 : ¬ (255 : Int32) < c1) :
    MW l Z ⟨"com/example/unseen/unseen/Keys", "utf8", "(Ljava/lang/CharSequence;)[B"⟩ prog_8_method_2_code 1 (some (.array .byte)) ws R_5_4_23_79 #[(.ref sa)] h0 (QKU20 Z cs u8 sa ba bk c0 c1 h0 n0) := by
  refine og_startW (plainFor_of_name pn_com_example_unseen_unseen_Keys) fun p e s m below meth c s₁ Bd hx hby hml hZ hown hnm X0 e0 hS hkS => ?_
  have y := @hb _ _ hby
  have w := @wd _ _ hw
  refine og (fun t k => castTop (ef9 m sa) k) ?_
  refine og2 X0 hx (fun j _ k => o_aloadN j (y d4_0) rfl rfl <| k) ?_
  obtain ⟨a1, T1, h1, ks1, X1, e1, E1, hS, hkS, hZ, hown, st1⟩ := ldcS X0 hx hZ hown (w 31 rfl) (fun d hd => hw d (own_strAtoms d hd)) e0 hS hkS (g := (mkF m 1 #[.val (.ref sa)] [(.ref sa)])) rfl (y d4_1) (n := 12) (by decide) (by decide) (by decide) (by decide)
  have Z1 : n0 ≤ h1.size := (Nat.le_trans Z0 E1.1)
  have P1 : Keep h0 h1 [] := ((Keep.refl h0 []).ext E1)
  have O2 := (pr1.ext E1)
  have A3 := (pr2.ext E1)
  have F4 := (Fld.ext E1 pr3)
  have F5 := (Fld.ext E1 pr4)
  have E6 := (Exa.ext E1 pr5)
  have E7 := (Exa.ext E1 pr6)
  refine og st1 ?_
  change OG _ _ _ _ (T1.setTop (mkF m 3 #[.val (.ref sa)] [(.ref a1), (.ref sa)]))
  refine cS [(.ref sa), (.ref a1)] [] 0 X1 hx hZ hown (w 32 rfl) (w 33 rfl) (w 34 rfl) (w 35 rfl) (rmRN l Z a0 hw [] sa a1 h1 n0 Z1) e1 hml pd_oLjava_lang_ObjectsLjava_lang_StringscLjava_lang_Objects (y d4_3) (fun v8 T8 L8 hQ8 X8 => ?_)
  obtain ⟨rfl, N8a, eh8⟩ := hQ8
  have N8 := Fr.app (Fr.nil n0) N8a
  have e8 : T8.heap = h1 := eh8
  refine og2 X8 hx (fun j _ k => o_pop j (y d4_6) rfl <| o_aloadN j (y d4_7) rfl rfl <| k) ?_
  refine cF (⟨"java/lang/CharSequence", "toString", "()Ljava/lang/String;"⟩ : MethodName) (⟨"java/lang/String", "toString", "()Ljava/lang/String;"⟩ : MethodName) sa [] [] 0 X8 hx hZ hown (mvT hZ (w 36 rfl)) (mvT hZ (w 37 rfl)) (mvT hZ (w 38 rfl)) (mvT hZ (w 39 rfl)) (mvT hZ (w 40 rfl)) (mvT hZ (w 41 rfl)) (mvT hZ (w 42 rfl)) (mvT hZ (w 43 rfl)) (w 7 rfl) (w 44 rfl) (rmTS l Z a0 hw [] sa h1 n0 Z1) e8 E6 hml pd_ocLjava_lang_Strings (y d4_8) (fun v9 T9 L9 hQ9 X9 => ?_)
  obtain ⟨rfl, N9a, eh9⟩ := hQ9
  have N9 := Fr.app N8 N9a
  have e9 : T9.heap = h1 := eh9
  refine g_getS X9 hx hZ hown (w 45 rfl) e9 (Sta.ext O2.2 H0.2.2.1) (y d4_13) (fun T10 X10 e10 => ?_)
  refine cV sa [(.ref u8)] [] 0 X10 hx hZ hown (w 47 rfl) (w 48 rfl) (w 50 rfl) (w 49 rfl) (w 7 rfl) (w 51 rfl) (rmGB20 l Z a0 hw [] cs u8 sa ba bk c0 c1 h1 n0 Z1 H0 O2 A3 F4 F5 E6 E7 H7 H8 H9 H10) e10 E6 hml pd_oLjava_nio_charset_CharsetscaB (y d4_16) (fun v11 T11 L11 hQ11 X11 => ?_)
  obtain ⟨r_11, rk_11, rfl, N11a, K11, Q11_0, Q11_1⟩ := hQ11
  have N11 := Fr.app N9 N11a
  have e11 : T11.heap = T11.heap := rfl
  have P11 : Keep h0 T11.heap [] := (P1.trans K11 all0)
  have GK11_r : h0.size ≤ r_11 := Nat.le_trans P1.1 Q11_1
  have ne11_ba_r : ba ≠ r_11 := Nat.ne_of_lt (Nat.lt_of_lt_of_le A3.lt Q11_1)
  have ne11_sa_r : sa ≠ r_11 := Nat.ne_of_lt (Nat.lt_of_lt_of_le F4.lt Q11_1)
  exact rAW X11 hx Bd hS (Nat.le_trans hkS K11.1) rfl rfl rfl (y d4_19) e11 ⟨r_11, rk_11, rfl, N11, P11, Q11_0, GK11_r⟩

abbrev R_3_2_5_52 : Room := ({ frames := 3, cells := 2, slots := 5, locals := 52 } : Room)
theorem d10_5 : decode k9 5 = .ok (.aload_n 1, 1) := by decide +kernel
theorem d10_6 : decode k9 6 = .ok (.iload_n 2, 1) := by decide +kernel
theorem d10_7 : decode k9 7 = .ok (.invokestatic 473, 3) := by decide +kernel
theorem d10_10 : decode k9 10 = .ok (.areturn, 1) := by decide +kernel
theorem pd_oaBZcaB : parseMethodDescriptor "([BZ)[B" = some ⟨[(.array .byte), .boolean], some (.array .byte)⟩ := by decide +kernel
def QE811 (Z : State) (cs : Int32) (u8 : Addr) (ba : Addr) (bk : ClassId) (c0 : Int32) (h0 : Heap) (n0 : Nat) (v : Option Value) (h : Heap) (L : List Loc) : Prop := ∃ r : Addr, ∃ rk : ClassId, v = some (.ref r) ∧ Fr n0 L ∧ Keep h0 h [] ∧ Arv Z h r rk .byte (own_ln (own_put c0)) (own_vs (own_put c0)) (.int 0) ∧ h0.size ≤ r
theorem rmE811 (l : Launch) (Z : State) (a0 : Array Value) (hw : HW a0 Z) (ws : List Jvm.Cond) (cs : Int32) (u8 : Addr) (ba : Addr) (bk : ClassId) (c0 : Int32) (h0 : Heap) (n0 : Nat) (Z0 : n0 ≤ h0.size) (H0 : OSt Z cs u8) (pr1 : Old Z n0 h0) (pr2 : Arv Z h0 ba bk .byte (2 : Int32) [(.int (own_lo c0)), (.int (own_hi c0))] (.int 0)) (H3 : OCh c0) :
    MF l Z ⟨"java/lang/String", "encodeUTF8", "(B[BZ)[B"⟩ jdk_42_method_46_code 9 (some (.array .byte)) ws R_3_2_5_52 #[(.int 1), (.ref ba), (.int 1)] h0 (QE811 Z cs u8 ba bk c0 h0 n0) := by
  refine og_start (plainFor_of_name pn_java_lang_String) fun p e s m below meth c s₁ Bd hx hby hml hZ hown hnm X0 e0 => ?_
  have y := @hb _ _ hby
  have w := @wd _ _ hw
  refine og (fun t k => castTop (ef12 m (1 : Int32) ba (1 : Int32)) k) ?_
  refine og2 X0 hx (fun j _ k => o_iloadN j (y d10_0) rfl <| o_iconstV j 1 (y d10_1) rfl <| o_icmpNo j (y d10_2) (XT.ii_ne_f rfl) <| o_aloadN j (y d10_5) rfl rfl <| o_iloadN j (y d10_6) rfl <| k) ?_
  refine cS [(.ref ba), (.int 1)] [] 0 X0 hx hZ hown (w 115 rfl) (w 116 rfl) (w 7 rfl) (w 117 rfl) (rmEU1 l Z a0 hw [] cs u8 ba bk c0 h0 n0 Z0 H0 pr1 pr2 H3) e0 hml pd_oaBZcaB (y d10_7) (fun v1 T1 L1 hQ1 X1 => ?_)
  obtain ⟨r_1, rk_1, rfl, N1a, K1, Q1_0, Q1_1⟩ := hQ1
  have N1 := Fr.app (Fr.nil n0) N1a
  have e1 : T1.heap = T1.heap := rfl
  have P1 : Keep h0 T1.heap [] := ((Keep.refl h0 []).trans K1 all0)
  have GK1_r : h0.size ≤ r_1 := Nat.le_trans (Keep.refl h0 []).1 Q1_1
  have ne1_ba_r : ba ≠ r_1 := Nat.ne_of_lt (Nat.lt_of_lt_of_le pr2.lt Q1_1)
  exact rA X1 hx Bd rfl rfl rfl (y d10_10) e1 ⟨r_1, rk_1, rfl, N1, P1, Q1_0, GK1_r⟩

abbrev R_4_2_5_72 : Room := ({ frames := 4, cells := 2, slots := 5, locals := 72 } : Room)
def QEN11 (Z : State) (cs : Int32) (u8 : Addr) (ba : Addr) (bk : ClassId) (c0 : Int32) (h0 : Heap) (n0 : Nat) (v : Option Value) (h : Heap) (L : List Loc) : Prop := ∃ r : Addr, ∃ rk : ClassId, v = some (.ref r) ∧ Fr n0 L ∧ Keep h0 h [] ∧ Arv Z h r rk .byte (own_ln (own_put c0)) (own_vs (own_put c0)) (.int 0) ∧ h0.size ≤ r
theorem rmEN11 (l : Launch) (Z : State) (a0 : Array Value) (hw : HW a0 Z) (ws : List Jvm.Cond) (cs : Int32) (u8 : Addr) (ba : Addr) (bk : ClassId) (c0 : Int32) (h0 : Heap) (n0 : Nat) (Z0 : n0 ≤ h0.size) (H0 : OSt Z cs u8) (pr1 : Old Z n0 h0) (pr2 : Arv Z h0 ba bk .byte (2 : Int32) [(.int (own_lo c0)), (.int (own_hi c0))] (.int 0)) (H3 : OCh c0) :
    MF l Z ⟨"java/lang/String", "encode", "(Ljava/nio/charset/Charset;B[B)[B"⟩ jdk_42_method_18_code 3 (some (.array .byte)) ws R_4_2_5_72 #[(.ref u8), (.int 1), (.ref ba)] h0 (QEN11 Z cs u8 ba bk c0 h0 n0) := by
  refine og_start (plainFor_of_name pn_java_lang_String) fun p e s m below meth c s₁ Bd hx hby hml hZ hown hnm X0 e0 => ?_
  have y := @hb _ _ hby
  have w := @wd _ _ hw
  refine og (fun t k => castTop (ef13 m u8 (1 : Int32) ba) k) ?_
  refine og2 X0 hx (fun j _ k => o_aloadN j (y d9_0) rfl rfl <| k) ?_
  refine g_getS X0 hx hZ hown (w 61 rfl) e0 (Sta.ext pr1.2 H0.2.2.2.1) (y d9_1) (fun T1 X1 e1 => ?_)
  refine og2 X1 hx (fun j _ k => o_acmpNo j (y d9_4) rfl rfl (XT.aa_ne_f rfl) <| o_iloadN j (y d9_7) rfl <| o_aloadN j (y d9_8) rfl rfl <| o_iconstV j 1 (y d9_9) rfl <| k) ?_
  refine cS [(.int 1), (.ref ba), (.int 1)] [] 0 X1 hx hZ hown (w 63 rfl) (w 64 rfl) (w 7 rfl) (w 65 rfl) (rmE811 l Z a0 hw [] cs u8 ba bk c0 h0 n0 Z0 H0 pr1 pr2 H3) e1 hml pd_oBaBZcaB (y d9_10) (fun v2 T2 L2 hQ2 X2 => ?_)
  obtain ⟨r_2, rk_2, rfl, N2a, K2, Q2_0, Q2_1⟩ := hQ2
  have N2 := Fr.app (Fr.nil n0) N2a
  have e2 : T2.heap = T2.heap := rfl
  have P2 : Keep h0 T2.heap [] := ((Keep.refl h0 []).trans K2 all0)
  have GK2_r : h0.size ≤ r_2 := Nat.le_trans (Keep.refl h0 []).1 Q2_1
  have ne2_ba_r : ba ≠ r_2 := Nat.ne_of_lt (Nat.lt_of_lt_of_le pr2.lt Q2_1)
  exact rA X2 hx Bd rfl rfl rfl (y d9_13) e2 ⟨r_2, rk_2, rfl, N2, P2, Q2_0, GK2_r⟩

abbrev R_5_2_5_86 : Room := ({ frames := 5, cells := 2, slots := 5, locals := 86 } : Room)
def QGB11 (Z : State) (cs : Int32) (u8 : Addr) (sa : Addr) (ba : Addr) (bk : ClassId) (c0 : Int32) (h0 : Heap) (n0 : Nat) (v : Option Value) (h : Heap) (L : List Loc) : Prop := ∃ r : Addr, ∃ rk : ClassId, v = some (.ref r) ∧ Fr n0 L ∧ Keep h0 h [] ∧ Arv Z h r rk .byte (own_ln (own_put c0)) (own_vs (own_put c0)) (.int 0) ∧ h0.size ≤ r
theorem rmGB11 (l : Launch) (Z : State) (a0 : Array Value) (hw : HW a0 Z) (ws : List Jvm.Cond) (cs : Int32) (u8 : Addr) (sa : Addr) (ba : Addr) (bk : ClassId) (c0 : Int32) (h0 : Heap) (n0 : Nat) (Z0 : n0 ≤ h0.size) (H0 : OSt Z cs u8) (pr1 : Old Z n0 h0) (pr2 : Arv Z h0 ba bk .byte (2 : Int32) [(.int (own_lo c0)), (.int (own_hi c0))] (.int 0)) (pr3 : Fld Z h0 sa "java/lang/String" "coder" "B" (.int 1)) (pr4 : Fld Z h0 sa "java/lang/String" "value" "[B" (.ref ba)) (pr5 : Exa Z h0 sa "java/lang/String") (H6 : OCh c0) :
    MF l Z ⟨"java/lang/String", "getBytes", "(Ljava/nio/charset/Charset;)[B"⟩ jdk_42_method_64_code 2 (some (.array .byte)) ws R_5_2_5_86 #[(.ref sa), (.ref u8)] h0 (QGB11 Z cs u8 sa ba bk c0 h0 n0) := by
  refine og_start (plainFor_of_name pn_java_lang_String) fun p e s m below meth c s₁ Bd hx hby hml hZ hown hnm X0 e0 => ?_
  have y := @hb _ _ hby
  have w := @wd _ _ hw
  refine og (fun t k => castTop (ef8 m sa u8) k) ?_
  refine og2 X0 hx (fun j _ k => o_aloadN j (y d7_0) rfl rfl <| o_ifnonnullYes j (pc' := 12) (y d7_1) <| o_aloadN j (y d7_12) rfl rfl <| o_aloadN j (y d7_13) rfl rfl <| k) ?_
  refine cV sa [] [(.ref u8)] 1 X0 hx hZ hown (w 52 rfl) (w 53 rfl) (w 55 rfl) (w 54 rfl) (w 7 rfl) (w 56 rfl) (rmCO1 l Z a0 hw [] cs u8 sa h0 n0 Z0 H0 pr1 pr3) e0 pr5 hml pd_ocB (y d7_14) (fun v1 T1 L1 hQ1 X1 => ?_)
  obtain ⟨rfl, N1a, eh1⟩ := hQ1
  have N1 := Fr.app (Fr.nil n0) N1a
  have e1 : T1.heap = h0 := eh1
  refine og2 X1 hx (fun j _ k => o_aloadN j (y d7_17) rfl rfl <| k) ?_
  refine g_getF X1 hx hZ hown (w 25 rfl) e1 pr4 (y d7_18) (fun T2 X2 e2 => ?_)
  refine cS [(.ref u8), (.int 1), (.ref ba)] [] 0 X2 hx hZ hown (w 58 rfl) (w 59 rfl) (w 7 rfl) (w 60 rfl) (rmEN11 l Z a0 hw [] cs u8 ba bk c0 h0 n0 Z0 H0 pr1 pr2 H6) e2 hml pd_oLjava_nio_charset_CharsetsBaBcaB (y d7_21) (fun v3 T3 L3 hQ3 X3 => ?_)
  obtain ⟨r_3, rk_3, rfl, N3a, K3, Q3_0, Q3_1⟩ := hQ3
  have N3 := Fr.app N1 N3a
  have e3 : T3.heap = T3.heap := rfl
  have P3 : Keep h0 T3.heap [] := ((Keep.refl h0 []).trans K3 all0)
  have GK3_r : h0.size ≤ r_3 := Nat.le_trans (Keep.refl h0 []).1 Q3_1
  have ne3_ba_r : ba ≠ r_3 := Nat.ne_of_lt (Nat.lt_of_lt_of_le pr2.lt Q3_1)
  have ne3_sa_r : sa ≠ r_3 := Nat.ne_of_lt (Nat.lt_of_lt_of_le pr3.lt Q3_1)
  exact rA X3 hx Bd rfl rfl rfl (y d7_24) e3 ⟨r_3, rk_3, rfl, N3, P3, Q3_0, GK3_r⟩

abbrev R_6_4_21_99 : Room := ({ frames := 6, cells := 4, slots := 21, locals := 99 } : Room)
def QKU11 (Z : State) (cs : Int32) (u8 : Addr) (sa : Addr) (ba : Addr) (bk : ClassId) (c0 : Int32) (h0 : Heap) (n0 : Nat) (v : Option Value) (h : Heap) (L : List Loc) : Prop := ∃ r : Addr, ∃ rk : ClassId, v = some (.ref r) ∧ Fr n0 L ∧ Keep h0 h [] ∧ Arv Z h r rk .byte (own_ln (own_put c0)) (own_vs (own_put c0)) (.int 0) ∧ h0.size ≤ r
theorem rmKU11 (l : Launch) (Z : State) (a0 : Array Value) (hw : HW a0 Z) (ws : List Jvm.Cond) (cs : Int32) (u8 : Addr) (sa : Addr) (ba : Addr) (bk : ClassId) (c0 : Int32) (h0 : Heap) (n0 : Nat) (Z0 : n0 ≤ h0.size) (H0 : OSt Z cs u8) (pr1 : Old Z n0 h0) (pr2 : Arv Z h0 ba bk .byte (2 : Int32) [(.int (own_lo c0)), (.int (own_hi c0))] (.int 0)) (pr3 : Fld Z h0 sa "java/lang/String" "coder" "B" (.int 1)) (pr4 : Fld Z h0 sa "java/lang/String" "value" "[B" (.ref ba)) (pr5 : Exa Z h0 sa "java/lang/String") (H6 : OCh c0) :
    MW l Z ⟨"com/example/unseen/unseen/Keys", "utf8", "(Ljava/lang/CharSequence;)[B"⟩ prog_8_method_2_code 1 (some (.array .byte)) ws R_6_4_21_99 #[(.ref sa)] h0 (QKU11 Z cs u8 sa ba bk c0 h0 n0) := by
  refine og_startW (plainFor_of_name pn_com_example_unseen_unseen_Keys) fun p e s m below meth c s₁ Bd hx hby hml hZ hown hnm X0 e0 hS hkS => ?_
  have y := @hb _ _ hby
  have w := @wd _ _ hw
  refine og (fun t k => castTop (ef9 m sa) k) ?_
  refine og2 X0 hx (fun j _ k => o_aloadN j (y d4_0) rfl rfl <| k) ?_
  obtain ⟨a1, T1, h1, ks1, X1, e1, E1, hS, hkS, hZ, hown, st1⟩ := ldcS X0 hx hZ hown (w 31 rfl) (fun d hd => hw d (own_strAtoms d hd)) e0 hS hkS (g := (mkF m 1 #[.val (.ref sa)] [(.ref sa)])) rfl (y d4_1) (n := 12) (by decide) (by decide) (by decide) (by decide)
  have Z1 : n0 ≤ h1.size := (Nat.le_trans Z0 E1.1)
  have P1 : Keep h0 h1 [] := ((Keep.refl h0 []).ext E1)
  have O2 := (pr1.ext E1)
  have A3 := (pr2.ext E1)
  have F4 := (Fld.ext E1 pr3)
  have F5 := (Fld.ext E1 pr4)
  have E6 := (Exa.ext E1 pr5)
  refine og st1 ?_
  change OG _ _ _ _ (T1.setTop (mkF m 3 #[.val (.ref sa)] [(.ref a1), (.ref sa)]))
  refine cS [(.ref sa), (.ref a1)] [] 0 X1 hx hZ hown (w 32 rfl) (w 33 rfl) (w 34 rfl) (w 35 rfl) (rmRN l Z a0 hw [] sa a1 h1 n0 Z1) e1 hml pd_oLjava_lang_ObjectsLjava_lang_StringscLjava_lang_Objects (y d4_3) (fun v7 T7 L7 hQ7 X7 => ?_)
  obtain ⟨rfl, N7a, eh7⟩ := hQ7
  have N7 := Fr.app (Fr.nil n0) N7a
  have e7 : T7.heap = h1 := eh7
  refine og2 X7 hx (fun j _ k => o_pop j (y d4_6) rfl <| o_aloadN j (y d4_7) rfl rfl <| k) ?_
  refine cF (⟨"java/lang/CharSequence", "toString", "()Ljava/lang/String;"⟩ : MethodName) (⟨"java/lang/String", "toString", "()Ljava/lang/String;"⟩ : MethodName) sa [] [] 0 X7 hx hZ hown (mvT hZ (w 36 rfl)) (mvT hZ (w 37 rfl)) (mvT hZ (w 38 rfl)) (mvT hZ (w 39 rfl)) (mvT hZ (w 40 rfl)) (mvT hZ (w 41 rfl)) (mvT hZ (w 42 rfl)) (mvT hZ (w 43 rfl)) (w 7 rfl) (w 44 rfl) (rmTS l Z a0 hw [] sa h1 n0 Z1) e7 E6 hml pd_ocLjava_lang_Strings (y d4_8) (fun v8 T8 L8 hQ8 X8 => ?_)
  obtain ⟨rfl, N8a, eh8⟩ := hQ8
  have N8 := Fr.app N7 N8a
  have e8 : T8.heap = h1 := eh8
  refine g_getS X8 hx hZ hown (w 45 rfl) e8 (Sta.ext O2.2 H0.2.2.1) (y d4_13) (fun T9 X9 e9 => ?_)
  refine cV sa [(.ref u8)] [] 0 X9 hx hZ hown (w 47 rfl) (w 48 rfl) (w 50 rfl) (w 49 rfl) (w 7 rfl) (w 51 rfl) (rmGB11 l Z a0 hw [] cs u8 sa ba bk c0 h1 n0 Z1 H0 O2 A3 F4 F5 E6 H6) e9 E6 hml pd_oLjava_nio_charset_CharsetscaB (y d4_16) (fun v10 T10 L10 hQ10 X10 => ?_)
  obtain ⟨r_10, rk_10, rfl, N10a, K10, Q10_0, Q10_1⟩ := hQ10
  have N10 := Fr.app N8 N10a
  have e10 : T10.heap = T10.heap := rfl
  have P10 : Keep h0 T10.heap [] := (P1.trans K10 all0)
  have GK10_r : h0.size ≤ r_10 := Nat.le_trans P1.1 Q10_1
  have ne10_ba_r : ba ≠ r_10 := Nat.ne_of_lt (Nat.lt_of_lt_of_le A3.lt Q10_1)
  have ne10_sa_r : sa ≠ r_10 := Nat.ne_of_lt (Nat.lt_of_lt_of_le F4.lt Q10_1)
  exact rAW X10 hx Bd hS (Nat.le_trans hkS K10.1) rfl rfl rfl (y d4_19) e10 ⟨r_10, rk_10, rfl, N10, P10, Q10_0, GK10_r⟩

abbrev R_3_2_11_52 : Room := ({ frames := 3, cells := 2, slots := 11, locals := 52 } : Room)
def QE821 (Z : State) (cs : Int32) (u8 : Addr) (ba : Addr) (bk : ClassId) (c0 : Int32) (c1 : Int32) (h0 : Heap) (n0 : Nat) (v : Option Value) (h : Heap) (L : List Loc) : Prop := ∃ r : Addr, ∃ rk : ClassId, v = some (.ref r) ∧ Fr n0 L ∧ Keep h0 h [] ∧ Arv Z h r rk .byte (own_ln (own_enc2 c0 c1)) (own_vs (own_enc2 c0 c1)) (.int 0) ∧ h0.size ≤ r
theorem rmE821 (l : Launch) (Z : State) (a0 : Array Value) (hw : HW a0 Z) (ws : List Jvm.Cond) (cs : Int32) (u8 : Addr) (ba : Addr) (bk : ClassId) (c0 : Int32) (c1 : Int32) (h0 : Heap) (n0 : Nat) (Z0 : n0 ≤ h0.size) (H0 : OSt Z cs u8) (pr1 : Old Z n0 h0) (pr2 : Arv Z h0 ba bk .byte (4 : Int32) [(.int (own_lo c0)), (.int (own_hi c0)), (.int (own_lo c1)), (.int (own_hi c1))] (.int 0)) (H3 : OCh c0) (H4 : OCh c1) :
    MF l Z ⟨"java/lang/String", "encodeUTF8", "(B[BZ)[B"⟩ jdk_42_method_46_code 9 (some (.array .byte)) ws R_3_2_11_52 #[(.int 1), (.ref ba), (.int 1)] h0 (QE821 Z cs u8 ba bk c0 c1 h0 n0) := by
  refine og_start (plainFor_of_name pn_java_lang_String) fun p e s m below meth c s₁ Bd hx hby hml hZ hown hnm X0 e0 => ?_
  have y := @hb _ _ hby
  have w := @wd _ _ hw
  refine og (fun t k => castTop (ef12 m (1 : Int32) ba (1 : Int32)) k) ?_
  refine og2 X0 hx (fun j _ k => o_iloadN j (y d10_0) rfl <| o_iconstV j 1 (y d10_1) rfl <| o_icmpNo j (y d10_2) (XT.ii_ne_f rfl) <| o_aloadN j (y d10_5) rfl rfl <| o_iloadN j (y d10_6) rfl <| k) ?_
  refine cS [(.ref ba), (.int 1)] [] 0 X0 hx hZ hown (w 115 rfl) (w 116 rfl) (w 7 rfl) (w 117 rfl) (rmEU2 l Z a0 hw [] cs u8 ba bk c0 c1 h0 n0 Z0 H0 pr1 pr2 H3 H4) e0 hml pd_oaBZcaB (y d10_7) (fun v1 T1 L1 hQ1 X1 => ?_)
  obtain ⟨r_1, rk_1, rfl, N1a, K1, Q1_0, Q1_1⟩ := hQ1
  have N1 := Fr.app (Fr.nil n0) N1a
  have e1 : T1.heap = T1.heap := rfl
  have P1 : Keep h0 T1.heap [] := ((Keep.refl h0 []).trans K1 all0)
  have GK1_r : h0.size ≤ r_1 := Nat.le_trans (Keep.refl h0 []).1 Q1_1
  have ne1_ba_r : ba ≠ r_1 := Nat.ne_of_lt (Nat.lt_of_lt_of_le pr2.lt Q1_1)
  exact rA X1 hx Bd rfl rfl rfl (y d10_10) e1 ⟨r_1, rk_1, rfl, N1, P1, Q1_0, GK1_r⟩

abbrev R_4_2_11_72 : Room := ({ frames := 4, cells := 2, slots := 11, locals := 72 } : Room)
def QEN21 (Z : State) (cs : Int32) (u8 : Addr) (ba : Addr) (bk : ClassId) (c0 : Int32) (c1 : Int32) (h0 : Heap) (n0 : Nat) (v : Option Value) (h : Heap) (L : List Loc) : Prop := ∃ r : Addr, ∃ rk : ClassId, v = some (.ref r) ∧ Fr n0 L ∧ Keep h0 h [] ∧ Arv Z h r rk .byte (own_ln (own_enc2 c0 c1)) (own_vs (own_enc2 c0 c1)) (.int 0) ∧ h0.size ≤ r
theorem rmEN21 (l : Launch) (Z : State) (a0 : Array Value) (hw : HW a0 Z) (ws : List Jvm.Cond) (cs : Int32) (u8 : Addr) (ba : Addr) (bk : ClassId) (c0 : Int32) (c1 : Int32) (h0 : Heap) (n0 : Nat) (Z0 : n0 ≤ h0.size) (H0 : OSt Z cs u8) (pr1 : Old Z n0 h0) (pr2 : Arv Z h0 ba bk .byte (4 : Int32) [(.int (own_lo c0)), (.int (own_hi c0)), (.int (own_lo c1)), (.int (own_hi c1))] (.int 0)) (H3 : OCh c0) (H4 : OCh c1) :
    MF l Z ⟨"java/lang/String", "encode", "(Ljava/nio/charset/Charset;B[B)[B"⟩ jdk_42_method_18_code 3 (some (.array .byte)) ws R_4_2_11_72 #[(.ref u8), (.int 1), (.ref ba)] h0 (QEN21 Z cs u8 ba bk c0 c1 h0 n0) := by
  refine og_start (plainFor_of_name pn_java_lang_String) fun p e s m below meth c s₁ Bd hx hby hml hZ hown hnm X0 e0 => ?_
  have y := @hb _ _ hby
  have w := @wd _ _ hw
  refine og (fun t k => castTop (ef13 m u8 (1 : Int32) ba) k) ?_
  refine og2 X0 hx (fun j _ k => o_aloadN j (y d9_0) rfl rfl <| k) ?_
  refine g_getS X0 hx hZ hown (w 61 rfl) e0 (Sta.ext pr1.2 H0.2.2.2.1) (y d9_1) (fun T1 X1 e1 => ?_)
  refine og2 X1 hx (fun j _ k => o_acmpNo j (y d9_4) rfl rfl (XT.aa_ne_f rfl) <| o_iloadN j (y d9_7) rfl <| o_aloadN j (y d9_8) rfl rfl <| o_iconstV j 1 (y d9_9) rfl <| k) ?_
  refine cS [(.int 1), (.ref ba), (.int 1)] [] 0 X1 hx hZ hown (w 63 rfl) (w 64 rfl) (w 7 rfl) (w 65 rfl) (rmE821 l Z a0 hw [] cs u8 ba bk c0 c1 h0 n0 Z0 H0 pr1 pr2 H3 H4) e1 hml pd_oBaBZcaB (y d9_10) (fun v2 T2 L2 hQ2 X2 => ?_)
  obtain ⟨r_2, rk_2, rfl, N2a, K2, Q2_0, Q2_1⟩ := hQ2
  have N2 := Fr.app (Fr.nil n0) N2a
  have e2 : T2.heap = T2.heap := rfl
  have P2 : Keep h0 T2.heap [] := ((Keep.refl h0 []).trans K2 all0)
  have GK2_r : h0.size ≤ r_2 := Nat.le_trans (Keep.refl h0 []).1 Q2_1
  have ne2_ba_r : ba ≠ r_2 := Nat.ne_of_lt (Nat.lt_of_lt_of_le pr2.lt Q2_1)
  exact rA X2 hx Bd rfl rfl rfl (y d9_13) e2 ⟨r_2, rk_2, rfl, N2, P2, Q2_0, GK2_r⟩

abbrev R_5_2_11_86 : Room := ({ frames := 5, cells := 2, slots := 11, locals := 86 } : Room)
def QGB21 (Z : State) (cs : Int32) (u8 : Addr) (sa : Addr) (ba : Addr) (bk : ClassId) (c0 : Int32) (c1 : Int32) (h0 : Heap) (n0 : Nat) (v : Option Value) (h : Heap) (L : List Loc) : Prop := ∃ r : Addr, ∃ rk : ClassId, v = some (.ref r) ∧ Fr n0 L ∧ Keep h0 h [] ∧ Arv Z h r rk .byte (own_ln (own_enc2 c0 c1)) (own_vs (own_enc2 c0 c1)) (.int 0) ∧ h0.size ≤ r
theorem rmGB21 (l : Launch) (Z : State) (a0 : Array Value) (hw : HW a0 Z) (ws : List Jvm.Cond) (cs : Int32) (u8 : Addr) (sa : Addr) (ba : Addr) (bk : ClassId) (c0 : Int32) (c1 : Int32) (h0 : Heap) (n0 : Nat) (Z0 : n0 ≤ h0.size) (H0 : OSt Z cs u8) (pr1 : Old Z n0 h0) (pr2 : Arv Z h0 ba bk .byte (4 : Int32) [(.int (own_lo c0)), (.int (own_hi c0)), (.int (own_lo c1)), (.int (own_hi c1))] (.int 0)) (pr3 : Fld Z h0 sa "java/lang/String" "coder" "B" (.int 1)) (pr4 : Fld Z h0 sa "java/lang/String" "value" "[B" (.ref ba)) (pr5 : Exa Z h0 sa "java/lang/String") (H6 : OCh c0) (H7 : OCh c1) :
    MF l Z ⟨"java/lang/String", "getBytes", "(Ljava/nio/charset/Charset;)[B"⟩ jdk_42_method_64_code 2 (some (.array .byte)) ws R_5_2_11_86 #[(.ref sa), (.ref u8)] h0 (QGB21 Z cs u8 sa ba bk c0 c1 h0 n0) := by
  refine og_start (plainFor_of_name pn_java_lang_String) fun p e s m below meth c s₁ Bd hx hby hml hZ hown hnm X0 e0 => ?_
  have y := @hb _ _ hby
  have w := @wd _ _ hw
  refine og (fun t k => castTop (ef8 m sa u8) k) ?_
  refine og2 X0 hx (fun j _ k => o_aloadN j (y d7_0) rfl rfl <| o_ifnonnullYes j (pc' := 12) (y d7_1) <| o_aloadN j (y d7_12) rfl rfl <| o_aloadN j (y d7_13) rfl rfl <| k) ?_
  refine cV sa [] [(.ref u8)] 1 X0 hx hZ hown (w 52 rfl) (w 53 rfl) (w 55 rfl) (w 54 rfl) (w 7 rfl) (w 56 rfl) (rmCO1 l Z a0 hw [] cs u8 sa h0 n0 Z0 H0 pr1 pr3) e0 pr5 hml pd_ocB (y d7_14) (fun v1 T1 L1 hQ1 X1 => ?_)
  obtain ⟨rfl, N1a, eh1⟩ := hQ1
  have N1 := Fr.app (Fr.nil n0) N1a
  have e1 : T1.heap = h0 := eh1
  refine og2 X1 hx (fun j _ k => o_aloadN j (y d7_17) rfl rfl <| k) ?_
  refine g_getF X1 hx hZ hown (w 25 rfl) e1 pr4 (y d7_18) (fun T2 X2 e2 => ?_)
  refine cS [(.ref u8), (.int 1), (.ref ba)] [] 0 X2 hx hZ hown (w 58 rfl) (w 59 rfl) (w 7 rfl) (w 60 rfl) (rmEN21 l Z a0 hw [] cs u8 ba bk c0 c1 h0 n0 Z0 H0 pr1 pr2 H6 H7) e2 hml pd_oLjava_nio_charset_CharsetsBaBcaB (y d7_21) (fun v3 T3 L3 hQ3 X3 => ?_)
  obtain ⟨r_3, rk_3, rfl, N3a, K3, Q3_0, Q3_1⟩ := hQ3
  have N3 := Fr.app N1 N3a
  have e3 : T3.heap = T3.heap := rfl
  have P3 : Keep h0 T3.heap [] := ((Keep.refl h0 []).trans K3 all0)
  have GK3_r : h0.size ≤ r_3 := Nat.le_trans (Keep.refl h0 []).1 Q3_1
  have ne3_ba_r : ba ≠ r_3 := Nat.ne_of_lt (Nat.lt_of_lt_of_le pr2.lt Q3_1)
  have ne3_sa_r : sa ≠ r_3 := Nat.ne_of_lt (Nat.lt_of_lt_of_le pr3.lt Q3_1)
  exact rA X3 hx Bd rfl rfl rfl (y d7_24) e3 ⟨r_3, rk_3, rfl, N3, P3, Q3_0, GK3_r⟩

abbrev R_6_4_27_99 : Room := ({ frames := 6, cells := 4, slots := 27, locals := 99 } : Room)
def QKU21 (Z : State) (cs : Int32) (u8 : Addr) (sa : Addr) (ba : Addr) (bk : ClassId) (c0 : Int32) (c1 : Int32) (h0 : Heap) (n0 : Nat) (v : Option Value) (h : Heap) (L : List Loc) : Prop := ∃ r : Addr, ∃ rk : ClassId, v = some (.ref r) ∧ Fr n0 L ∧ Keep h0 h [] ∧ Arv Z h r rk .byte (own_ln (own_enc2 c0 c1)) (own_vs (own_enc2 c0 c1)) (.int 0) ∧ h0.size ≤ r
theorem rmKU21 (l : Launch) (Z : State) (a0 : Array Value) (hw : HW a0 Z) (ws : List Jvm.Cond) (cs : Int32) (u8 : Addr) (sa : Addr) (ba : Addr) (bk : ClassId) (c0 : Int32) (c1 : Int32) (h0 : Heap) (n0 : Nat) (Z0 : n0 ≤ h0.size) (H0 : OSt Z cs u8) (pr1 : Old Z n0 h0) (pr2 : Arv Z h0 ba bk .byte (4 : Int32) [(.int (own_lo c0)), (.int (own_hi c0)), (.int (own_lo c1)), (.int (own_hi c1))] (.int 0)) (pr3 : Fld Z h0 sa "java/lang/String" "coder" "B" (.int 1)) (pr4 : Fld Z h0 sa "java/lang/String" "value" "[B" (.ref ba)) (pr5 : Exa Z h0 sa "java/lang/String") (H6 : OCh c0) (H7 : OCh c1) :
    MW l Z ⟨"com/example/unseen/unseen/Keys", "utf8", "(Ljava/lang/CharSequence;)[B"⟩ prog_8_method_2_code 1 (some (.array .byte)) ws R_6_4_27_99 #[(.ref sa)] h0 (QKU21 Z cs u8 sa ba bk c0 c1 h0 n0) := by
  refine og_startW (plainFor_of_name pn_com_example_unseen_unseen_Keys) fun p e s m below meth c s₁ Bd hx hby hml hZ hown hnm X0 e0 hS hkS => ?_
  have y := @hb _ _ hby
  have w := @wd _ _ hw
  refine og (fun t k => castTop (ef9 m sa) k) ?_
  refine og2 X0 hx (fun j _ k => o_aloadN j (y d4_0) rfl rfl <| k) ?_
  obtain ⟨a1, T1, h1, ks1, X1, e1, E1, hS, hkS, hZ, hown, st1⟩ := ldcS X0 hx hZ hown (w 31 rfl) (fun d hd => hw d (own_strAtoms d hd)) e0 hS hkS (g := (mkF m 1 #[.val (.ref sa)] [(.ref sa)])) rfl (y d4_1) (n := 12) (by decide) (by decide) (by decide) (by decide)
  have Z1 : n0 ≤ h1.size := (Nat.le_trans Z0 E1.1)
  have P1 : Keep h0 h1 [] := ((Keep.refl h0 []).ext E1)
  have O2 := (pr1.ext E1)
  have A3 := (pr2.ext E1)
  have F4 := (Fld.ext E1 pr3)
  have F5 := (Fld.ext E1 pr4)
  have E6 := (Exa.ext E1 pr5)
  refine og st1 ?_
  change OG _ _ _ _ (T1.setTop (mkF m 3 #[.val (.ref sa)] [(.ref a1), (.ref sa)]))
  refine cS [(.ref sa), (.ref a1)] [] 0 X1 hx hZ hown (w 32 rfl) (w 33 rfl) (w 34 rfl) (w 35 rfl) (rmRN l Z a0 hw [] sa a1 h1 n0 Z1) e1 hml pd_oLjava_lang_ObjectsLjava_lang_StringscLjava_lang_Objects (y d4_3) (fun v7 T7 L7 hQ7 X7 => ?_)
  obtain ⟨rfl, N7a, eh7⟩ := hQ7
  have N7 := Fr.app (Fr.nil n0) N7a
  have e7 : T7.heap = h1 := eh7
  refine og2 X7 hx (fun j _ k => o_pop j (y d4_6) rfl <| o_aloadN j (y d4_7) rfl rfl <| k) ?_
  refine cF (⟨"java/lang/CharSequence", "toString", "()Ljava/lang/String;"⟩ : MethodName) (⟨"java/lang/String", "toString", "()Ljava/lang/String;"⟩ : MethodName) sa [] [] 0 X7 hx hZ hown (mvT hZ (w 36 rfl)) (mvT hZ (w 37 rfl)) (mvT hZ (w 38 rfl)) (mvT hZ (w 39 rfl)) (mvT hZ (w 40 rfl)) (mvT hZ (w 41 rfl)) (mvT hZ (w 42 rfl)) (mvT hZ (w 43 rfl)) (w 7 rfl) (w 44 rfl) (rmTS l Z a0 hw [] sa h1 n0 Z1) e7 E6 hml pd_ocLjava_lang_Strings (y d4_8) (fun v8 T8 L8 hQ8 X8 => ?_)
  obtain ⟨rfl, N8a, eh8⟩ := hQ8
  have N8 := Fr.app N7 N8a
  have e8 : T8.heap = h1 := eh8
  refine g_getS X8 hx hZ hown (w 45 rfl) e8 (Sta.ext O2.2 H0.2.2.1) (y d4_13) (fun T9 X9 e9 => ?_)
  refine cV sa [(.ref u8)] [] 0 X9 hx hZ hown (w 47 rfl) (w 48 rfl) (w 50 rfl) (w 49 rfl) (w 7 rfl) (w 51 rfl) (rmGB21 l Z a0 hw [] cs u8 sa ba bk c0 c1 h1 n0 Z1 H0 O2 A3 F4 F5 E6 H6 H7) e9 E6 hml pd_oLjava_nio_charset_CharsetscaB (y d4_16) (fun v10 T10 L10 hQ10 X10 => ?_)
  obtain ⟨r_10, rk_10, rfl, N10a, K10, Q10_0, Q10_1⟩ := hQ10
  have N10 := Fr.app N8 N10a
  have e10 : T10.heap = T10.heap := rfl
  have P10 : Keep h0 T10.heap [] := (P1.trans K10 all0)
  have GK10_r : h0.size ≤ r_10 := Nat.le_trans P1.1 Q10_1
  have ne10_ba_r : ba ≠ r_10 := Nat.ne_of_lt (Nat.lt_of_lt_of_le A3.lt Q10_1)
  have ne10_sa_r : sa ≠ r_10 := Nat.ne_of_lt (Nat.lt_of_lt_of_le F4.lt Q10_1)
  exact rAW X10 hx Bd hS (Nat.le_trans hkS K10.1) rfl rfl rfl (y d4_19) e10 ⟨r_10, rk_10, rfl, N10, P10, Q10_0, GK10_r⟩

abbrev k26 := method_4_code
theorem d28_0 : decode k26 0 = .ok (.iload_n 2, 1) := by decide +kernel
theorem d28_1 : decode k26 1 = .ok (.sipush 128, 3) := by decide +kernel
theorem d28_4 : decode k26 4 = .ok (.if_icmp .ge 12, 3) := by decide +kernel
theorem d28_7 : decode k26 7 = .ok (.aload_n 0, 1) := by decide +kernel
theorem d28_8 : decode k26 8 = .ok (.iload_n 1, 1) := by decide +kernel
theorem d28_9 : decode k26 9 = .ok (.iload_n 2, 1) := by decide +kernel
theorem d28_10 : decode k26 10 = .ok (.i2b, 1) := by decide +kernel
theorem d28_11 : decode k26 11 = .ok (.bastore, 1) := by decide +kernel
theorem d28_12 : decode k26 12 = .ok (.iload_n 1, 1) := by decide +kernel
theorem d28_13 : decode k26 13 = .ok (.iconst 1, 1) := by decide +kernel
theorem d28_14 : decode k26 14 = .ok (.iadd, 1) := by decide +kernel
theorem d28_15 : decode k26 15 = .ok (.ireturn, 1) := by decide +kernel
theorem d28_16 : decode k26 16 = .ok (.iload_n 2, 1) := by decide +kernel
theorem d28_17 : decode k26 17 = .ok (.sipush 2048, 3) := by decide +kernel
theorem d28_20 : decode k26 20 = .ok (.if_icmp .ge 33, 3) := by decide +kernel
theorem d28_23 : decode k26 23 = .ok (.aload_n 0, 1) := by decide +kernel
theorem d28_24 : decode k26 24 = .ok (.iload_n 1, 1) := by decide +kernel
theorem d28_25 : decode k26 25 = .ok (.sipush 192, 3) := by decide +kernel
theorem d28_28 : decode k26 28 = .ok (.iload_n 2, 1) := by decide +kernel
theorem d28_29 : decode k26 29 = .ok (.bipush 6, 2) := by decide +kernel
theorem d28_31 : decode k26 31 = .ok (.ishr, 1) := by decide +kernel
theorem d28_32 : decode k26 32 = .ok (.ior, 1) := by decide +kernel
theorem d28_33 : decode k26 33 = .ok (.i2b, 1) := by decide +kernel
theorem d28_34 : decode k26 34 = .ok (.bastore, 1) := by decide +kernel
theorem d28_35 : decode k26 35 = .ok (.aload_n 0, 1) := by decide +kernel
theorem d28_36 : decode k26 36 = .ok (.iload_n 1, 1) := by decide +kernel
theorem d28_37 : decode k26 37 = .ok (.iconst 1, 1) := by decide +kernel
theorem d28_38 : decode k26 38 = .ok (.iadd, 1) := by decide +kernel
theorem d28_39 : decode k26 39 = .ok (.sipush 128, 3) := by decide +kernel
theorem d28_42 : decode k26 42 = .ok (.iload_n 2, 1) := by decide +kernel
theorem d28_43 : decode k26 43 = .ok (.bipush 63, 2) := by decide +kernel
theorem d28_45 : decode k26 45 = .ok (.iand, 1) := by decide +kernel
theorem d28_46 : decode k26 46 = .ok (.ior, 1) := by decide +kernel
theorem d28_47 : decode k26 47 = .ok (.i2b, 1) := by decide +kernel
theorem d28_48 : decode k26 48 = .ok (.bastore, 1) := by decide +kernel
theorem d28_49 : decode k26 49 = .ok (.iload_n 1, 1) := by decide +kernel
theorem d28_50 : decode k26 50 = .ok (.iconst 2, 1) := by decide +kernel
theorem d28_51 : decode k26 51 = .ok (.iadd, 1) := by decide +kernel
theorem d28_52 : decode k26 52 = .ok (.ireturn, 1) := by decide +kernel
theorem d28_53 : decode k26 53 = .ok (.iload_n 2, 1) := by decide +kernel
theorem d28_54 : decode k26 54 = .ok (.ldc 24, 2) := by decide +kernel
theorem d28_56 : decode k26 56 = .ok (.if_icmp .lt 18, 3) := by decide +kernel
theorem d28_59 : decode k26 59 = .ok (.iload_n 2, 1) := by decide +kernel
theorem d28_60 : decode k26 60 = .ok (.ldc 27, 2) := by decide +kernel
theorem d28_62 : decode k26 62 = .ok (.if_icmp .gt 12, 3) := by decide +kernel
theorem d28_65 : decode k26 65 = .ok (.aload_n 0, 1) := by decide +kernel
theorem d28_66 : decode k26 66 = .ok (.iload_n 1, 1) := by decide +kernel
theorem d28_67 : decode k26 67 = .ok (.bipush 63, 2) := by decide +kernel
theorem d28_69 : decode k26 69 = .ok (.bastore, 1) := by decide +kernel
theorem d28_70 : decode k26 70 = .ok (.iload_n 1, 1) := by decide +kernel
theorem d28_71 : decode k26 71 = .ok (.iconst 1, 1) := by decide +kernel
theorem d28_72 : decode k26 72 = .ok (.iadd, 1) := by decide +kernel
theorem d28_73 : decode k26 73 = .ok (.ireturn, 1) := by decide +kernel
theorem d28_74 : decode k26 74 = .ok (.iload_n 2, 1) := by decide +kernel
theorem d28_75 : decode k26 75 = .ok (.ldc 28, 2) := by decide +kernel
theorem d28_77 : decode k26 77 = .ok (.if_icmp .ge 50, 3) := by decide +kernel
theorem d28_80 : decode k26 80 = .ok (.aload_n 0, 1) := by decide +kernel
theorem d28_81 : decode k26 81 = .ok (.iload_n 1, 1) := by decide +kernel
theorem d28_82 : decode k26 82 = .ok (.sipush 224, 3) := by decide +kernel
theorem d28_85 : decode k26 85 = .ok (.iload_n 2, 1) := by decide +kernel
theorem d28_86 : decode k26 86 = .ok (.bipush 12, 2) := by decide +kernel
theorem d28_88 : decode k26 88 = .ok (.ishr, 1) := by decide +kernel
theorem d28_89 : decode k26 89 = .ok (.ior, 1) := by decide +kernel
theorem d28_90 : decode k26 90 = .ok (.i2b, 1) := by decide +kernel
theorem d28_91 : decode k26 91 = .ok (.bastore, 1) := by decide +kernel
theorem d28_92 : decode k26 92 = .ok (.aload_n 0, 1) := by decide +kernel
theorem d28_93 : decode k26 93 = .ok (.iload_n 1, 1) := by decide +kernel
theorem d28_94 : decode k26 94 = .ok (.iconst 1, 1) := by decide +kernel
theorem d28_95 : decode k26 95 = .ok (.iadd, 1) := by decide +kernel
theorem d28_96 : decode k26 96 = .ok (.sipush 128, 3) := by decide +kernel
theorem d28_99 : decode k26 99 = .ok (.iload_n 2, 1) := by decide +kernel
theorem d28_100 : decode k26 100 = .ok (.bipush 6, 2) := by decide +kernel
theorem d28_102 : decode k26 102 = .ok (.ishr, 1) := by decide +kernel
theorem d28_103 : decode k26 103 = .ok (.bipush 63, 2) := by decide +kernel
theorem d28_105 : decode k26 105 = .ok (.iand, 1) := by decide +kernel
theorem d28_106 : decode k26 106 = .ok (.ior, 1) := by decide +kernel
theorem d28_107 : decode k26 107 = .ok (.i2b, 1) := by decide +kernel
theorem d28_108 : decode k26 108 = .ok (.bastore, 1) := by decide +kernel
theorem d28_109 : decode k26 109 = .ok (.aload_n 0, 1) := by decide +kernel
theorem d28_110 : decode k26 110 = .ok (.iload_n 1, 1) := by decide +kernel
theorem d28_111 : decode k26 111 = .ok (.iconst 2, 1) := by decide +kernel
theorem d28_112 : decode k26 112 = .ok (.iadd, 1) := by decide +kernel
theorem d28_113 : decode k26 113 = .ok (.sipush 128, 3) := by decide +kernel
theorem d28_116 : decode k26 116 = .ok (.iload_n 2, 1) := by decide +kernel
theorem d28_117 : decode k26 117 = .ok (.bipush 63, 2) := by decide +kernel
theorem d28_119 : decode k26 119 = .ok (.iand, 1) := by decide +kernel
theorem d28_120 : decode k26 120 = .ok (.ior, 1) := by decide +kernel
theorem d28_121 : decode k26 121 = .ok (.i2b, 1) := by decide +kernel
theorem d28_122 : decode k26 122 = .ok (.bastore, 1) := by decide +kernel
theorem d28_123 : decode k26 123 = .ok (.iload_n 1, 1) := by decide +kernel
theorem d28_124 : decode k26 124 = .ok (.iconst 3, 1) := by decide +kernel
theorem d28_125 : decode k26 125 = .ok (.iadd, 1) := by decide +kernel
theorem d28_126 : decode k26 126 = .ok (.ireturn, 1) := by decide +kernel
theorem d28_127 : decode k26 127 = .ok (.aload_n 0, 1) := by decide +kernel
theorem d28_128 : decode k26 128 = .ok (.iload_n 1, 1) := by decide +kernel
theorem d28_129 : decode k26 129 = .ok (.sipush 240, 3) := by decide +kernel
theorem d28_132 : decode k26 132 = .ok (.iload_n 2, 1) := by decide +kernel
theorem d28_133 : decode k26 133 = .ok (.bipush 18, 2) := by decide +kernel
theorem d28_135 : decode k26 135 = .ok (.ishr, 1) := by decide +kernel
theorem d28_136 : decode k26 136 = .ok (.ior, 1) := by decide +kernel
theorem d28_137 : decode k26 137 = .ok (.i2b, 1) := by decide +kernel
theorem d28_138 : decode k26 138 = .ok (.bastore, 1) := by decide +kernel
theorem d28_139 : decode k26 139 = .ok (.aload_n 0, 1) := by decide +kernel
theorem d28_140 : decode k26 140 = .ok (.iload_n 1, 1) := by decide +kernel
theorem d28_141 : decode k26 141 = .ok (.iconst 1, 1) := by decide +kernel
theorem d28_142 : decode k26 142 = .ok (.iadd, 1) := by decide +kernel
theorem d28_143 : decode k26 143 = .ok (.sipush 128, 3) := by decide +kernel
theorem d28_146 : decode k26 146 = .ok (.iload_n 2, 1) := by decide +kernel
theorem d28_147 : decode k26 147 = .ok (.bipush 12, 2) := by decide +kernel
theorem d28_149 : decode k26 149 = .ok (.ishr, 1) := by decide +kernel
theorem d28_150 : decode k26 150 = .ok (.bipush 63, 2) := by decide +kernel
theorem d28_152 : decode k26 152 = .ok (.iand, 1) := by decide +kernel
theorem d28_153 : decode k26 153 = .ok (.ior, 1) := by decide +kernel
theorem d28_154 : decode k26 154 = .ok (.i2b, 1) := by decide +kernel
theorem d28_155 : decode k26 155 = .ok (.bastore, 1) := by decide +kernel
theorem d28_156 : decode k26 156 = .ok (.aload_n 0, 1) := by decide +kernel
theorem d28_157 : decode k26 157 = .ok (.iload_n 1, 1) := by decide +kernel
theorem d28_158 : decode k26 158 = .ok (.iconst 2, 1) := by decide +kernel
theorem d28_159 : decode k26 159 = .ok (.iadd, 1) := by decide +kernel
theorem d28_160 : decode k26 160 = .ok (.sipush 128, 3) := by decide +kernel
theorem d28_163 : decode k26 163 = .ok (.iload_n 2, 1) := by decide +kernel
theorem d28_164 : decode k26 164 = .ok (.bipush 6, 2) := by decide +kernel
theorem d28_166 : decode k26 166 = .ok (.ishr, 1) := by decide +kernel
theorem d28_167 : decode k26 167 = .ok (.bipush 63, 2) := by decide +kernel
theorem d28_169 : decode k26 169 = .ok (.iand, 1) := by decide +kernel
theorem d28_170 : decode k26 170 = .ok (.ior, 1) := by decide +kernel
theorem d28_171 : decode k26 171 = .ok (.i2b, 1) := by decide +kernel
theorem d28_172 : decode k26 172 = .ok (.bastore, 1) := by decide +kernel
theorem d28_173 : decode k26 173 = .ok (.aload_n 0, 1) := by decide +kernel
theorem d28_174 : decode k26 174 = .ok (.iload_n 1, 1) := by decide +kernel
theorem d28_175 : decode k26 175 = .ok (.iconst 3, 1) := by decide +kernel
theorem d28_176 : decode k26 176 = .ok (.iadd, 1) := by decide +kernel
theorem d28_177 : decode k26 177 = .ok (.sipush 128, 3) := by decide +kernel
theorem d28_180 : decode k26 180 = .ok (.iload_n 2, 1) := by decide +kernel
theorem d28_181 : decode k26 181 = .ok (.bipush 63, 2) := by decide +kernel
theorem d28_183 : decode k26 183 = .ok (.iand, 1) := by decide +kernel
theorem d28_184 : decode k26 184 = .ok (.ior, 1) := by decide +kernel
theorem d28_185 : decode k26 185 = .ok (.i2b, 1) := by decide +kernel
theorem d28_186 : decode k26 186 = .ok (.bastore, 1) := by decide +kernel
theorem d28_187 : decode k26 187 = .ok (.iload_n 1, 1) := by decide +kernel
theorem d28_188 : decode k26 188 = .ok (.iconst 4, 1) := by decide +kernel
theorem d28_189 : decode k26 189 = .ok (.iadd, 1) := by decide +kernel
theorem d28_190 : decode k26 190 = .ok (.ireturn, 1) := by decide +kernel
def QPU0 (Z : State) (ea : Addr) (ek : ClassId) (qc : Int32) (h0 : Heap) (n0 : Nat) (v : Option Value) (h : Heap) (L : List Loc) : Prop := v = some (.int (own_ln ([] ++ own_put qc))) ∧ Fr n0 L ∧ Keep h0 h [ea] ∧ Arv Z h ea ek .byte (6 : Int32) (own_e6 ([] ++ own_put qc)) (.int 0)
theorem rmPU0 (l : Launch) (Z : State) (a0 : Array Value) (hw : HW a0 Z) (ws : List Jvm.Cond) (ea : Addr) (ek : ClassId) (qc : Int32) (h0 : Heap) (n0 : Nat) (Z0 : n0 ≤ h0.size) (pr0 : Arv Z h0 ea ek .byte (6 : Int32) [(.int 0), (.int 0), (.int 0), (.int 0), (.int 0), (.int 0)] (.int 0)) (H1 : n0 ≤ ea) :
    MF l Z ⟨"com/example/unseen/unseen/KeysUtf8PinLaw", "put", "([BII)I"⟩ method_4_code 3 (some .int) ws R_0_0_0_0 #[(.ref ea), (.int 0), (.int qc)] h0 (QPU0 Z ea ek qc h0 n0) := by
  refine og_start (plainFor_of_name pn_com_example_unseen_unseen_KeysUtf8PinLaw) fun p e s m below meth c s₁ Bd hx hby hml hZ hown hnm X0 e0 => ?_
  have y := @hb _ _ hby
  have w := @wd _ _ hw
  refine og (fun t k => castTop (ef2 m ea (0 : Int32) qc) k) ?_
  refine og2 X0 hx (fun j _ k => o_iloadN j (y d28_0) rfl <| o_sipushV j 128 (y d28_1) rfl <| k) ?_
  by_cases C1 : qc < (128 : Int32)
  · refine og2 X0 hx (fun j _ k => o_icmpNo j (y d28_4) (XT.ii_ge_f C1) <| o_aloadN j (y d28_7) rfl rfl <| o_iloadN j (y d28_8) rfl <| o_iloadN j (y d28_9) rfl <| o_i2bO j (y d28_10) <| k) ?_
    refine sB (v := own_b qc) 0 X0 hx hZ e0 pr0 (own_nar_b _) (y d28_11) (fun T2 h2 X2 e2 W2 A2 => ?_)
    have N2 := Fr.snoc X2 (Fr.nil n0) H1
    have P2 := (Keep.refl h0 [ea]).wr W2 (Or.inl (List.mem_of_getElem? (i := 0) rfl))
    have A2v : Arv Z h2 ea ek .byte (6 : Int32) [(.int (own_b qc)), (.int 0), (.int 0), (.int 0), (.int 0), (.int 0)] (.int 0) := A2
    refine og2 X2 hx (fun j _ k => o_iloadN j (y d28_12) rfl <| o_iconstV j 1 (y d28_13) rfl <| o_iadd j (y d28_14) <| k) ?_
    rw [(by decide : (0 : Int32) + (1 : Int32) = (1 : Int32))]
    exact rI X2 hx Bd (y d28_15) e2 ⟨(by rw [(own_put1 C1)]; rfl), N2, P2, (by rw [(own_put1 C1)]; exact A2v)⟩
  · refine og2 X0 hx (fun j _ k => o_icmpYes j (pc' := 16) (y d28_4) (XT.ii_ge_t C1) <| o_iloadN j (y d28_16) rfl <| o_sipushV j 2048 (y d28_17) rfl <| k) ?_
    by_cases C3 : qc < (2048 : Int32)
    · refine og2 X0 hx (fun j _ k => o_icmpNo j (y d28_20) (XT.ii_ge_f C3) <| o_aloadN j (y d28_23) rfl rfl <| o_iloadN j (y d28_24) rfl <| o_sipushV j 192 (y d28_25) rfl <| o_iloadN j (y d28_28) rfl <| o_bipushV j 6 (y d28_29) rfl <| o_ishr j (y d28_31) <| o_ior j (y d28_32) <| o_i2bO j (y d28_33) <| k) ?_
      refine sB (v := own_b ((192 : Int32) ||| (qc >>> ((6 : Int32) &&& 31)))) 0 X0 hx hZ e0 pr0 (own_nar_b _) (y d28_34) (fun T4 h4 X4 e4 W4 A4 => ?_)
      have N4 := Fr.snoc X4 (Fr.nil n0) H1
      have P4 := (Keep.refl h0 [ea]).wr W4 (Or.inl (List.mem_of_getElem? (i := 0) rfl))
      have A4v : Arv Z h4 ea ek .byte (6 : Int32) [(.int (own_b ((192 : Int32) ||| (qc >>> ((6 : Int32) &&& 31))))), (.int 0), (.int 0), (.int 0), (.int 0), (.int 0)] (.int 0) := A4
      refine og2 X4 hx (fun j _ k => o_aloadN j (y d28_35) rfl rfl <| o_iloadN j (y d28_36) rfl <| o_iconstV j 1 (y d28_37) rfl <| o_iadd j (y d28_38) <| k) ?_
      rw [(by decide : (0 : Int32) + (1 : Int32) = (1 : Int32))]
      refine og2 X4 hx (fun j _ k => o_sipushV j 128 (y d28_39) rfl <| o_iloadN j (y d28_42) rfl <| o_bipushV j 63 (y d28_43) rfl <| o_iand j (y d28_45) <| o_ior j (y d28_46) <| o_i2bO j (y d28_47) <| k) ?_
      refine sB (v := own_b ((128 : Int32) ||| (qc &&& (63 : Int32)))) 1 X4 hx hZ e4 A4v (own_nar_b _) (y d28_48) (fun T5 h5 X5 e5 W5 A5 => ?_)
      have N5 := Fr.snoc X5 N4 H1
      have P5 := P4.wr W5 (Or.inl (List.mem_of_getElem? (i := 0) rfl))
      have A5v : Arv Z h5 ea ek .byte (6 : Int32) [(.int (own_b ((192 : Int32) ||| (qc >>> ((6 : Int32) &&& 31))))), (.int (own_b ((128 : Int32) ||| (qc &&& (63 : Int32))))), (.int 0), (.int 0), (.int 0), (.int 0)] (.int 0) := A5
      refine og2 X5 hx (fun j _ k => o_iloadN j (y d28_49) rfl <| o_iconstV j 2 (y d28_50) rfl <| o_iadd j (y d28_51) <| k) ?_
      rw [(by decide : (0 : Int32) + (2 : Int32) = (2 : Int32))]
      exact rI X5 hx Bd (y d28_52) e5 ⟨(by rw [(own_put2 C1 C3)]; rfl), N5, P5, (by rw [(own_put2 C1 C3)]; exact A5v)⟩
    · refine og2 X0 hx (fun j _ k => o_icmpYes j (pc' := 53) (y d28_20) (XT.ii_ge_t C3) <| o_iloadN j (y d28_53) rfl <| o_ldcI X0 hx hZ hown (w 85 rfl) (y d28_54) <| k) ?_
      by_cases C6 : qc < (55296 : Int32)
      · refine og2 X0 hx (fun j _ k => o_icmpYes j (pc' := 74) (y d28_56) (XT.ii_lt_t C6) <| o_iloadN j (y d28_74) rfl <| o_ldcI X0 hx hZ hown (w 149 rfl) (y d28_75) <| k) ?_
        by_cases C7 : qc < (65536 : Int32)
        · refine og2 X0 hx (fun j _ k => o_icmpNo j (y d28_77) (XT.ii_ge_f C7) <| o_aloadN j (y d28_80) rfl rfl <| o_iloadN j (y d28_81) rfl <| o_sipushV j 224 (y d28_82) rfl <| o_iloadN j (y d28_85) rfl <| o_bipushV j 12 (y d28_86) rfl <| o_ishr j (y d28_88) <| o_ior j (y d28_89) <| o_i2bO j (y d28_90) <| k) ?_
          refine sB (v := own_b ((224 : Int32) ||| (qc >>> ((12 : Int32) &&& 31)))) 0 X0 hx hZ e0 pr0 (own_nar_b _) (y d28_91) (fun T8 h8 X8 e8 W8 A8 => ?_)
          have N8 := Fr.snoc X8 (Fr.nil n0) H1
          have P8 := (Keep.refl h0 [ea]).wr W8 (Or.inl (List.mem_of_getElem? (i := 0) rfl))
          have A8v : Arv Z h8 ea ek .byte (6 : Int32) [(.int (own_b ((224 : Int32) ||| (qc >>> ((12 : Int32) &&& 31))))), (.int 0), (.int 0), (.int 0), (.int 0), (.int 0)] (.int 0) := A8
          refine og2 X8 hx (fun j _ k => o_aloadN j (y d28_92) rfl rfl <| o_iloadN j (y d28_93) rfl <| o_iconstV j 1 (y d28_94) rfl <| o_iadd j (y d28_95) <| k) ?_
          rw [(by decide : (0 : Int32) + (1 : Int32) = (1 : Int32))]
          refine og2 X8 hx (fun j _ k => o_sipushV j 128 (y d28_96) rfl <| o_iloadN j (y d28_99) rfl <| o_bipushV j 6 (y d28_100) rfl <| o_ishr j (y d28_102) <| o_bipushV j 63 (y d28_103) rfl <| o_iand j (y d28_105) <| o_ior j (y d28_106) <| o_i2bO j (y d28_107) <| k) ?_
          refine sB (v := own_b ((128 : Int32) ||| ((qc >>> ((6 : Int32) &&& 31)) &&& (63 : Int32)))) 1 X8 hx hZ e8 A8v (own_nar_b _) (y d28_108) (fun T9 h9 X9 e9 W9 A9 => ?_)
          have N9 := Fr.snoc X9 N8 H1
          have P9 := P8.wr W9 (Or.inl (List.mem_of_getElem? (i := 0) rfl))
          have A9v : Arv Z h9 ea ek .byte (6 : Int32) [(.int (own_b ((224 : Int32) ||| (qc >>> ((12 : Int32) &&& 31))))), (.int (own_b ((128 : Int32) ||| ((qc >>> ((6 : Int32) &&& 31)) &&& (63 : Int32))))), (.int 0), (.int 0), (.int 0), (.int 0)] (.int 0) := A9
          refine og2 X9 hx (fun j _ k => o_aloadN j (y d28_109) rfl rfl <| o_iloadN j (y d28_110) rfl <| o_iconstV j 2 (y d28_111) rfl <| o_iadd j (y d28_112) <| k) ?_
          rw [(by decide : (0 : Int32) + (2 : Int32) = (2 : Int32))]
          refine og2 X9 hx (fun j _ k => o_sipushV j 128 (y d28_113) rfl <| o_iloadN j (y d28_116) rfl <| o_bipushV j 63 (y d28_117) rfl <| o_iand j (y d28_119) <| o_ior j (y d28_120) <| o_i2bO j (y d28_121) <| k) ?_
          refine sB (v := own_b ((128 : Int32) ||| (qc &&& (63 : Int32)))) 2 X9 hx hZ e9 A9v (own_nar_b _) (y d28_122) (fun T10 h10 X10 e10 W10 A10 => ?_)
          have N10 := Fr.snoc X10 N9 H1
          have P10 := P9.wr W10 (Or.inl (List.mem_of_getElem? (i := 0) rfl))
          have A10v : Arv Z h10 ea ek .byte (6 : Int32) [(.int (own_b ((224 : Int32) ||| (qc >>> ((12 : Int32) &&& 31))))), (.int (own_b ((128 : Int32) ||| ((qc >>> ((6 : Int32) &&& 31)) &&& (63 : Int32))))), (.int (own_b ((128 : Int32) ||| (qc &&& (63 : Int32))))), (.int 0), (.int 0), (.int 0)] (.int 0) := A10
          refine og2 X10 hx (fun j _ k => o_iloadN j (y d28_123) rfl <| o_iconstV j 3 (y d28_124) rfl <| o_iadd j (y d28_125) <| k) ?_
          rw [(by decide : (0 : Int32) + (3 : Int32) = (3 : Int32))]
          exact rI X10 hx Bd (y d28_126) e10 ⟨(by rw [(own_put3 C1 C3 (Or.inl C6) C7)]; rfl), N10, P10, (by rw [(own_put3 C1 C3 (Or.inl C6) C7)]; exact A10v)⟩
        · refine og2 X0 hx (fun j _ k => o_icmpYes j (pc' := 127) (y d28_77) (XT.ii_ge_t C7) <| o_aloadN j (y d28_127) rfl rfl <| o_iloadN j (y d28_128) rfl <| o_sipushV j 240 (y d28_129) rfl <| o_iloadN j (y d28_132) rfl <| o_bipushV j 18 (y d28_133) rfl <| o_ishr j (y d28_135) <| o_ior j (y d28_136) <| o_i2bO j (y d28_137) <| k) ?_
          refine sB (v := own_b ((240 : Int32) ||| (qc >>> ((18 : Int32) &&& 31)))) 0 X0 hx hZ e0 pr0 (own_nar_b _) (y d28_138) (fun T11 h11 X11 e11 W11 A11 => ?_)
          have N11 := Fr.snoc X11 (Fr.nil n0) H1
          have P11 := (Keep.refl h0 [ea]).wr W11 (Or.inl (List.mem_of_getElem? (i := 0) rfl))
          have A11v : Arv Z h11 ea ek .byte (6 : Int32) [(.int (own_b ((240 : Int32) ||| (qc >>> ((18 : Int32) &&& 31))))), (.int 0), (.int 0), (.int 0), (.int 0), (.int 0)] (.int 0) := A11
          refine og2 X11 hx (fun j _ k => o_aloadN j (y d28_139) rfl rfl <| o_iloadN j (y d28_140) rfl <| o_iconstV j 1 (y d28_141) rfl <| o_iadd j (y d28_142) <| k) ?_
          rw [(by decide : (0 : Int32) + (1 : Int32) = (1 : Int32))]
          refine og2 X11 hx (fun j _ k => o_sipushV j 128 (y d28_143) rfl <| o_iloadN j (y d28_146) rfl <| o_bipushV j 12 (y d28_147) rfl <| o_ishr j (y d28_149) <| o_bipushV j 63 (y d28_150) rfl <| o_iand j (y d28_152) <| o_ior j (y d28_153) <| o_i2bO j (y d28_154) <| k) ?_
          refine sB (v := own_b ((128 : Int32) ||| ((qc >>> ((12 : Int32) &&& 31)) &&& (63 : Int32)))) 1 X11 hx hZ e11 A11v (own_nar_b _) (y d28_155) (fun T12 h12 X12 e12 W12 A12 => ?_)
          have N12 := Fr.snoc X12 N11 H1
          have P12 := P11.wr W12 (Or.inl (List.mem_of_getElem? (i := 0) rfl))
          have A12v : Arv Z h12 ea ek .byte (6 : Int32) [(.int (own_b ((240 : Int32) ||| (qc >>> ((18 : Int32) &&& 31))))), (.int (own_b ((128 : Int32) ||| ((qc >>> ((12 : Int32) &&& 31)) &&& (63 : Int32))))), (.int 0), (.int 0), (.int 0), (.int 0)] (.int 0) := A12
          refine og2 X12 hx (fun j _ k => o_aloadN j (y d28_156) rfl rfl <| o_iloadN j (y d28_157) rfl <| o_iconstV j 2 (y d28_158) rfl <| o_iadd j (y d28_159) <| k) ?_
          rw [(by decide : (0 : Int32) + (2 : Int32) = (2 : Int32))]
          refine og2 X12 hx (fun j _ k => o_sipushV j 128 (y d28_160) rfl <| o_iloadN j (y d28_163) rfl <| o_bipushV j 6 (y d28_164) rfl <| o_ishr j (y d28_166) <| o_bipushV j 63 (y d28_167) rfl <| o_iand j (y d28_169) <| o_ior j (y d28_170) <| o_i2bO j (y d28_171) <| k) ?_
          refine sB (v := own_b ((128 : Int32) ||| ((qc >>> ((6 : Int32) &&& 31)) &&& (63 : Int32)))) 2 X12 hx hZ e12 A12v (own_nar_b _) (y d28_172) (fun T13 h13 X13 e13 W13 A13 => ?_)
          have N13 := Fr.snoc X13 N12 H1
          have P13 := P12.wr W13 (Or.inl (List.mem_of_getElem? (i := 0) rfl))
          have A13v : Arv Z h13 ea ek .byte (6 : Int32) [(.int (own_b ((240 : Int32) ||| (qc >>> ((18 : Int32) &&& 31))))), (.int (own_b ((128 : Int32) ||| ((qc >>> ((12 : Int32) &&& 31)) &&& (63 : Int32))))), (.int (own_b ((128 : Int32) ||| ((qc >>> ((6 : Int32) &&& 31)) &&& (63 : Int32))))), (.int 0), (.int 0), (.int 0)] (.int 0) := A13
          refine og2 X13 hx (fun j _ k => o_aloadN j (y d28_173) rfl rfl <| o_iloadN j (y d28_174) rfl <| o_iconstV j 3 (y d28_175) rfl <| o_iadd j (y d28_176) <| k) ?_
          rw [(by decide : (0 : Int32) + (3 : Int32) = (3 : Int32))]
          refine og2 X13 hx (fun j _ k => o_sipushV j 128 (y d28_177) rfl <| o_iloadN j (y d28_180) rfl <| o_bipushV j 63 (y d28_181) rfl <| o_iand j (y d28_183) <| o_ior j (y d28_184) <| o_i2bO j (y d28_185) <| k) ?_
          refine sB (v := own_b ((128 : Int32) ||| (qc &&& (63 : Int32)))) 3 X13 hx hZ e13 A13v (own_nar_b _) (y d28_186) (fun T14 h14 X14 e14 W14 A14 => ?_)
          have N14 := Fr.snoc X14 N13 H1
          have P14 := P13.wr W14 (Or.inl (List.mem_of_getElem? (i := 0) rfl))
          have A14v : Arv Z h14 ea ek .byte (6 : Int32) [(.int (own_b ((240 : Int32) ||| (qc >>> ((18 : Int32) &&& 31))))), (.int (own_b ((128 : Int32) ||| ((qc >>> ((12 : Int32) &&& 31)) &&& (63 : Int32))))), (.int (own_b ((128 : Int32) ||| ((qc >>> ((6 : Int32) &&& 31)) &&& (63 : Int32))))), (.int (own_b ((128 : Int32) ||| (qc &&& (63 : Int32))))), (.int 0), (.int 0)] (.int 0) := A14
          refine og2 X14 hx (fun j _ k => o_iloadN j (y d28_187) rfl <| o_iconstV j 4 (y d28_188) rfl <| o_iadd j (y d28_189) <| k) ?_
          rw [(by decide : (0 : Int32) + (4 : Int32) = (4 : Int32))]
          exact rI X14 hx Bd (y d28_190) e14 ⟨(by rw [(own_put4 C7)]; rfl), N14, P14, (by rw [(own_put4 C7)]; exact A14v)⟩
      · refine og2 X0 hx (fun j _ k => o_icmpNo j (y d28_56) (XT.ii_lt_f C6) <| o_iloadN j (y d28_59) rfl <| o_ldcI X0 hx hZ hown (w 148 rfl) (y d28_60) <| k) ?_
        by_cases C15 : (57343 : Int32) < qc
        · refine og2 X0 hx (fun j _ k => o_icmpYes j (pc' := 74) (y d28_62) (XT.ii_gt_t C15) <| o_iloadN j (y d28_74) rfl <| o_ldcI X0 hx hZ hown (w 149 rfl) (y d28_75) <| k) ?_
          by_cases C16 : qc < (65536 : Int32)
          · refine og2 X0 hx (fun j _ k => o_icmpNo j (y d28_77) (XT.ii_ge_f C16) <| o_aloadN j (y d28_80) rfl rfl <| o_iloadN j (y d28_81) rfl <| o_sipushV j 224 (y d28_82) rfl <| o_iloadN j (y d28_85) rfl <| o_bipushV j 12 (y d28_86) rfl <| o_ishr j (y d28_88) <| o_ior j (y d28_89) <| o_i2bO j (y d28_90) <| k) ?_
            refine sB (v := own_b ((224 : Int32) ||| (qc >>> ((12 : Int32) &&& 31)))) 0 X0 hx hZ e0 pr0 (own_nar_b _) (y d28_91) (fun T17 h17 X17 e17 W17 A17 => ?_)
            have N17 := Fr.snoc X17 (Fr.nil n0) H1
            have P17 := (Keep.refl h0 [ea]).wr W17 (Or.inl (List.mem_of_getElem? (i := 0) rfl))
            have A17v : Arv Z h17 ea ek .byte (6 : Int32) [(.int (own_b ((224 : Int32) ||| (qc >>> ((12 : Int32) &&& 31))))), (.int 0), (.int 0), (.int 0), (.int 0), (.int 0)] (.int 0) := A17
            refine og2 X17 hx (fun j _ k => o_aloadN j (y d28_92) rfl rfl <| o_iloadN j (y d28_93) rfl <| o_iconstV j 1 (y d28_94) rfl <| o_iadd j (y d28_95) <| k) ?_
            rw [(by decide : (0 : Int32) + (1 : Int32) = (1 : Int32))]
            refine og2 X17 hx (fun j _ k => o_sipushV j 128 (y d28_96) rfl <| o_iloadN j (y d28_99) rfl <| o_bipushV j 6 (y d28_100) rfl <| o_ishr j (y d28_102) <| o_bipushV j 63 (y d28_103) rfl <| o_iand j (y d28_105) <| o_ior j (y d28_106) <| o_i2bO j (y d28_107) <| k) ?_
            refine sB (v := own_b ((128 : Int32) ||| ((qc >>> ((6 : Int32) &&& 31)) &&& (63 : Int32)))) 1 X17 hx hZ e17 A17v (own_nar_b _) (y d28_108) (fun T18 h18 X18 e18 W18 A18 => ?_)
            have N18 := Fr.snoc X18 N17 H1
            have P18 := P17.wr W18 (Or.inl (List.mem_of_getElem? (i := 0) rfl))
            have A18v : Arv Z h18 ea ek .byte (6 : Int32) [(.int (own_b ((224 : Int32) ||| (qc >>> ((12 : Int32) &&& 31))))), (.int (own_b ((128 : Int32) ||| ((qc >>> ((6 : Int32) &&& 31)) &&& (63 : Int32))))), (.int 0), (.int 0), (.int 0), (.int 0)] (.int 0) := A18
            refine og2 X18 hx (fun j _ k => o_aloadN j (y d28_109) rfl rfl <| o_iloadN j (y d28_110) rfl <| o_iconstV j 2 (y d28_111) rfl <| o_iadd j (y d28_112) <| k) ?_
            rw [(by decide : (0 : Int32) + (2 : Int32) = (2 : Int32))]
            refine og2 X18 hx (fun j _ k => o_sipushV j 128 (y d28_113) rfl <| o_iloadN j (y d28_116) rfl <| o_bipushV j 63 (y d28_117) rfl <| o_iand j (y d28_119) <| o_ior j (y d28_120) <| o_i2bO j (y d28_121) <| k) ?_
            refine sB (v := own_b ((128 : Int32) ||| (qc &&& (63 : Int32)))) 2 X18 hx hZ e18 A18v (own_nar_b _) (y d28_122) (fun T19 h19 X19 e19 W19 A19 => ?_)
            have N19 := Fr.snoc X19 N18 H1
            have P19 := P18.wr W19 (Or.inl (List.mem_of_getElem? (i := 0) rfl))
            have A19v : Arv Z h19 ea ek .byte (6 : Int32) [(.int (own_b ((224 : Int32) ||| (qc >>> ((12 : Int32) &&& 31))))), (.int (own_b ((128 : Int32) ||| ((qc >>> ((6 : Int32) &&& 31)) &&& (63 : Int32))))), (.int (own_b ((128 : Int32) ||| (qc &&& (63 : Int32))))), (.int 0), (.int 0), (.int 0)] (.int 0) := A19
            refine og2 X19 hx (fun j _ k => o_iloadN j (y d28_123) rfl <| o_iconstV j 3 (y d28_124) rfl <| o_iadd j (y d28_125) <| k) ?_
            rw [(by decide : (0 : Int32) + (3 : Int32) = (3 : Int32))]
            exact rI X19 hx Bd (y d28_126) e19 ⟨(by rw [(own_put3 C1 C3 (Or.inr C15) C16)]; rfl), N19, P19, (by rw [(own_put3 C1 C3 (Or.inr C15) C16)]; exact A19v)⟩
          · refine og2 X0 hx (fun j _ k => o_icmpYes j (pc' := 127) (y d28_77) (XT.ii_ge_t C16) <| o_aloadN j (y d28_127) rfl rfl <| o_iloadN j (y d28_128) rfl <| o_sipushV j 240 (y d28_129) rfl <| o_iloadN j (y d28_132) rfl <| o_bipushV j 18 (y d28_133) rfl <| o_ishr j (y d28_135) <| o_ior j (y d28_136) <| o_i2bO j (y d28_137) <| k) ?_
            refine sB (v := own_b ((240 : Int32) ||| (qc >>> ((18 : Int32) &&& 31)))) 0 X0 hx hZ e0 pr0 (own_nar_b _) (y d28_138) (fun T20 h20 X20 e20 W20 A20 => ?_)
            have N20 := Fr.snoc X20 (Fr.nil n0) H1
            have P20 := (Keep.refl h0 [ea]).wr W20 (Or.inl (List.mem_of_getElem? (i := 0) rfl))
            have A20v : Arv Z h20 ea ek .byte (6 : Int32) [(.int (own_b ((240 : Int32) ||| (qc >>> ((18 : Int32) &&& 31))))), (.int 0), (.int 0), (.int 0), (.int 0), (.int 0)] (.int 0) := A20
            refine og2 X20 hx (fun j _ k => o_aloadN j (y d28_139) rfl rfl <| o_iloadN j (y d28_140) rfl <| o_iconstV j 1 (y d28_141) rfl <| o_iadd j (y d28_142) <| k) ?_
            rw [(by decide : (0 : Int32) + (1 : Int32) = (1 : Int32))]
            refine og2 X20 hx (fun j _ k => o_sipushV j 128 (y d28_143) rfl <| o_iloadN j (y d28_146) rfl <| o_bipushV j 12 (y d28_147) rfl <| o_ishr j (y d28_149) <| o_bipushV j 63 (y d28_150) rfl <| o_iand j (y d28_152) <| o_ior j (y d28_153) <| o_i2bO j (y d28_154) <| k) ?_
            refine sB (v := own_b ((128 : Int32) ||| ((qc >>> ((12 : Int32) &&& 31)) &&& (63 : Int32)))) 1 X20 hx hZ e20 A20v (own_nar_b _) (y d28_155) (fun T21 h21 X21 e21 W21 A21 => ?_)
            have N21 := Fr.snoc X21 N20 H1
            have P21 := P20.wr W21 (Or.inl (List.mem_of_getElem? (i := 0) rfl))
            have A21v : Arv Z h21 ea ek .byte (6 : Int32) [(.int (own_b ((240 : Int32) ||| (qc >>> ((18 : Int32) &&& 31))))), (.int (own_b ((128 : Int32) ||| ((qc >>> ((12 : Int32) &&& 31)) &&& (63 : Int32))))), (.int 0), (.int 0), (.int 0), (.int 0)] (.int 0) := A21
            refine og2 X21 hx (fun j _ k => o_aloadN j (y d28_156) rfl rfl <| o_iloadN j (y d28_157) rfl <| o_iconstV j 2 (y d28_158) rfl <| o_iadd j (y d28_159) <| k) ?_
            rw [(by decide : (0 : Int32) + (2 : Int32) = (2 : Int32))]
            refine og2 X21 hx (fun j _ k => o_sipushV j 128 (y d28_160) rfl <| o_iloadN j (y d28_163) rfl <| o_bipushV j 6 (y d28_164) rfl <| o_ishr j (y d28_166) <| o_bipushV j 63 (y d28_167) rfl <| o_iand j (y d28_169) <| o_ior j (y d28_170) <| o_i2bO j (y d28_171) <| k) ?_
            refine sB (v := own_b ((128 : Int32) ||| ((qc >>> ((6 : Int32) &&& 31)) &&& (63 : Int32)))) 2 X21 hx hZ e21 A21v (own_nar_b _) (y d28_172) (fun T22 h22 X22 e22 W22 A22 => ?_)
            have N22 := Fr.snoc X22 N21 H1
            have P22 := P21.wr W22 (Or.inl (List.mem_of_getElem? (i := 0) rfl))
            have A22v : Arv Z h22 ea ek .byte (6 : Int32) [(.int (own_b ((240 : Int32) ||| (qc >>> ((18 : Int32) &&& 31))))), (.int (own_b ((128 : Int32) ||| ((qc >>> ((12 : Int32) &&& 31)) &&& (63 : Int32))))), (.int (own_b ((128 : Int32) ||| ((qc >>> ((6 : Int32) &&& 31)) &&& (63 : Int32))))), (.int 0), (.int 0), (.int 0)] (.int 0) := A22
            refine og2 X22 hx (fun j _ k => o_aloadN j (y d28_173) rfl rfl <| o_iloadN j (y d28_174) rfl <| o_iconstV j 3 (y d28_175) rfl <| o_iadd j (y d28_176) <| k) ?_
            rw [(by decide : (0 : Int32) + (3 : Int32) = (3 : Int32))]
            refine og2 X22 hx (fun j _ k => o_sipushV j 128 (y d28_177) rfl <| o_iloadN j (y d28_180) rfl <| o_bipushV j 63 (y d28_181) rfl <| o_iand j (y d28_183) <| o_ior j (y d28_184) <| o_i2bO j (y d28_185) <| k) ?_
            refine sB (v := own_b ((128 : Int32) ||| (qc &&& (63 : Int32)))) 3 X22 hx hZ e22 A22v (own_nar_b _) (y d28_186) (fun T23 h23 X23 e23 W23 A23 => ?_)
            have N23 := Fr.snoc X23 N22 H1
            have P23 := P22.wr W23 (Or.inl (List.mem_of_getElem? (i := 0) rfl))
            have A23v : Arv Z h23 ea ek .byte (6 : Int32) [(.int (own_b ((240 : Int32) ||| (qc >>> ((18 : Int32) &&& 31))))), (.int (own_b ((128 : Int32) ||| ((qc >>> ((12 : Int32) &&& 31)) &&& (63 : Int32))))), (.int (own_b ((128 : Int32) ||| ((qc >>> ((6 : Int32) &&& 31)) &&& (63 : Int32))))), (.int (own_b ((128 : Int32) ||| (qc &&& (63 : Int32))))), (.int 0), (.int 0)] (.int 0) := A23
            refine og2 X23 hx (fun j _ k => o_iloadN j (y d28_187) rfl <| o_iconstV j 4 (y d28_188) rfl <| o_iadd j (y d28_189) <| k) ?_
            rw [(by decide : (0 : Int32) + (4 : Int32) = (4 : Int32))]
            exact rI X23 hx Bd (y d28_190) e23 ⟨(by rw [(own_put4 C16)]; rfl), N23, P23, (by rw [(own_put4 C16)]; exact A23v)⟩
        · refine og2 X0 hx (fun j _ k => o_icmpNo j (y d28_62) (XT.ii_gt_f C15) <| o_aloadN j (y d28_65) rfl rfl <| o_iloadN j (y d28_66) rfl <| o_bipushV j 63 (y d28_67) rfl <| k) ?_
          refine sB (v := (63 : Int32)) 0 X0 hx hZ e0 pr0 (by decide) (y d28_69) (fun T24 h24 X24 e24 W24 A24 => ?_)
          have N24 := Fr.snoc X24 (Fr.nil n0) H1
          have P24 := (Keep.refl h0 [ea]).wr W24 (Or.inl (List.mem_of_getElem? (i := 0) rfl))
          have A24v : Arv Z h24 ea ek .byte (6 : Int32) [(.int 63), (.int 0), (.int 0), (.int 0), (.int 0), (.int 0)] (.int 0) := A24
          refine og2 X24 hx (fun j _ k => o_iloadN j (y d28_70) rfl <| o_iconstV j 1 (y d28_71) rfl <| o_iadd j (y d28_72) <| k) ?_
          rw [(by decide : (0 : Int32) + (1 : Int32) = (1 : Int32))]
          exact rI X24 hx Bd (y d28_73) e24 ⟨(by rw [(own_putS C1 C3 C6 C15)]; rfl), N24, P24, (by rw [(own_putS C1 C3 C6 C15)]; exact A24v)⟩

def QPU1 (Z : State) (ea : Addr) (ek : ClassId) (qc : Int32) (x0 : Int32) (h0 : Heap) (n0 : Nat) (v : Option Value) (h : Heap) (L : List Loc) : Prop := v = some (.int (own_ln ([x0] ++ own_put qc))) ∧ Fr n0 L ∧ Keep h0 h [ea] ∧ Arv Z h ea ek .byte (6 : Int32) (own_e6 ([x0] ++ own_put qc)) (.int 0)
theorem rmPU1 (l : Launch) (Z : State) (a0 : Array Value) (hw : HW a0 Z) (ws : List Jvm.Cond) (ea : Addr) (ek : ClassId) (qc : Int32) (x0 : Int32) (h0 : Heap) (n0 : Nat) (Z0 : n0 ≤ h0.size) (pr0 : Arv Z h0 ea ek .byte (6 : Int32) [(.int x0), (.int 0), (.int 0), (.int 0), (.int 0), (.int 0)] (.int 0)) (H1 : n0 ≤ ea) (H2 : qc < (65536 : Int32)) :
    MF l Z ⟨"com/example/unseen/unseen/KeysUtf8PinLaw", "put", "([BII)I"⟩ method_4_code 3 (some .int) ws R_0_0_0_0 #[(.ref ea), (.int 1), (.int qc)] h0 (QPU1 Z ea ek qc x0 h0 n0) := by
  refine og_start (plainFor_of_name pn_com_example_unseen_unseen_KeysUtf8PinLaw) fun p e s m below meth c s₁ Bd hx hby hml hZ hown hnm X0 e0 => ?_
  have y := @hb _ _ hby
  have w := @wd _ _ hw
  refine og (fun t k => castTop (ef2 m ea (1 : Int32) qc) k) ?_
  refine og2 X0 hx (fun j _ k => o_iloadN j (y d28_0) rfl <| o_sipushV j 128 (y d28_1) rfl <| k) ?_
  by_cases C1 : qc < (128 : Int32)
  · refine og2 X0 hx (fun j _ k => o_icmpNo j (y d28_4) (XT.ii_ge_f C1) <| o_aloadN j (y d28_7) rfl rfl <| o_iloadN j (y d28_8) rfl <| o_iloadN j (y d28_9) rfl <| o_i2bO j (y d28_10) <| k) ?_
    refine sB (v := own_b qc) 1 X0 hx hZ e0 pr0 (own_nar_b _) (y d28_11) (fun T2 h2 X2 e2 W2 A2 => ?_)
    have N2 := Fr.snoc X2 (Fr.nil n0) H1
    have P2 := (Keep.refl h0 [ea]).wr W2 (Or.inl (List.mem_of_getElem? (i := 0) rfl))
    have A2v : Arv Z h2 ea ek .byte (6 : Int32) [(.int x0), (.int (own_b qc)), (.int 0), (.int 0), (.int 0), (.int 0)] (.int 0) := A2
    refine og2 X2 hx (fun j _ k => o_iloadN j (y d28_12) rfl <| o_iconstV j 1 (y d28_13) rfl <| o_iadd j (y d28_14) <| k) ?_
    rw [(by decide : (1 : Int32) + (1 : Int32) = (2 : Int32))]
    exact rI X2 hx Bd (y d28_15) e2 ⟨(by rw [(own_put1 C1)]; rfl), N2, P2, (by rw [(own_put1 C1)]; exact A2v)⟩
  · refine og2 X0 hx (fun j _ k => o_icmpYes j (pc' := 16) (y d28_4) (XT.ii_ge_t C1) <| o_iloadN j (y d28_16) rfl <| o_sipushV j 2048 (y d28_17) rfl <| k) ?_
    by_cases C3 : qc < (2048 : Int32)
    · refine og2 X0 hx (fun j _ k => o_icmpNo j (y d28_20) (XT.ii_ge_f C3) <| o_aloadN j (y d28_23) rfl rfl <| o_iloadN j (y d28_24) rfl <| o_sipushV j 192 (y d28_25) rfl <| o_iloadN j (y d28_28) rfl <| o_bipushV j 6 (y d28_29) rfl <| o_ishr j (y d28_31) <| o_ior j (y d28_32) <| o_i2bO j (y d28_33) <| k) ?_
      refine sB (v := own_b ((192 : Int32) ||| (qc >>> ((6 : Int32) &&& 31)))) 1 X0 hx hZ e0 pr0 (own_nar_b _) (y d28_34) (fun T4 h4 X4 e4 W4 A4 => ?_)
      have N4 := Fr.snoc X4 (Fr.nil n0) H1
      have P4 := (Keep.refl h0 [ea]).wr W4 (Or.inl (List.mem_of_getElem? (i := 0) rfl))
      have A4v : Arv Z h4 ea ek .byte (6 : Int32) [(.int x0), (.int (own_b ((192 : Int32) ||| (qc >>> ((6 : Int32) &&& 31))))), (.int 0), (.int 0), (.int 0), (.int 0)] (.int 0) := A4
      refine og2 X4 hx (fun j _ k => o_aloadN j (y d28_35) rfl rfl <| o_iloadN j (y d28_36) rfl <| o_iconstV j 1 (y d28_37) rfl <| o_iadd j (y d28_38) <| k) ?_
      rw [(by decide : (1 : Int32) + (1 : Int32) = (2 : Int32))]
      refine og2 X4 hx (fun j _ k => o_sipushV j 128 (y d28_39) rfl <| o_iloadN j (y d28_42) rfl <| o_bipushV j 63 (y d28_43) rfl <| o_iand j (y d28_45) <| o_ior j (y d28_46) <| o_i2bO j (y d28_47) <| k) ?_
      refine sB (v := own_b ((128 : Int32) ||| (qc &&& (63 : Int32)))) 2 X4 hx hZ e4 A4v (own_nar_b _) (y d28_48) (fun T5 h5 X5 e5 W5 A5 => ?_)
      have N5 := Fr.snoc X5 N4 H1
      have P5 := P4.wr W5 (Or.inl (List.mem_of_getElem? (i := 0) rfl))
      have A5v : Arv Z h5 ea ek .byte (6 : Int32) [(.int x0), (.int (own_b ((192 : Int32) ||| (qc >>> ((6 : Int32) &&& 31))))), (.int (own_b ((128 : Int32) ||| (qc &&& (63 : Int32))))), (.int 0), (.int 0), (.int 0)] (.int 0) := A5
      refine og2 X5 hx (fun j _ k => o_iloadN j (y d28_49) rfl <| o_iconstV j 2 (y d28_50) rfl <| o_iadd j (y d28_51) <| k) ?_
      rw [(by decide : (1 : Int32) + (2 : Int32) = (3 : Int32))]
      exact rI X5 hx Bd (y d28_52) e5 ⟨(by rw [(own_put2 C1 C3)]; rfl), N5, P5, (by rw [(own_put2 C1 C3)]; exact A5v)⟩
    · refine og2 X0 hx (fun j _ k => o_icmpYes j (pc' := 53) (y d28_20) (XT.ii_ge_t C3) <| o_iloadN j (y d28_53) rfl <| o_ldcI X0 hx hZ hown (w 85 rfl) (y d28_54) <| k) ?_
      by_cases C6 : qc < (55296 : Int32)
      · refine og2 X0 hx (fun j _ k => o_icmpYes j (pc' := 74) (y d28_56) (XT.ii_lt_t C6) <| o_iloadN j (y d28_74) rfl <| o_ldcI X0 hx hZ hown (w 149 rfl) (y d28_75) <| o_icmpNo j (y d28_77) (XT.ii_ge_f H2) <| o_aloadN j (y d28_80) rfl rfl <| o_iloadN j (y d28_81) rfl <| o_sipushV j 224 (y d28_82) rfl <| o_iloadN j (y d28_85) rfl <| o_bipushV j 12 (y d28_86) rfl <| o_ishr j (y d28_88) <| o_ior j (y d28_89) <| o_i2bO j (y d28_90) <| k) ?_
        refine sB (v := own_b ((224 : Int32) ||| (qc >>> ((12 : Int32) &&& 31)))) 1 X0 hx hZ e0 pr0 (own_nar_b _) (y d28_91) (fun T7 h7 X7 e7 W7 A7 => ?_)
        have N7 := Fr.snoc X7 (Fr.nil n0) H1
        have P7 := (Keep.refl h0 [ea]).wr W7 (Or.inl (List.mem_of_getElem? (i := 0) rfl))
        have A7v : Arv Z h7 ea ek .byte (6 : Int32) [(.int x0), (.int (own_b ((224 : Int32) ||| (qc >>> ((12 : Int32) &&& 31))))), (.int 0), (.int 0), (.int 0), (.int 0)] (.int 0) := A7
        refine og2 X7 hx (fun j _ k => o_aloadN j (y d28_92) rfl rfl <| o_iloadN j (y d28_93) rfl <| o_iconstV j 1 (y d28_94) rfl <| o_iadd j (y d28_95) <| k) ?_
        rw [(by decide : (1 : Int32) + (1 : Int32) = (2 : Int32))]
        refine og2 X7 hx (fun j _ k => o_sipushV j 128 (y d28_96) rfl <| o_iloadN j (y d28_99) rfl <| o_bipushV j 6 (y d28_100) rfl <| o_ishr j (y d28_102) <| o_bipushV j 63 (y d28_103) rfl <| o_iand j (y d28_105) <| o_ior j (y d28_106) <| o_i2bO j (y d28_107) <| k) ?_
        refine sB (v := own_b ((128 : Int32) ||| ((qc >>> ((6 : Int32) &&& 31)) &&& (63 : Int32)))) 2 X7 hx hZ e7 A7v (own_nar_b _) (y d28_108) (fun T8 h8 X8 e8 W8 A8 => ?_)
        have N8 := Fr.snoc X8 N7 H1
        have P8 := P7.wr W8 (Or.inl (List.mem_of_getElem? (i := 0) rfl))
        have A8v : Arv Z h8 ea ek .byte (6 : Int32) [(.int x0), (.int (own_b ((224 : Int32) ||| (qc >>> ((12 : Int32) &&& 31))))), (.int (own_b ((128 : Int32) ||| ((qc >>> ((6 : Int32) &&& 31)) &&& (63 : Int32))))), (.int 0), (.int 0), (.int 0)] (.int 0) := A8
        refine og2 X8 hx (fun j _ k => o_aloadN j (y d28_109) rfl rfl <| o_iloadN j (y d28_110) rfl <| o_iconstV j 2 (y d28_111) rfl <| o_iadd j (y d28_112) <| k) ?_
        rw [(by decide : (1 : Int32) + (2 : Int32) = (3 : Int32))]
        refine og2 X8 hx (fun j _ k => o_sipushV j 128 (y d28_113) rfl <| o_iloadN j (y d28_116) rfl <| o_bipushV j 63 (y d28_117) rfl <| o_iand j (y d28_119) <| o_ior j (y d28_120) <| o_i2bO j (y d28_121) <| k) ?_
        refine sB (v := own_b ((128 : Int32) ||| (qc &&& (63 : Int32)))) 3 X8 hx hZ e8 A8v (own_nar_b _) (y d28_122) (fun T9 h9 X9 e9 W9 A9 => ?_)
        have N9 := Fr.snoc X9 N8 H1
        have P9 := P8.wr W9 (Or.inl (List.mem_of_getElem? (i := 0) rfl))
        have A9v : Arv Z h9 ea ek .byte (6 : Int32) [(.int x0), (.int (own_b ((224 : Int32) ||| (qc >>> ((12 : Int32) &&& 31))))), (.int (own_b ((128 : Int32) ||| ((qc >>> ((6 : Int32) &&& 31)) &&& (63 : Int32))))), (.int (own_b ((128 : Int32) ||| (qc &&& (63 : Int32))))), (.int 0), (.int 0)] (.int 0) := A9
        refine og2 X9 hx (fun j _ k => o_iloadN j (y d28_123) rfl <| o_iconstV j 3 (y d28_124) rfl <| o_iadd j (y d28_125) <| k) ?_
        rw [(by decide : (1 : Int32) + (3 : Int32) = (4 : Int32))]
        exact rI X9 hx Bd (y d28_126) e9 ⟨(by rw [(own_put3 C1 C3 (Or.inl C6) H2)]; rfl), N9, P9, (by rw [(own_put3 C1 C3 (Or.inl C6) H2)]; exact A9v)⟩
      · refine og2 X0 hx (fun j _ k => o_icmpNo j (y d28_56) (XT.ii_lt_f C6) <| o_iloadN j (y d28_59) rfl <| o_ldcI X0 hx hZ hown (w 148 rfl) (y d28_60) <| k) ?_
        by_cases C10 : (57343 : Int32) < qc
        · refine og2 X0 hx (fun j _ k => o_icmpYes j (pc' := 74) (y d28_62) (XT.ii_gt_t C10) <| o_iloadN j (y d28_74) rfl <| o_ldcI X0 hx hZ hown (w 149 rfl) (y d28_75) <| o_icmpNo j (y d28_77) (XT.ii_ge_f H2) <| o_aloadN j (y d28_80) rfl rfl <| o_iloadN j (y d28_81) rfl <| o_sipushV j 224 (y d28_82) rfl <| o_iloadN j (y d28_85) rfl <| o_bipushV j 12 (y d28_86) rfl <| o_ishr j (y d28_88) <| o_ior j (y d28_89) <| o_i2bO j (y d28_90) <| k) ?_
          refine sB (v := own_b ((224 : Int32) ||| (qc >>> ((12 : Int32) &&& 31)))) 1 X0 hx hZ e0 pr0 (own_nar_b _) (y d28_91) (fun T11 h11 X11 e11 W11 A11 => ?_)
          have N11 := Fr.snoc X11 (Fr.nil n0) H1
          have P11 := (Keep.refl h0 [ea]).wr W11 (Or.inl (List.mem_of_getElem? (i := 0) rfl))
          have A11v : Arv Z h11 ea ek .byte (6 : Int32) [(.int x0), (.int (own_b ((224 : Int32) ||| (qc >>> ((12 : Int32) &&& 31))))), (.int 0), (.int 0), (.int 0), (.int 0)] (.int 0) := A11
          refine og2 X11 hx (fun j _ k => o_aloadN j (y d28_92) rfl rfl <| o_iloadN j (y d28_93) rfl <| o_iconstV j 1 (y d28_94) rfl <| o_iadd j (y d28_95) <| k) ?_
          rw [(by decide : (1 : Int32) + (1 : Int32) = (2 : Int32))]
          refine og2 X11 hx (fun j _ k => o_sipushV j 128 (y d28_96) rfl <| o_iloadN j (y d28_99) rfl <| o_bipushV j 6 (y d28_100) rfl <| o_ishr j (y d28_102) <| o_bipushV j 63 (y d28_103) rfl <| o_iand j (y d28_105) <| o_ior j (y d28_106) <| o_i2bO j (y d28_107) <| k) ?_
          refine sB (v := own_b ((128 : Int32) ||| ((qc >>> ((6 : Int32) &&& 31)) &&& (63 : Int32)))) 2 X11 hx hZ e11 A11v (own_nar_b _) (y d28_108) (fun T12 h12 X12 e12 W12 A12 => ?_)
          have N12 := Fr.snoc X12 N11 H1
          have P12 := P11.wr W12 (Or.inl (List.mem_of_getElem? (i := 0) rfl))
          have A12v : Arv Z h12 ea ek .byte (6 : Int32) [(.int x0), (.int (own_b ((224 : Int32) ||| (qc >>> ((12 : Int32) &&& 31))))), (.int (own_b ((128 : Int32) ||| ((qc >>> ((6 : Int32) &&& 31)) &&& (63 : Int32))))), (.int 0), (.int 0), (.int 0)] (.int 0) := A12
          refine og2 X12 hx (fun j _ k => o_aloadN j (y d28_109) rfl rfl <| o_iloadN j (y d28_110) rfl <| o_iconstV j 2 (y d28_111) rfl <| o_iadd j (y d28_112) <| k) ?_
          rw [(by decide : (1 : Int32) + (2 : Int32) = (3 : Int32))]
          refine og2 X12 hx (fun j _ k => o_sipushV j 128 (y d28_113) rfl <| o_iloadN j (y d28_116) rfl <| o_bipushV j 63 (y d28_117) rfl <| o_iand j (y d28_119) <| o_ior j (y d28_120) <| o_i2bO j (y d28_121) <| k) ?_
          refine sB (v := own_b ((128 : Int32) ||| (qc &&& (63 : Int32)))) 3 X12 hx hZ e12 A12v (own_nar_b _) (y d28_122) (fun T13 h13 X13 e13 W13 A13 => ?_)
          have N13 := Fr.snoc X13 N12 H1
          have P13 := P12.wr W13 (Or.inl (List.mem_of_getElem? (i := 0) rfl))
          have A13v : Arv Z h13 ea ek .byte (6 : Int32) [(.int x0), (.int (own_b ((224 : Int32) ||| (qc >>> ((12 : Int32) &&& 31))))), (.int (own_b ((128 : Int32) ||| ((qc >>> ((6 : Int32) &&& 31)) &&& (63 : Int32))))), (.int (own_b ((128 : Int32) ||| (qc &&& (63 : Int32))))), (.int 0), (.int 0)] (.int 0) := A13
          refine og2 X13 hx (fun j _ k => o_iloadN j (y d28_123) rfl <| o_iconstV j 3 (y d28_124) rfl <| o_iadd j (y d28_125) <| k) ?_
          rw [(by decide : (1 : Int32) + (3 : Int32) = (4 : Int32))]
          exact rI X13 hx Bd (y d28_126) e13 ⟨(by rw [(own_put3 C1 C3 (Or.inr C10) H2)]; rfl), N13, P13, (by rw [(own_put3 C1 C3 (Or.inr C10) H2)]; exact A13v)⟩
        · refine og2 X0 hx (fun j _ k => o_icmpNo j (y d28_62) (XT.ii_gt_f C10) <| o_aloadN j (y d28_65) rfl rfl <| o_iloadN j (y d28_66) rfl <| o_bipushV j 63 (y d28_67) rfl <| k) ?_
          refine sB (v := (63 : Int32)) 1 X0 hx hZ e0 pr0 (by decide) (y d28_69) (fun T14 h14 X14 e14 W14 A14 => ?_)
          have N14 := Fr.snoc X14 (Fr.nil n0) H1
          have P14 := (Keep.refl h0 [ea]).wr W14 (Or.inl (List.mem_of_getElem? (i := 0) rfl))
          have A14v : Arv Z h14 ea ek .byte (6 : Int32) [(.int x0), (.int 63), (.int 0), (.int 0), (.int 0), (.int 0)] (.int 0) := A14
          refine og2 X14 hx (fun j _ k => o_iloadN j (y d28_70) rfl <| o_iconstV j 1 (y d28_71) rfl <| o_iadd j (y d28_72) <| k) ?_
          rw [(by decide : (1 : Int32) + (1 : Int32) = (2 : Int32))]
          exact rI X14 hx Bd (y d28_73) e14 ⟨(by rw [(own_putS C1 C3 C6 C10)]; rfl), N14, P14, (by rw [(own_putS C1 C3 C6 C10)]; exact A14v)⟩

def QPU2 (Z : State) (ea : Addr) (ek : ClassId) (qc : Int32) (x0 : Int32) (x1 : Int32) (h0 : Heap) (n0 : Nat) (v : Option Value) (h : Heap) (L : List Loc) : Prop := v = some (.int (own_ln ([x0, x1] ++ own_put qc))) ∧ Fr n0 L ∧ Keep h0 h [ea] ∧ Arv Z h ea ek .byte (6 : Int32) (own_e6 ([x0, x1] ++ own_put qc)) (.int 0)
theorem rmPU2 (l : Launch) (Z : State) (a0 : Array Value) (hw : HW a0 Z) (ws : List Jvm.Cond) (ea : Addr) (ek : ClassId) (qc : Int32) (x0 : Int32) (x1 : Int32) (h0 : Heap) (n0 : Nat) (Z0 : n0 ≤ h0.size) (pr0 : Arv Z h0 ea ek .byte (6 : Int32) [(.int x0), (.int x1), (.int 0), (.int 0), (.int 0), (.int 0)] (.int 0)) (H1 : n0 ≤ ea) (H2 : qc < (65536 : Int32)) :
    MF l Z ⟨"com/example/unseen/unseen/KeysUtf8PinLaw", "put", "([BII)I"⟩ method_4_code 3 (some .int) ws R_0_0_0_0 #[(.ref ea), (.int 2), (.int qc)] h0 (QPU2 Z ea ek qc x0 x1 h0 n0) := by
  refine og_start (plainFor_of_name pn_com_example_unseen_unseen_KeysUtf8PinLaw) fun p e s m below meth c s₁ Bd hx hby hml hZ hown hnm X0 e0 => ?_
  have y := @hb _ _ hby
  have w := @wd _ _ hw
  refine og (fun t k => castTop (ef2 m ea (2 : Int32) qc) k) ?_
  refine og2 X0 hx (fun j _ k => o_iloadN j (y d28_0) rfl <| o_sipushV j 128 (y d28_1) rfl <| k) ?_
  by_cases C1 : qc < (128 : Int32)
  · refine og2 X0 hx (fun j _ k => o_icmpNo j (y d28_4) (XT.ii_ge_f C1) <| o_aloadN j (y d28_7) rfl rfl <| o_iloadN j (y d28_8) rfl <| o_iloadN j (y d28_9) rfl <| o_i2bO j (y d28_10) <| k) ?_
    refine sB (v := own_b qc) 2 X0 hx hZ e0 pr0 (own_nar_b _) (y d28_11) (fun T2 h2 X2 e2 W2 A2 => ?_)
    have N2 := Fr.snoc X2 (Fr.nil n0) H1
    have P2 := (Keep.refl h0 [ea]).wr W2 (Or.inl (List.mem_of_getElem? (i := 0) rfl))
    have A2v : Arv Z h2 ea ek .byte (6 : Int32) [(.int x0), (.int x1), (.int (own_b qc)), (.int 0), (.int 0), (.int 0)] (.int 0) := A2
    refine og2 X2 hx (fun j _ k => o_iloadN j (y d28_12) rfl <| o_iconstV j 1 (y d28_13) rfl <| o_iadd j (y d28_14) <| k) ?_
    rw [(by decide : (2 : Int32) + (1 : Int32) = (3 : Int32))]
    exact rI X2 hx Bd (y d28_15) e2 ⟨(by rw [(own_put1 C1)]; rfl), N2, P2, (by rw [(own_put1 C1)]; exact A2v)⟩
  · refine og2 X0 hx (fun j _ k => o_icmpYes j (pc' := 16) (y d28_4) (XT.ii_ge_t C1) <| o_iloadN j (y d28_16) rfl <| o_sipushV j 2048 (y d28_17) rfl <| k) ?_
    by_cases C3 : qc < (2048 : Int32)
    · refine og2 X0 hx (fun j _ k => o_icmpNo j (y d28_20) (XT.ii_ge_f C3) <| o_aloadN j (y d28_23) rfl rfl <| o_iloadN j (y d28_24) rfl <| o_sipushV j 192 (y d28_25) rfl <| o_iloadN j (y d28_28) rfl <| o_bipushV j 6 (y d28_29) rfl <| o_ishr j (y d28_31) <| o_ior j (y d28_32) <| o_i2bO j (y d28_33) <| k) ?_
      refine sB (v := own_b ((192 : Int32) ||| (qc >>> ((6 : Int32) &&& 31)))) 2 X0 hx hZ e0 pr0 (own_nar_b _) (y d28_34) (fun T4 h4 X4 e4 W4 A4 => ?_)
      have N4 := Fr.snoc X4 (Fr.nil n0) H1
      have P4 := (Keep.refl h0 [ea]).wr W4 (Or.inl (List.mem_of_getElem? (i := 0) rfl))
      have A4v : Arv Z h4 ea ek .byte (6 : Int32) [(.int x0), (.int x1), (.int (own_b ((192 : Int32) ||| (qc >>> ((6 : Int32) &&& 31))))), (.int 0), (.int 0), (.int 0)] (.int 0) := A4
      refine og2 X4 hx (fun j _ k => o_aloadN j (y d28_35) rfl rfl <| o_iloadN j (y d28_36) rfl <| o_iconstV j 1 (y d28_37) rfl <| o_iadd j (y d28_38) <| k) ?_
      rw [(by decide : (2 : Int32) + (1 : Int32) = (3 : Int32))]
      refine og2 X4 hx (fun j _ k => o_sipushV j 128 (y d28_39) rfl <| o_iloadN j (y d28_42) rfl <| o_bipushV j 63 (y d28_43) rfl <| o_iand j (y d28_45) <| o_ior j (y d28_46) <| o_i2bO j (y d28_47) <| k) ?_
      refine sB (v := own_b ((128 : Int32) ||| (qc &&& (63 : Int32)))) 3 X4 hx hZ e4 A4v (own_nar_b _) (y d28_48) (fun T5 h5 X5 e5 W5 A5 => ?_)
      have N5 := Fr.snoc X5 N4 H1
      have P5 := P4.wr W5 (Or.inl (List.mem_of_getElem? (i := 0) rfl))
      have A5v : Arv Z h5 ea ek .byte (6 : Int32) [(.int x0), (.int x1), (.int (own_b ((192 : Int32) ||| (qc >>> ((6 : Int32) &&& 31))))), (.int (own_b ((128 : Int32) ||| (qc &&& (63 : Int32))))), (.int 0), (.int 0)] (.int 0) := A5
      refine og2 X5 hx (fun j _ k => o_iloadN j (y d28_49) rfl <| o_iconstV j 2 (y d28_50) rfl <| o_iadd j (y d28_51) <| k) ?_
      rw [(by decide : (2 : Int32) + (2 : Int32) = (4 : Int32))]
      exact rI X5 hx Bd (y d28_52) e5 ⟨(by rw [(own_put2 C1 C3)]; rfl), N5, P5, (by rw [(own_put2 C1 C3)]; exact A5v)⟩
    · refine og2 X0 hx (fun j _ k => o_icmpYes j (pc' := 53) (y d28_20) (XT.ii_ge_t C3) <| o_iloadN j (y d28_53) rfl <| o_ldcI X0 hx hZ hown (w 85 rfl) (y d28_54) <| k) ?_
      by_cases C6 : qc < (55296 : Int32)
      · refine og2 X0 hx (fun j _ k => o_icmpYes j (pc' := 74) (y d28_56) (XT.ii_lt_t C6) <| o_iloadN j (y d28_74) rfl <| o_ldcI X0 hx hZ hown (w 149 rfl) (y d28_75) <| o_icmpNo j (y d28_77) (XT.ii_ge_f H2) <| o_aloadN j (y d28_80) rfl rfl <| o_iloadN j (y d28_81) rfl <| o_sipushV j 224 (y d28_82) rfl <| o_iloadN j (y d28_85) rfl <| o_bipushV j 12 (y d28_86) rfl <| o_ishr j (y d28_88) <| o_ior j (y d28_89) <| o_i2bO j (y d28_90) <| k) ?_
        refine sB (v := own_b ((224 : Int32) ||| (qc >>> ((12 : Int32) &&& 31)))) 2 X0 hx hZ e0 pr0 (own_nar_b _) (y d28_91) (fun T7 h7 X7 e7 W7 A7 => ?_)
        have N7 := Fr.snoc X7 (Fr.nil n0) H1
        have P7 := (Keep.refl h0 [ea]).wr W7 (Or.inl (List.mem_of_getElem? (i := 0) rfl))
        have A7v : Arv Z h7 ea ek .byte (6 : Int32) [(.int x0), (.int x1), (.int (own_b ((224 : Int32) ||| (qc >>> ((12 : Int32) &&& 31))))), (.int 0), (.int 0), (.int 0)] (.int 0) := A7
        refine og2 X7 hx (fun j _ k => o_aloadN j (y d28_92) rfl rfl <| o_iloadN j (y d28_93) rfl <| o_iconstV j 1 (y d28_94) rfl <| o_iadd j (y d28_95) <| k) ?_
        rw [(by decide : (2 : Int32) + (1 : Int32) = (3 : Int32))]
        refine og2 X7 hx (fun j _ k => o_sipushV j 128 (y d28_96) rfl <| o_iloadN j (y d28_99) rfl <| o_bipushV j 6 (y d28_100) rfl <| o_ishr j (y d28_102) <| o_bipushV j 63 (y d28_103) rfl <| o_iand j (y d28_105) <| o_ior j (y d28_106) <| o_i2bO j (y d28_107) <| k) ?_
        refine sB (v := own_b ((128 : Int32) ||| ((qc >>> ((6 : Int32) &&& 31)) &&& (63 : Int32)))) 3 X7 hx hZ e7 A7v (own_nar_b _) (y d28_108) (fun T8 h8 X8 e8 W8 A8 => ?_)
        have N8 := Fr.snoc X8 N7 H1
        have P8 := P7.wr W8 (Or.inl (List.mem_of_getElem? (i := 0) rfl))
        have A8v : Arv Z h8 ea ek .byte (6 : Int32) [(.int x0), (.int x1), (.int (own_b ((224 : Int32) ||| (qc >>> ((12 : Int32) &&& 31))))), (.int (own_b ((128 : Int32) ||| ((qc >>> ((6 : Int32) &&& 31)) &&& (63 : Int32))))), (.int 0), (.int 0)] (.int 0) := A8
        refine og2 X8 hx (fun j _ k => o_aloadN j (y d28_109) rfl rfl <| o_iloadN j (y d28_110) rfl <| o_iconstV j 2 (y d28_111) rfl <| o_iadd j (y d28_112) <| k) ?_
        rw [(by decide : (2 : Int32) + (2 : Int32) = (4 : Int32))]
        refine og2 X8 hx (fun j _ k => o_sipushV j 128 (y d28_113) rfl <| o_iloadN j (y d28_116) rfl <| o_bipushV j 63 (y d28_117) rfl <| o_iand j (y d28_119) <| o_ior j (y d28_120) <| o_i2bO j (y d28_121) <| k) ?_
        refine sB (v := own_b ((128 : Int32) ||| (qc &&& (63 : Int32)))) 4 X8 hx hZ e8 A8v (own_nar_b _) (y d28_122) (fun T9 h9 X9 e9 W9 A9 => ?_)
        have N9 := Fr.snoc X9 N8 H1
        have P9 := P8.wr W9 (Or.inl (List.mem_of_getElem? (i := 0) rfl))
        have A9v : Arv Z h9 ea ek .byte (6 : Int32) [(.int x0), (.int x1), (.int (own_b ((224 : Int32) ||| (qc >>> ((12 : Int32) &&& 31))))), (.int (own_b ((128 : Int32) ||| ((qc >>> ((6 : Int32) &&& 31)) &&& (63 : Int32))))), (.int (own_b ((128 : Int32) ||| (qc &&& (63 : Int32))))), (.int 0)] (.int 0) := A9
        refine og2 X9 hx (fun j _ k => o_iloadN j (y d28_123) rfl <| o_iconstV j 3 (y d28_124) rfl <| o_iadd j (y d28_125) <| k) ?_
        rw [(by decide : (2 : Int32) + (3 : Int32) = (5 : Int32))]
        exact rI X9 hx Bd (y d28_126) e9 ⟨(by rw [(own_put3 C1 C3 (Or.inl C6) H2)]; rfl), N9, P9, (by rw [(own_put3 C1 C3 (Or.inl C6) H2)]; exact A9v)⟩
      · refine og2 X0 hx (fun j _ k => o_icmpNo j (y d28_56) (XT.ii_lt_f C6) <| o_iloadN j (y d28_59) rfl <| o_ldcI X0 hx hZ hown (w 148 rfl) (y d28_60) <| k) ?_
        by_cases C10 : (57343 : Int32) < qc
        · refine og2 X0 hx (fun j _ k => o_icmpYes j (pc' := 74) (y d28_62) (XT.ii_gt_t C10) <| o_iloadN j (y d28_74) rfl <| o_ldcI X0 hx hZ hown (w 149 rfl) (y d28_75) <| o_icmpNo j (y d28_77) (XT.ii_ge_f H2) <| o_aloadN j (y d28_80) rfl rfl <| o_iloadN j (y d28_81) rfl <| o_sipushV j 224 (y d28_82) rfl <| o_iloadN j (y d28_85) rfl <| o_bipushV j 12 (y d28_86) rfl <| o_ishr j (y d28_88) <| o_ior j (y d28_89) <| o_i2bO j (y d28_90) <| k) ?_
          refine sB (v := own_b ((224 : Int32) ||| (qc >>> ((12 : Int32) &&& 31)))) 2 X0 hx hZ e0 pr0 (own_nar_b _) (y d28_91) (fun T11 h11 X11 e11 W11 A11 => ?_)
          have N11 := Fr.snoc X11 (Fr.nil n0) H1
          have P11 := (Keep.refl h0 [ea]).wr W11 (Or.inl (List.mem_of_getElem? (i := 0) rfl))
          have A11v : Arv Z h11 ea ek .byte (6 : Int32) [(.int x0), (.int x1), (.int (own_b ((224 : Int32) ||| (qc >>> ((12 : Int32) &&& 31))))), (.int 0), (.int 0), (.int 0)] (.int 0) := A11
          refine og2 X11 hx (fun j _ k => o_aloadN j (y d28_92) rfl rfl <| o_iloadN j (y d28_93) rfl <| o_iconstV j 1 (y d28_94) rfl <| o_iadd j (y d28_95) <| k) ?_
          rw [(by decide : (2 : Int32) + (1 : Int32) = (3 : Int32))]
          refine og2 X11 hx (fun j _ k => o_sipushV j 128 (y d28_96) rfl <| o_iloadN j (y d28_99) rfl <| o_bipushV j 6 (y d28_100) rfl <| o_ishr j (y d28_102) <| o_bipushV j 63 (y d28_103) rfl <| o_iand j (y d28_105) <| o_ior j (y d28_106) <| o_i2bO j (y d28_107) <| k) ?_
          refine sB (v := own_b ((128 : Int32) ||| ((qc >>> ((6 : Int32) &&& 31)) &&& (63 : Int32)))) 3 X11 hx hZ e11 A11v (own_nar_b _) (y d28_108) (fun T12 h12 X12 e12 W12 A12 => ?_)
          have N12 := Fr.snoc X12 N11 H1
          have P12 := P11.wr W12 (Or.inl (List.mem_of_getElem? (i := 0) rfl))
          have A12v : Arv Z h12 ea ek .byte (6 : Int32) [(.int x0), (.int x1), (.int (own_b ((224 : Int32) ||| (qc >>> ((12 : Int32) &&& 31))))), (.int (own_b ((128 : Int32) ||| ((qc >>> ((6 : Int32) &&& 31)) &&& (63 : Int32))))), (.int 0), (.int 0)] (.int 0) := A12
          refine og2 X12 hx (fun j _ k => o_aloadN j (y d28_109) rfl rfl <| o_iloadN j (y d28_110) rfl <| o_iconstV j 2 (y d28_111) rfl <| o_iadd j (y d28_112) <| k) ?_
          rw [(by decide : (2 : Int32) + (2 : Int32) = (4 : Int32))]
          refine og2 X12 hx (fun j _ k => o_sipushV j 128 (y d28_113) rfl <| o_iloadN j (y d28_116) rfl <| o_bipushV j 63 (y d28_117) rfl <| o_iand j (y d28_119) <| o_ior j (y d28_120) <| o_i2bO j (y d28_121) <| k) ?_
          refine sB (v := own_b ((128 : Int32) ||| (qc &&& (63 : Int32)))) 4 X12 hx hZ e12 A12v (own_nar_b _) (y d28_122) (fun T13 h13 X13 e13 W13 A13 => ?_)
          have N13 := Fr.snoc X13 N12 H1
          have P13 := P12.wr W13 (Or.inl (List.mem_of_getElem? (i := 0) rfl))
          have A13v : Arv Z h13 ea ek .byte (6 : Int32) [(.int x0), (.int x1), (.int (own_b ((224 : Int32) ||| (qc >>> ((12 : Int32) &&& 31))))), (.int (own_b ((128 : Int32) ||| ((qc >>> ((6 : Int32) &&& 31)) &&& (63 : Int32))))), (.int (own_b ((128 : Int32) ||| (qc &&& (63 : Int32))))), (.int 0)] (.int 0) := A13
          refine og2 X13 hx (fun j _ k => o_iloadN j (y d28_123) rfl <| o_iconstV j 3 (y d28_124) rfl <| o_iadd j (y d28_125) <| k) ?_
          rw [(by decide : (2 : Int32) + (3 : Int32) = (5 : Int32))]
          exact rI X13 hx Bd (y d28_126) e13 ⟨(by rw [(own_put3 C1 C3 (Or.inr C10) H2)]; rfl), N13, P13, (by rw [(own_put3 C1 C3 (Or.inr C10) H2)]; exact A13v)⟩
        · refine og2 X0 hx (fun j _ k => o_icmpNo j (y d28_62) (XT.ii_gt_f C10) <| o_aloadN j (y d28_65) rfl rfl <| o_iloadN j (y d28_66) rfl <| o_bipushV j 63 (y d28_67) rfl <| k) ?_
          refine sB (v := (63 : Int32)) 2 X0 hx hZ e0 pr0 (by decide) (y d28_69) (fun T14 h14 X14 e14 W14 A14 => ?_)
          have N14 := Fr.snoc X14 (Fr.nil n0) H1
          have P14 := (Keep.refl h0 [ea]).wr W14 (Or.inl (List.mem_of_getElem? (i := 0) rfl))
          have A14v : Arv Z h14 ea ek .byte (6 : Int32) [(.int x0), (.int x1), (.int 63), (.int 0), (.int 0), (.int 0)] (.int 0) := A14
          refine og2 X14 hx (fun j _ k => o_iloadN j (y d28_70) rfl <| o_iconstV j 1 (y d28_71) rfl <| o_iadd j (y d28_72) <| k) ?_
          rw [(by decide : (2 : Int32) + (1 : Int32) = (3 : Int32))]
          exact rI X14 hx Bd (y d28_73) e14 ⟨(by rw [(own_putS C1 C3 C6 C10)]; rfl), N14, P14, (by rw [(own_putS C1 C3 C6 C10)]; exact A14v)⟩

def QPU3 (Z : State) (ea : Addr) (ek : ClassId) (qc : Int32) (x0 : Int32) (x1 : Int32) (x2 : Int32) (h0 : Heap) (n0 : Nat) (v : Option Value) (h : Heap) (L : List Loc) : Prop := v = some (.int (own_ln ([x0, x1, x2] ++ own_put qc))) ∧ Fr n0 L ∧ Keep h0 h [ea] ∧ Arv Z h ea ek .byte (6 : Int32) (own_e6 ([x0, x1, x2] ++ own_put qc)) (.int 0)
theorem rmPU3 (l : Launch) (Z : State) (a0 : Array Value) (hw : HW a0 Z) (ws : List Jvm.Cond) (ea : Addr) (ek : ClassId) (qc : Int32) (x0 : Int32) (x1 : Int32) (x2 : Int32) (h0 : Heap) (n0 : Nat) (Z0 : n0 ≤ h0.size) (pr0 : Arv Z h0 ea ek .byte (6 : Int32) [(.int x0), (.int x1), (.int x2), (.int 0), (.int 0), (.int 0)] (.int 0)) (H1 : n0 ≤ ea) (H2 : qc < (65536 : Int32)) :
    MF l Z ⟨"com/example/unseen/unseen/KeysUtf8PinLaw", "put", "([BII)I"⟩ method_4_code 3 (some .int) ws R_0_0_0_0 #[(.ref ea), (.int 3), (.int qc)] h0 (QPU3 Z ea ek qc x0 x1 x2 h0 n0) := by
  refine og_start (plainFor_of_name pn_com_example_unseen_unseen_KeysUtf8PinLaw) fun p e s m below meth c s₁ Bd hx hby hml hZ hown hnm X0 e0 => ?_
  have y := @hb _ _ hby
  have w := @wd _ _ hw
  refine og (fun t k => castTop (ef2 m ea (3 : Int32) qc) k) ?_
  refine og2 X0 hx (fun j _ k => o_iloadN j (y d28_0) rfl <| o_sipushV j 128 (y d28_1) rfl <| k) ?_
  by_cases C1 : qc < (128 : Int32)
  · refine og2 X0 hx (fun j _ k => o_icmpNo j (y d28_4) (XT.ii_ge_f C1) <| o_aloadN j (y d28_7) rfl rfl <| o_iloadN j (y d28_8) rfl <| o_iloadN j (y d28_9) rfl <| o_i2bO j (y d28_10) <| k) ?_
    refine sB (v := own_b qc) 3 X0 hx hZ e0 pr0 (own_nar_b _) (y d28_11) (fun T2 h2 X2 e2 W2 A2 => ?_)
    have N2 := Fr.snoc X2 (Fr.nil n0) H1
    have P2 := (Keep.refl h0 [ea]).wr W2 (Or.inl (List.mem_of_getElem? (i := 0) rfl))
    have A2v : Arv Z h2 ea ek .byte (6 : Int32) [(.int x0), (.int x1), (.int x2), (.int (own_b qc)), (.int 0), (.int 0)] (.int 0) := A2
    refine og2 X2 hx (fun j _ k => o_iloadN j (y d28_12) rfl <| o_iconstV j 1 (y d28_13) rfl <| o_iadd j (y d28_14) <| k) ?_
    rw [(by decide : (3 : Int32) + (1 : Int32) = (4 : Int32))]
    exact rI X2 hx Bd (y d28_15) e2 ⟨(by rw [(own_put1 C1)]; rfl), N2, P2, (by rw [(own_put1 C1)]; exact A2v)⟩
  · refine og2 X0 hx (fun j _ k => o_icmpYes j (pc' := 16) (y d28_4) (XT.ii_ge_t C1) <| o_iloadN j (y d28_16) rfl <| o_sipushV j 2048 (y d28_17) rfl <| k) ?_
    by_cases C3 : qc < (2048 : Int32)
    · refine og2 X0 hx (fun j _ k => o_icmpNo j (y d28_20) (XT.ii_ge_f C3) <| o_aloadN j (y d28_23) rfl rfl <| o_iloadN j (y d28_24) rfl <| o_sipushV j 192 (y d28_25) rfl <| o_iloadN j (y d28_28) rfl <| o_bipushV j 6 (y d28_29) rfl <| o_ishr j (y d28_31) <| o_ior j (y d28_32) <| o_i2bO j (y d28_33) <| k) ?_
      refine sB (v := own_b ((192 : Int32) ||| (qc >>> ((6 : Int32) &&& 31)))) 3 X0 hx hZ e0 pr0 (own_nar_b _) (y d28_34) (fun T4 h4 X4 e4 W4 A4 => ?_)
      have N4 := Fr.snoc X4 (Fr.nil n0) H1
      have P4 := (Keep.refl h0 [ea]).wr W4 (Or.inl (List.mem_of_getElem? (i := 0) rfl))
      have A4v : Arv Z h4 ea ek .byte (6 : Int32) [(.int x0), (.int x1), (.int x2), (.int (own_b ((192 : Int32) ||| (qc >>> ((6 : Int32) &&& 31))))), (.int 0), (.int 0)] (.int 0) := A4
      refine og2 X4 hx (fun j _ k => o_aloadN j (y d28_35) rfl rfl <| o_iloadN j (y d28_36) rfl <| o_iconstV j 1 (y d28_37) rfl <| o_iadd j (y d28_38) <| k) ?_
      rw [(by decide : (3 : Int32) + (1 : Int32) = (4 : Int32))]
      refine og2 X4 hx (fun j _ k => o_sipushV j 128 (y d28_39) rfl <| o_iloadN j (y d28_42) rfl <| o_bipushV j 63 (y d28_43) rfl <| o_iand j (y d28_45) <| o_ior j (y d28_46) <| o_i2bO j (y d28_47) <| k) ?_
      refine sB (v := own_b ((128 : Int32) ||| (qc &&& (63 : Int32)))) 4 X4 hx hZ e4 A4v (own_nar_b _) (y d28_48) (fun T5 h5 X5 e5 W5 A5 => ?_)
      have N5 := Fr.snoc X5 N4 H1
      have P5 := P4.wr W5 (Or.inl (List.mem_of_getElem? (i := 0) rfl))
      have A5v : Arv Z h5 ea ek .byte (6 : Int32) [(.int x0), (.int x1), (.int x2), (.int (own_b ((192 : Int32) ||| (qc >>> ((6 : Int32) &&& 31))))), (.int (own_b ((128 : Int32) ||| (qc &&& (63 : Int32))))), (.int 0)] (.int 0) := A5
      refine og2 X5 hx (fun j _ k => o_iloadN j (y d28_49) rfl <| o_iconstV j 2 (y d28_50) rfl <| o_iadd j (y d28_51) <| k) ?_
      rw [(by decide : (3 : Int32) + (2 : Int32) = (5 : Int32))]
      exact rI X5 hx Bd (y d28_52) e5 ⟨(by rw [(own_put2 C1 C3)]; rfl), N5, P5, (by rw [(own_put2 C1 C3)]; exact A5v)⟩
    · refine og2 X0 hx (fun j _ k => o_icmpYes j (pc' := 53) (y d28_20) (XT.ii_ge_t C3) <| o_iloadN j (y d28_53) rfl <| o_ldcI X0 hx hZ hown (w 85 rfl) (y d28_54) <| k) ?_
      by_cases C6 : qc < (55296 : Int32)
      · refine og2 X0 hx (fun j _ k => o_icmpYes j (pc' := 74) (y d28_56) (XT.ii_lt_t C6) <| o_iloadN j (y d28_74) rfl <| o_ldcI X0 hx hZ hown (w 149 rfl) (y d28_75) <| o_icmpNo j (y d28_77) (XT.ii_ge_f H2) <| o_aloadN j (y d28_80) rfl rfl <| o_iloadN j (y d28_81) rfl <| o_sipushV j 224 (y d28_82) rfl <| o_iloadN j (y d28_85) rfl <| o_bipushV j 12 (y d28_86) rfl <| o_ishr j (y d28_88) <| o_ior j (y d28_89) <| o_i2bO j (y d28_90) <| k) ?_
        refine sB (v := own_b ((224 : Int32) ||| (qc >>> ((12 : Int32) &&& 31)))) 3 X0 hx hZ e0 pr0 (own_nar_b _) (y d28_91) (fun T7 h7 X7 e7 W7 A7 => ?_)
        have N7 := Fr.snoc X7 (Fr.nil n0) H1
        have P7 := (Keep.refl h0 [ea]).wr W7 (Or.inl (List.mem_of_getElem? (i := 0) rfl))
        have A7v : Arv Z h7 ea ek .byte (6 : Int32) [(.int x0), (.int x1), (.int x2), (.int (own_b ((224 : Int32) ||| (qc >>> ((12 : Int32) &&& 31))))), (.int 0), (.int 0)] (.int 0) := A7
        refine og2 X7 hx (fun j _ k => o_aloadN j (y d28_92) rfl rfl <| o_iloadN j (y d28_93) rfl <| o_iconstV j 1 (y d28_94) rfl <| o_iadd j (y d28_95) <| k) ?_
        rw [(by decide : (3 : Int32) + (1 : Int32) = (4 : Int32))]
        refine og2 X7 hx (fun j _ k => o_sipushV j 128 (y d28_96) rfl <| o_iloadN j (y d28_99) rfl <| o_bipushV j 6 (y d28_100) rfl <| o_ishr j (y d28_102) <| o_bipushV j 63 (y d28_103) rfl <| o_iand j (y d28_105) <| o_ior j (y d28_106) <| o_i2bO j (y d28_107) <| k) ?_
        refine sB (v := own_b ((128 : Int32) ||| ((qc >>> ((6 : Int32) &&& 31)) &&& (63 : Int32)))) 4 X7 hx hZ e7 A7v (own_nar_b _) (y d28_108) (fun T8 h8 X8 e8 W8 A8 => ?_)
        have N8 := Fr.snoc X8 N7 H1
        have P8 := P7.wr W8 (Or.inl (List.mem_of_getElem? (i := 0) rfl))
        have A8v : Arv Z h8 ea ek .byte (6 : Int32) [(.int x0), (.int x1), (.int x2), (.int (own_b ((224 : Int32) ||| (qc >>> ((12 : Int32) &&& 31))))), (.int (own_b ((128 : Int32) ||| ((qc >>> ((6 : Int32) &&& 31)) &&& (63 : Int32))))), (.int 0)] (.int 0) := A8
        refine og2 X8 hx (fun j _ k => o_aloadN j (y d28_109) rfl rfl <| o_iloadN j (y d28_110) rfl <| o_iconstV j 2 (y d28_111) rfl <| o_iadd j (y d28_112) <| k) ?_
        rw [(by decide : (3 : Int32) + (2 : Int32) = (5 : Int32))]
        refine og2 X8 hx (fun j _ k => o_sipushV j 128 (y d28_113) rfl <| o_iloadN j (y d28_116) rfl <| o_bipushV j 63 (y d28_117) rfl <| o_iand j (y d28_119) <| o_ior j (y d28_120) <| o_i2bO j (y d28_121) <| k) ?_
        refine sB (v := own_b ((128 : Int32) ||| (qc &&& (63 : Int32)))) 5 X8 hx hZ e8 A8v (own_nar_b _) (y d28_122) (fun T9 h9 X9 e9 W9 A9 => ?_)
        have N9 := Fr.snoc X9 N8 H1
        have P9 := P8.wr W9 (Or.inl (List.mem_of_getElem? (i := 0) rfl))
        have A9v : Arv Z h9 ea ek .byte (6 : Int32) [(.int x0), (.int x1), (.int x2), (.int (own_b ((224 : Int32) ||| (qc >>> ((12 : Int32) &&& 31))))), (.int (own_b ((128 : Int32) ||| ((qc >>> ((6 : Int32) &&& 31)) &&& (63 : Int32))))), (.int (own_b ((128 : Int32) ||| (qc &&& (63 : Int32)))))] (.int 0) := A9
        refine og2 X9 hx (fun j _ k => o_iloadN j (y d28_123) rfl <| o_iconstV j 3 (y d28_124) rfl <| o_iadd j (y d28_125) <| k) ?_
        rw [(by decide : (3 : Int32) + (3 : Int32) = (6 : Int32))]
        exact rI X9 hx Bd (y d28_126) e9 ⟨(by rw [(own_put3 C1 C3 (Or.inl C6) H2)]; rfl), N9, P9, (by rw [(own_put3 C1 C3 (Or.inl C6) H2)]; exact A9v)⟩
      · refine og2 X0 hx (fun j _ k => o_icmpNo j (y d28_56) (XT.ii_lt_f C6) <| o_iloadN j (y d28_59) rfl <| o_ldcI X0 hx hZ hown (w 148 rfl) (y d28_60) <| k) ?_
        by_cases C10 : (57343 : Int32) < qc
        · refine og2 X0 hx (fun j _ k => o_icmpYes j (pc' := 74) (y d28_62) (XT.ii_gt_t C10) <| o_iloadN j (y d28_74) rfl <| o_ldcI X0 hx hZ hown (w 149 rfl) (y d28_75) <| o_icmpNo j (y d28_77) (XT.ii_ge_f H2) <| o_aloadN j (y d28_80) rfl rfl <| o_iloadN j (y d28_81) rfl <| o_sipushV j 224 (y d28_82) rfl <| o_iloadN j (y d28_85) rfl <| o_bipushV j 12 (y d28_86) rfl <| o_ishr j (y d28_88) <| o_ior j (y d28_89) <| o_i2bO j (y d28_90) <| k) ?_
          refine sB (v := own_b ((224 : Int32) ||| (qc >>> ((12 : Int32) &&& 31)))) 3 X0 hx hZ e0 pr0 (own_nar_b _) (y d28_91) (fun T11 h11 X11 e11 W11 A11 => ?_)
          have N11 := Fr.snoc X11 (Fr.nil n0) H1
          have P11 := (Keep.refl h0 [ea]).wr W11 (Or.inl (List.mem_of_getElem? (i := 0) rfl))
          have A11v : Arv Z h11 ea ek .byte (6 : Int32) [(.int x0), (.int x1), (.int x2), (.int (own_b ((224 : Int32) ||| (qc >>> ((12 : Int32) &&& 31))))), (.int 0), (.int 0)] (.int 0) := A11
          refine og2 X11 hx (fun j _ k => o_aloadN j (y d28_92) rfl rfl <| o_iloadN j (y d28_93) rfl <| o_iconstV j 1 (y d28_94) rfl <| o_iadd j (y d28_95) <| k) ?_
          rw [(by decide : (3 : Int32) + (1 : Int32) = (4 : Int32))]
          refine og2 X11 hx (fun j _ k => o_sipushV j 128 (y d28_96) rfl <| o_iloadN j (y d28_99) rfl <| o_bipushV j 6 (y d28_100) rfl <| o_ishr j (y d28_102) <| o_bipushV j 63 (y d28_103) rfl <| o_iand j (y d28_105) <| o_ior j (y d28_106) <| o_i2bO j (y d28_107) <| k) ?_
          refine sB (v := own_b ((128 : Int32) ||| ((qc >>> ((6 : Int32) &&& 31)) &&& (63 : Int32)))) 4 X11 hx hZ e11 A11v (own_nar_b _) (y d28_108) (fun T12 h12 X12 e12 W12 A12 => ?_)
          have N12 := Fr.snoc X12 N11 H1
          have P12 := P11.wr W12 (Or.inl (List.mem_of_getElem? (i := 0) rfl))
          have A12v : Arv Z h12 ea ek .byte (6 : Int32) [(.int x0), (.int x1), (.int x2), (.int (own_b ((224 : Int32) ||| (qc >>> ((12 : Int32) &&& 31))))), (.int (own_b ((128 : Int32) ||| ((qc >>> ((6 : Int32) &&& 31)) &&& (63 : Int32))))), (.int 0)] (.int 0) := A12
          refine og2 X12 hx (fun j _ k => o_aloadN j (y d28_109) rfl rfl <| o_iloadN j (y d28_110) rfl <| o_iconstV j 2 (y d28_111) rfl <| o_iadd j (y d28_112) <| k) ?_
          rw [(by decide : (3 : Int32) + (2 : Int32) = (5 : Int32))]
          refine og2 X12 hx (fun j _ k => o_sipushV j 128 (y d28_113) rfl <| o_iloadN j (y d28_116) rfl <| o_bipushV j 63 (y d28_117) rfl <| o_iand j (y d28_119) <| o_ior j (y d28_120) <| o_i2bO j (y d28_121) <| k) ?_
          refine sB (v := own_b ((128 : Int32) ||| (qc &&& (63 : Int32)))) 5 X12 hx hZ e12 A12v (own_nar_b _) (y d28_122) (fun T13 h13 X13 e13 W13 A13 => ?_)
          have N13 := Fr.snoc X13 N12 H1
          have P13 := P12.wr W13 (Or.inl (List.mem_of_getElem? (i := 0) rfl))
          have A13v : Arv Z h13 ea ek .byte (6 : Int32) [(.int x0), (.int x1), (.int x2), (.int (own_b ((224 : Int32) ||| (qc >>> ((12 : Int32) &&& 31))))), (.int (own_b ((128 : Int32) ||| ((qc >>> ((6 : Int32) &&& 31)) &&& (63 : Int32))))), (.int (own_b ((128 : Int32) ||| (qc &&& (63 : Int32)))))] (.int 0) := A13
          refine og2 X13 hx (fun j _ k => o_iloadN j (y d28_123) rfl <| o_iconstV j 3 (y d28_124) rfl <| o_iadd j (y d28_125) <| k) ?_
          rw [(by decide : (3 : Int32) + (3 : Int32) = (6 : Int32))]
          exact rI X13 hx Bd (y d28_126) e13 ⟨(by rw [(own_put3 C1 C3 (Or.inr C10) H2)]; rfl), N13, P13, (by rw [(own_put3 C1 C3 (Or.inr C10) H2)]; exact A13v)⟩
        · refine og2 X0 hx (fun j _ k => o_icmpNo j (y d28_62) (XT.ii_gt_f C10) <| o_aloadN j (y d28_65) rfl rfl <| o_iloadN j (y d28_66) rfl <| o_bipushV j 63 (y d28_67) rfl <| k) ?_
          refine sB (v := (63 : Int32)) 3 X0 hx hZ e0 pr0 (by decide) (y d28_69) (fun T14 h14 X14 e14 W14 A14 => ?_)
          have N14 := Fr.snoc X14 (Fr.nil n0) H1
          have P14 := (Keep.refl h0 [ea]).wr W14 (Or.inl (List.mem_of_getElem? (i := 0) rfl))
          have A14v : Arv Z h14 ea ek .byte (6 : Int32) [(.int x0), (.int x1), (.int x2), (.int 63), (.int 0), (.int 0)] (.int 0) := A14
          refine og2 X14 hx (fun j _ k => o_iloadN j (y d28_70) rfl <| o_iconstV j 1 (y d28_71) rfl <| o_iadd j (y d28_72) <| k) ?_
          rw [(by decide : (3 : Int32) + (1 : Int32) = (4 : Int32))]
          exact rI X14 hx Bd (y d28_73) e14 ⟨(by rw [(own_putS C1 C3 C6 C10)]; rfl), N14, P14, (by rw [(own_putS C1 C3 C6 C10)]; exact A14v)⟩

def QPUL (Z : State) (ea : Addr) (ek : ClassId) (L0 : List Int32) (qc : Int32) (h0 : Heap) (n0 : Nat) (v : Option Value) (h : Heap) (L : List Loc) : Prop := v = some (.int (own_ln (L0 ++ own_put qc))) ∧ Fr n0 L ∧ Keep h0 h [ea] ∧ Arv Z h ea ek .byte (6 : Int32) (own_e6 (L0 ++ own_put qc)) (.int 0)
theorem rmPUL (l : Launch) (Z : State) (a0 : Array Value) (hw : HW a0 Z) (ws : List Jvm.Cond) (ea : Addr) (ek : ClassId) (L0 : List Int32) (qc : Int32) (h0 : Heap) (n0 : Nat) (Z0 : n0 ≤ h0.size) (pr0 : Arv Z h0 ea ek .byte (6 : Int32) (own_e6 L0) (.int 0)) (H1 : n0 ≤ ea) (H2 : qc < (65536 : Int32)) (H3 : L0.length ≤ 3) :
    MF l Z ⟨"com/example/unseen/unseen/KeysUtf8PinLaw", "put", "([BII)I"⟩ method_4_code 3 (some .int) ws R_0_0_0_0 #[(.ref ea), (.int (own_ln L0)), (.int qc)] h0 (QPUL Z ea ek L0 qc h0 n0) := by
  match L0, H3, pr0 with
  | [], _, pr => exact rmPU0 l Z a0 hw ws ea ek qc h0 n0 Z0 pr H1
  | [x0], _, pr => exact rmPU1 l Z a0 hw ws ea ek qc x0 h0 n0 Z0 pr H1 H2
  | [x0, x1], _, pr => exact rmPU2 l Z a0 hw ws ea ek qc x0 x1 h0 n0 Z0 pr H1 H2
  | [x0, x1, x2], _, pr => exact rmPU3 l Z a0 hw ws ea ek qc x0 x1 x2 h0 n0 Z0 pr H1 H2
  | _ :: _ :: _ :: _ :: _, q, _ => exact absurd q (by simp)

abbrev k27 := method_5_code
theorem d13_0 : decode k27 0 = .ok (.iload_n 2, 1) := by decide +kernel
theorem d13_1 : decode k27 1 = .ok (.iload_n 3, 1) := by decide +kernel
theorem d13_2 : decode k27 2 = .ok (.if_icmp .ge 12, 3) := by decide +kernel
theorem d13_5 : decode k27 5 = .ok (.aload_n 0, 1) := by decide +kernel
theorem d13_6 : decode k27 6 = .ok (.iload_n 2, 1) := by decide +kernel
theorem d13_7 : decode k27 7 = .ok (.baload, 1) := by decide +kernel
theorem d13_8 : decode k27 8 = .ok (.aload_n 1, 1) := by decide +kernel
theorem d13_9 : decode k27 9 = .ok (.iload_n 2, 1) := by decide +kernel
theorem d13_10 : decode k27 10 = .ok (.baload, 1) := by decide +kernel
theorem d13_11 : decode k27 11 = .ok (.if_icmp .ne 7, 3) := by decide +kernel
theorem d13_14 : decode k27 14 = .ok (.iconst 1, 1) := by decide +kernel
theorem d13_15 : decode k27 15 = .ok (.goto 4, 3) := by decide +kernel
theorem d13_19 : decode k27 19 = .ok (.ireturn, 1) := by decide +kernel
theorem ef14 (m : MethodId) (x0 : Addr) (x1 : Addr) (x2 : Int32) (x3 : Int32) : entryFrame m #[(.ref x0), (.ref x1), (.int x2), (.int x3)] 4 = (mkF m 0 #[.val (.ref x0), .val (.ref x1), .val (.int x2), .val (.int x3)] []) := by first | (simp [entryFrame, mkF, argsToLocals, Value.category]; done) | rfl
def QEQ (Z : State) (ra : Addr) (rk : ClassId) (ea : Addr) (ek : ClassId) (L0 : List Int32) (qi : Int32) (h0 : Heap) (n0 : Nat) (v : Option Value) (h : Heap) (L : List Loc) : Prop := v = some (.int 1) ∧ Fr n0 L ∧ h = h0
theorem rmEQ (l : Launch) (Z : State) (a0 : Array Value) (hw : HW a0 Z) (ws : List Jvm.Cond) (ra : Addr) (rk : ClassId) (ea : Addr) (ek : ClassId) (L0 : List Int32) (qi : Int32) (h0 : Heap) (n0 : Nat) (Z0 : n0 ≤ h0.size) (pr0 : Arv Z h0 ra rk .byte (own_ln (L0)) (own_vs (L0)) (.int 0)) (pr1 : Arv Z h0 ea ek .byte (6 : Int32) (own_e6 (L0)) (.int 0)) (H2 : ¬ qi < 0) (H3 : qi < (6 : Int32)) :
    MF l Z ⟨"com/example/unseen/unseen/KeysUtf8PinLaw", "eq", "([B[BII)Z"⟩ method_5_code 4 (some .boolean) ws R_0_0_0_0 #[(.ref ra), (.ref ea), (.int qi), (.int (own_ln L0))] h0 (QEQ Z ra rk ea ek L0 qi h0 n0) := by
  refine og_start (plainFor_of_name pn_com_example_unseen_unseen_KeysUtf8PinLaw) fun p e s m below meth c s₁ Bd hx hby hml hZ hown hnm X0 e0 => ?_
  have y := @hb _ _ hby
  refine og (fun t k => castTop (ef14 m ra ea qi (own_ln L0)) k) ?_
  refine og2 X0 hx (fun j _ k => o_iloadN j (y d13_0) rfl <| o_iloadN j (y d13_1) rfl <| k) ?_
  by_cases C1 : qi < (own_ln L0)
  · refine og2 X0 hx (fun j _ k => o_icmpNo j (y d13_2) (XT.ii_ge_f C1) <| o_aloadN j (y d13_5) rfl rfl <| o_iloadN j (y d13_6) rfl <| o_baload (v := (.int (own_at L0 qi))) X0 hx hZ e0 pr0 ⟨H2, C1⟩ (own_vs_at L0 qi) (y d13_7) <| o_aloadN j (y d13_8) rfl rfl <| o_iloadN j (y d13_9) rfl <| o_baload (v := (.int (own_at L0 qi))) X0 hx hZ e0 pr1 ⟨H2, H3⟩ (own_e6_at L0 qi) (y d13_10) <| o_icmpNo j (y d13_11) (XT.ii_ne_f rfl) <| o_iconstV j 1 (y d13_14) rfl <| o_goto j (pc' := 19) (y d13_15) <| k) ?_
    exact rN (v := (1 : Int32)) X0 hx Bd (by simp) rfl (y d13_19) e0 ⟨rfl, (Fr.nil n0), rfl⟩
  · refine og2 X0 hx (fun j _ k => o_icmpYes j (pc' := 14) (y d13_2) (XT.ii_ge_t C1) <| o_iconstV j 1 (y d13_14) rfl <| o_goto j (pc' := 19) (y d13_15) <| k) ?_
    exact rN (v := (1 : Int32)) X0 hx Bd (by simp) rfl (y d13_19) e0 ⟨rfl, (Fr.nil n0), rfl⟩

def QEQ0 (Z : State) (ra : Addr) (ea : Addr) (qi : Int32) (h0 : Heap) (n0 : Nat) (v : Option Value) (h : Heap) (L : List Loc) : Prop := v = some (.int 1) ∧ Fr n0 L ∧ h = h0
theorem rmEQ0 (l : Launch) (Z : State) (a0 : Array Value) (hw : HW a0 Z) (ws : List Jvm.Cond) (ra : Addr) (ea : Addr) (qi : Int32) (h0 : Heap) (n0 : Nat) (Z0 : n0 ≤ h0.size) (H0 : ¬ qi < (0 : Int32)) :
    MF l Z ⟨"com/example/unseen/unseen/KeysUtf8PinLaw", "eq", "([B[BII)Z"⟩ method_5_code 4 (some .boolean) ws R_0_0_0_0 #[(.ref ra), (.ref ea), (.int qi), (.int 0)] h0 (QEQ0 Z ra ea qi h0 n0) := by
  refine og_start (plainFor_of_name pn_com_example_unseen_unseen_KeysUtf8PinLaw) fun p e s m below meth c s₁ Bd hx hby hml hZ hown hnm X0 e0 => ?_
  have y := @hb _ _ hby
  refine og (fun t k => castTop (ef14 m ra ea qi (0 : Int32)) k) ?_
  refine og2 X0 hx (fun j _ k => o_iloadN j (y d13_0) rfl <| o_iloadN j (y d13_1) rfl <| o_icmpYes j (pc' := 14) (y d13_2) (XT.ii_ge_t H0) <| o_iconstV j 1 (y d13_14) rfl <| o_goto j (pc' := 19) (y d13_15) <| k) ?_
  exact rN (v := (1 : Int32)) X0 hx Bd (by simp) rfl (y d13_19) e0 ⟨rfl, (Fr.nil n0), rfl⟩

theorem pd_oIIcC : parseMethodDescriptor "(II)C" = some ⟨[.int, .int], some .char⟩ := by decide +kernel
theorem pd_oaCcV : parseMethodDescriptor "([C)V" = some ⟨[(.array .char)], none⟩ := by decide +kernel
theorem pd_oLjava_lang_CharSequencescaB : parseMethodDescriptor "(Ljava/lang/CharSequence;)[B" = some ⟨[(.object "java/lang/CharSequence")], some (.array .byte)⟩ := by decide +kernel
theorem pd_oaBaBIIcZ : parseMethodDescriptor "([B[BII)Z" = some ⟨[(.array .byte), (.array .byte), .int, .int], some .boolean⟩ := by decide +kernel
theorem ef15 (m : MethodId) (x0 : Int32) (x1 : Int32) (x2 : Int32) : entryFrame m #[(.int x0), (.int x1), (.int x2)] maxLocals = (mkF m 0 #[.val (.int x0), .val (.int x1), .val (.int x2), .unset, .unset, .unset, .unset, .unset, .unset, .unset] []) := by first | (simp [entryFrame, mkF, argsToLocals, Value.category, maxLocals]; done) | rfl
def Q0v0k (Z : State) (cs : Int32) (u8 : Addr) (p1 : Int32) (p2 : Int32) (p3 : Int32) (c0 : Int32) (c1 : Int32) (h0 : Heap) (n0 : Nat) (v : Option Value) (h : Heap) (L : List Loc) : Prop := v = some (.int 1) ∧ Fr n0 L
theorem rm0v0k (l : Launch) (Z : State) (a0 : Array Value) (hw : HW a0 Z) (ws : List Jvm.Cond) (cs : Int32) (u8 : Addr) (p1 : Int32) (p2 : Int32) (p3 : Int32) (c0 : Int32) (c1 : Int32) (h0 : Heap) (n0 : Nat) (Z0 : n0 ≤ h0.size) (H0 : OSt Z cs u8) (pr1 : Old Z n0 h0) (H2 : own_pick p1 (p3 &&& (3 : Int32)) = c0) (H3 : own_pick p2 ((XT.ushr p3 (2 : Int32)) &&& (3 : Int32)) = c1) (H4 : ((XT.ushr p3 (4 : Int32)) &&& (3 : Int32)) - (((XT.ushr p3 (4 : Int32)) &&& (3 : Int32)) / (3 : Int32)) * (3 : Int32) = 0) (H5 : OCh c0) (H6 : OCh c1) :
    MetFree l x (head1 (Jvm.Cond.code x code maxLocals ret :: ws) room_1) (fun a U => a = #[(.int p1), (.int p2), (.int p3)] ∧ Z.Warmed39 U.vm ∧ U.heap = h0 ∧ CHv Z own_EL U.vm h0) (fun _ _ _ _ _ => True) (fun _ U o U' => ∃ v L, o = .returned v ∧ Q0v0k Z cs u8 p1 p2 p3 c0 c1 h0 n0 v U'.heap L ∧ ReturnedEndW U o U' L room_1.cells room_1.slots) := by
  refine og_startH (plainFor_of_name pn_com_example_unseen_unseen_KeysUtf8PinLaw) fun p e s m below meth c s₁ Bd hx hby hml hZ hown hnm X0 e0 hS hkS hC0 => ?_
  have y := @hb _ _ hby
  have w := @wd _ _ hw
  refine og (fun t k => castTop (ef15 m p1 p2 p3) k) ?_
  refine og2 X0 hx (fun j _ k => o_iloadN j (y at_0) rfl <| o_iloadN j (y at_1) rfl <| o_iconstV j 3 (y at_2) rfl <| o_iand j (y at_3) <| k) ?_
  refine cS [(.int p1), (.int (p3 &&& (3 : Int32)))] [] 0 X0 hx hZ hown (w 0 rfl) (w 1 rfl) (w 2 rfl) (w 3 rfl) (rmPK l Z a0 hw [] p1 (p3 &&& (3 : Int32)) h0 n0 Z0) e0 hml pd_oIIcC (y at_4) (fun v1 T1 L1 hQ1 X1 => ?_)
  obtain ⟨rfl, N1a, eh1⟩ := hQ1
  have N1 := Fr.app (Fr.nil n0) N1a
  have e1 : T1.heap = h0 := eh1
  rw [H2]
  refine og2 X1 hx (fun j _ k => o_istoreN j (y at_7) (l' := #[.val (.int p1), .val (.int p2), .val (.int p3), .val (.int c0), .unset, .unset, .unset, .unset, .unset, .unset]) rfl <| o_iloadN j (y at_8) rfl <| o_iloadN j (y at_9) rfl <| o_iconstV j 2 (y at_10) rfl <| o_iushr j (y at_11) <| o_iconstV j 3 (y at_12) rfl <| o_iand j (y at_13) <| k) ?_
  refine cS [(.int p2), (.int ((XT.ushr p3 (2 : Int32)) &&& (3 : Int32)))] [] 0 X1 hx hZ hown (w 0 rfl) (w 1 rfl) (w 2 rfl) (w 3 rfl) (rmPK l Z a0 hw [] p2 ((XT.ushr p3 (2 : Int32)) &&& (3 : Int32)) h0 n0 Z0) e1 hml pd_oIIcC (y at_14) (fun v2 T2 L2 hQ2 X2 => ?_)
  obtain ⟨rfl, N2a, eh2⟩ := hQ2
  have N2 := Fr.app N1 N2a
  have e2 : T2.heap = h0 := eh2
  rw [H3]
  refine og2 X2 hx (fun j _ k => o_istore j (y at_17) (l' := #[.val (.int p1), .val (.int p2), .val (.int p3), .val (.int c0), .val (.int c1), .unset, .unset, .unset, .unset, .unset]) rfl <| o_iloadN j (y at_19) rfl <| o_iconstV j 4 (y at_20) rfl <| o_iushr j (y at_21) <| o_iconstV j 3 (y at_22) rfl <| o_iand j (y at_23) <| o_iconstV j 3 (y at_24) rfl <| o_irem j (y at_25) (by decide) <| k) ?_
  rw [H4]
  refine og2 X2 hx (fun j _ k => o_istore j (y at_26) (l' := #[.val (.int p1), .val (.int p2), .val (.int p3), .val (.int c0), .val (.int c1), .val (.int 0), .unset, .unset, .unset, .unset]) rfl <| o_iload j (y at_28) rfl <| o_ifNo j (y at_30) (by decide) <| k) ?_
  refine nO X2 hx hZ hown (w 5 rfl) (w 6 rfl) (w 7 rfl) e2 (y at_33) (fun T3 h3 a3 g3 X3 e3 E3 A3 D3 => ?_)
  have Z3 : n0 ≤ h3.size := Nat.le_trans Z0 E3.1
  have G3 : n0 ≤ a3 := Nat.le_trans Z0 (Nat.le_of_eq g3.symm)
  have O4 := (pr1.ext E3)
  have CH5 : CHv Z own_EL s.vm h3 := (hC0.ext E3)
  have F6 : Fld Z h3 a3 "java/lang/String" "value" "[B" .null := (D3 (Or.inr (w 21 rfl)) (ty := (.array .byte)) (by decide))
  have F7 : Fld Z h3 a3 "java/lang/String" "coder" "B" (.int 0) := (D3 (Or.inr (w 22 rfl)) (ty := .byte) (by decide))
  refine og2 X3 hx (fun j _ k => o_dup j (y at_36) rfl <| o_iconstV j 0 (y at_37) rfl <| k) ?_
  refine nP .char 0 "[C" X3 hx hZ (w 8 rfl) e3 (y at_38) (fun T8 h8 a8 kc8 g8 X8 e8 E8 A8 D8 => ?_)
  have Z8 : n0 ≤ h8.size := Nat.le_trans Z3 E8.1
  have O9 := (O4.ext E8)
  have E10 := (Exa.ext E8 A3)
  have F11 := (Fld.ext E8 F6)
  have F12 := (Fld.ext E8 F7)
  have CH13 : CHv Z own_EL s.vm h8 := (CH5.ext E8)
  have A14 : Arv Z h8 a8 kc8 .char (0 : Int32) [] (.int 0) := (A8.pad (pad_rep [] _ 0))
  refine cIS a3 [(.ref a8)] [(.ref a3)] 1 X8 hx hZ hown hS (Nat.le_trans (Nat.le_trans hkS E3.1) E8.1) (w 9 rfl) (w 10 rfl) (w 11 rfl) (own_backSH (W := 1) (rmI10k l Z a0 hw [] cs u8 a3 a8 kc8 h8 n0 Z8 H0 O9 F11 F12 E10 A14 G3) hZ (w 11 rfl) (w 7 rfl) (by decide) (by decide) (own_EW hw) CH13) e8 hml pd_oaCcV (y at_40) (fun v15 T15 L15 hQ15 X15 hS hZ hown => ?_)
  obtain ⟨b_15, bk_15, rfl, N15a, K15, Q15_0, Q15_1, Q15_2, Q15_3, Q15_4⟩ := hQ15
  have N15 := Fr.app N2 N15a
  have e15 : T15.heap = T15.heap := rfl
  have Z15 : n0 ≤ T15.heap.size := (Nat.le_trans Z8 K15.1)
  have O16 := (O9.keep K15 (allS G3 all0))
  have E17 := (E10.keep K15)
  have A18 := (A14.keep K15 (ninS (Ne.symm (Nat.ne_of_lt (Nat.lt_of_lt_of_eq A3.lt g8.symm))) nin0))
  have hkS : T15.heap.size ≤ T15.heap.size := Nat.le_refl _
  refine og2 X15 hx (fun j _ k => o_astore j (y at_43) rfl (l' := #[.val (.int p1), .val (.int p2), .val (.int p3), .val (.int c0), .val (.int c1), .val (.int 0), .val (.ref a3), .unset, .unset, .unset]) rfl <| o_goto j (pc' := 94) (y at_45) <| o_aload j (y at_94) rfl rfl <| k) ?_
  refine cSS [(.ref a3)] [] 0 X15 hx hZ hown hS hkS (w 27 rfl) (w 28 rfl) (w 29 rfl) (w 30 rfl) (rmKU00 l Z a0 hw [] cs u8 a3 b_15 bk_15 T15.heap n0 Z15 H0 O16 Q15_3 Q15_1 Q15_0 Q15_2 Q15_4) e15 hml pd_oLjava_lang_CharSequencescaB (y at_96) (fun v19 T19 L19 hQ19 X19 hS hZ hown => ?_)
  obtain ⟨r_19, rk_19, rfl, N19a, K19, Q19_0, Q19_1⟩ := hQ19
  have N19 := Fr.app N15 N19a
  have e19 : T19.heap = T19.heap := rfl
  have Z19 : n0 ≤ T19.heap.size := (Nat.le_trans Z15 K19.1)
  have ne19_a3_r : a3 ≠ r_19 := Nat.ne_of_lt (Nat.lt_of_lt_of_le E17.lt Q19_1)
  have ne19_a8_r : a8 ≠ r_19 := Nat.ne_of_lt (Nat.lt_of_lt_of_le A18.lt Q19_1)
  have ne19_b_15_r : b_15 ≠ r_19 := Nat.ne_of_lt (Nat.lt_of_lt_of_le Q15_3.lt Q19_1)
  have hkS : T19.heap.size ≤ T19.heap.size := Nat.le_refl _
  refine og2 X19 hx (fun j _ k => o_astore j (y at_99) rfl (l' := #[.val (.int p1), .val (.int p2), .val (.int p3), .val (.int c0), .val (.int c1), .val (.int 0), .val (.ref a3), .val (.ref r_19), .unset, .unset]) rfl <| o_bipushV j 6 (y at_101) rfl <| k) ?_
  refine nP .byte 6 "[B" X19 hx hZ (w 20 rfl) e19 (y at_103) (fun T28 h28 a28 kc28 g28 X28 e28 E28 A28 D28 => ?_)
  have Z28 : n0 ≤ h28.size := Nat.le_trans Z19 E28.1
  have A37 := (Q19_0.ext E28)
  refine og2 X28 hx (fun j _ k => o_astore j (y at_105) rfl (l' := #[.val (.int p1), .val (.int p2), .val (.int p3), .val (.int c0), .val (.int c1), .val (.int 0), .val (.ref a3), .val (.ref r_19), .val (.ref a28), .unset]) rfl <| o_iconstV j 0 (y at_107) rfl <| o_istore j (y at_108) (l' := #[.val (.int p1), .val (.int p2), .val (.int p3), .val (.int c0), .val (.int c1), .val (.int 0), .val (.ref a3), .val (.ref r_19), .val (.ref a28), .val (.int 0)]) rfl <| o_iload j (y at_110) rfl <| o_iconstV j 1 (y at_112) rfl <| o_icmpYes j (pc' := 201) (y at_113) (XT.ii_lt_t (by decide)) <| o_aload j (y at_201) rfl rfl <| o_alen X28 hx hZ e28 A37 (y at_203) <| o_iload j (y at_204) rfl <| o_icmpNo j (y at_206) (XT.ii_ne_f rfl) <| o_aload j (y at_209) rfl rfl <| o_aload j (y at_211) rfl rfl <| o_iconstV j 0 (y at_213) rfl <| o_iload j (y at_214) rfl <| k) ?_
  refine cS [(.ref r_19), (.ref a28), (.int 0), (.int 0)] [] 0 X28 hx hZ hown (w 82 rfl) (w 83 rfl) (w 2 rfl) (w 84 rfl) (rmEQ0 l Z a0 hw [] r_19 a28 (0 : Int32) h28 n0 Z28 (by decide)) e28 hml pd_oaBaBIIcZ (y at_216) (fun v39 T39 L39 hQ39 X39 => ?_)
  obtain ⟨rfl, N39a, eh39⟩ := hQ39
  have N39 := Fr.app N19 N39a
  have e39 : T39.heap = h28 := eh39
  refine og2 X39 hx (fun j _ k => o_ifNo j (y at_219) (by decide) <| o_aload j (y at_222) rfl rfl <| o_aload j (y at_224) rfl rfl <| o_iconstV j 1 (y at_226) rfl <| o_iload j (y at_227) rfl <| k) ?_
  refine cS [(.ref r_19), (.ref a28), (.int 1), (.int 0)] [] 0 X39 hx hZ hown (w 82 rfl) (w 83 rfl) (w 2 rfl) (w 84 rfl) (rmEQ0 l Z a0 hw [] r_19 a28 (1 : Int32) h28 n0 Z28 (by decide)) e39 hml pd_oaBaBIIcZ (y at_229) (fun v40 T40 L40 hQ40 X40 => ?_)
  obtain ⟨rfl, N40a, eh40⟩ := hQ40
  have N40 := Fr.app N39 N40a
  have e40 : T40.heap = h28 := eh40
  refine og2 X40 hx (fun j _ k => o_ifNo j (y at_232) (by decide) <| o_aload j (y at_235) rfl rfl <| o_aload j (y at_237) rfl rfl <| o_iconstV j 2 (y at_239) rfl <| o_iload j (y at_240) rfl <| k) ?_
  refine cS [(.ref r_19), (.ref a28), (.int 2), (.int 0)] [] 0 X40 hx hZ hown (w 82 rfl) (w 83 rfl) (w 2 rfl) (w 84 rfl) (rmEQ0 l Z a0 hw [] r_19 a28 (2 : Int32) h28 n0 Z28 (by decide)) e40 hml pd_oaBaBIIcZ (y at_242) (fun v41 T41 L41 hQ41 X41 => ?_)
  obtain ⟨rfl, N41a, eh41⟩ := hQ41
  have N41 := Fr.app N40 N41a
  have e41 : T41.heap = h28 := eh41
  refine og2 X41 hx (fun j _ k => o_ifNo j (y at_245) (by decide) <| o_aload j (y at_248) rfl rfl <| o_aload j (y at_250) rfl rfl <| o_iconstV j 3 (y at_252) rfl <| o_iload j (y at_253) rfl <| k) ?_
  refine cS [(.ref r_19), (.ref a28), (.int 3), (.int 0)] [] 0 X41 hx hZ hown (w 82 rfl) (w 83 rfl) (w 2 rfl) (w 84 rfl) (rmEQ0 l Z a0 hw [] r_19 a28 (3 : Int32) h28 n0 Z28 (by decide)) e41 hml pd_oaBaBIIcZ (y at_255) (fun v42 T42 L42 hQ42 X42 => ?_)
  obtain ⟨rfl, N42a, eh42⟩ := hQ42
  have N42 := Fr.app N41 N42a
  have e42 : T42.heap = h28 := eh42
  refine og2 X42 hx (fun j _ k => o_ifNo j (y at_258) (by decide) <| o_aload j (y at_261) rfl rfl <| o_aload j (y at_263) rfl rfl <| o_iconstV j 4 (y at_265) rfl <| o_iload j (y at_266) rfl <| k) ?_
  refine cS [(.ref r_19), (.ref a28), (.int 4), (.int 0)] [] 0 X42 hx hZ hown (w 82 rfl) (w 83 rfl) (w 2 rfl) (w 84 rfl) (rmEQ0 l Z a0 hw [] r_19 a28 (4 : Int32) h28 n0 Z28 (by decide)) e42 hml pd_oaBaBIIcZ (y at_268) (fun v43 T43 L43 hQ43 X43 => ?_)
  obtain ⟨rfl, N43a, eh43⟩ := hQ43
  have N43 := Fr.app N42 N43a
  have e43 : T43.heap = h28 := eh43
  refine og2 X43 hx (fun j _ k => o_ifNo j (y at_271) (by decide) <| o_aload j (y at_274) rfl rfl <| o_aload j (y at_276) rfl rfl <| o_iconstV j 5 (y at_278) rfl <| o_iload j (y at_279) rfl <| k) ?_
  refine cS [(.ref r_19), (.ref a28), (.int 5), (.int 0)] [] 0 X43 hx hZ hown (w 82 rfl) (w 83 rfl) (w 2 rfl) (w 84 rfl) (rmEQ0 l Z a0 hw [] r_19 a28 (5 : Int32) h28 n0 Z28 (by decide)) e43 hml pd_oaBaBIIcZ (y at_281) (fun v44 T44 L44 hQ44 X44 => ?_)
  obtain ⟨rfl, N44a, eh44⟩ := hQ44
  have N44 := Fr.app N43 N44a
  have e44 : T44.heap = h28 := eh44
  refine og2 X44 hx (fun j _ k => o_ifNo j (y at_284) (by decide) <| o_iconstV j 1 (y at_287) rfl <| o_goto j (pc' := 292) (y at_288) <| k) ?_
  exact rNW (v := (1 : Int32)) X44 hx Bd hS (Nat.le_trans hkS E28.1) (by simp) rfl (y at_292) e44 ⟨rfl, N44⟩

def Q0v1k (Z : State) (cs : Int32) (u8 : Addr) (p1 : Int32) (p2 : Int32) (p3 : Int32) (c0 : Int32) (c1 : Int32) (h0 : Heap) (n0 : Nat) (v : Option Value) (h : Heap) (L : List Loc) : Prop := v = some (.int 1) ∧ Fr n0 L
theorem rm0v1k (l : Launch) (Z : State) (a0 : Array Value) (hw : HW a0 Z) (ws : List Jvm.Cond) (cs : Int32) (u8 : Addr) (p1 : Int32) (p2 : Int32) (p3 : Int32) (c0 : Int32) (c1 : Int32) (h0 : Heap) (n0 : Nat) (Z0 : n0 ≤ h0.size) (H0 : OSt Z cs u8) (pr1 : Old Z n0 h0) (H2 : own_pick p1 (p3 &&& (3 : Int32)) = c0) (H3 : own_pick p2 ((XT.ushr p3 (2 : Int32)) &&& (3 : Int32)) = c1) (H4 : ((XT.ushr p3 (4 : Int32)) &&& (3 : Int32)) - (((XT.ushr p3 (4 : Int32)) &&& (3 : Int32)) / (3 : Int32)) * (3 : Int32) = 1) (H5 : OCh c0) (H6 : OCh c1) (H7 : ¬ (255 : Int32) < c0) :
    MetFree l x (head1 (Jvm.Cond.code x code maxLocals ret :: ws) room_1) (fun a U => a = #[(.int p1), (.int p2), (.int p3)] ∧ Z.Warmed39 U.vm ∧ U.heap = h0 ∧ CHv Z own_EL U.vm h0) (fun _ _ _ _ _ => True) (fun _ U o U' => ∃ v L, o = .returned v ∧ Q0v1k Z cs u8 p1 p2 p3 c0 c1 h0 n0 v U'.heap L ∧ ReturnedEndW U o U' L room_1.cells room_1.slots) := by
  refine og_startH (plainFor_of_name pn_com_example_unseen_unseen_KeysUtf8PinLaw) fun p e s m below meth c s₁ Bd hx hby hml hZ hown hnm X0 e0 hS hkS hC0 => ?_
  have y := @hb _ _ hby
  have w := @wd _ _ hw
  refine og (fun t k => castTop (ef15 m p1 p2 p3) k) ?_
  refine og2 X0 hx (fun j _ k => o_iloadN j (y at_0) rfl <| o_iloadN j (y at_1) rfl <| o_iconstV j 3 (y at_2) rfl <| o_iand j (y at_3) <| k) ?_
  refine cS [(.int p1), (.int (p3 &&& (3 : Int32)))] [] 0 X0 hx hZ hown (w 0 rfl) (w 1 rfl) (w 2 rfl) (w 3 rfl) (rmPK l Z a0 hw [] p1 (p3 &&& (3 : Int32)) h0 n0 Z0) e0 hml pd_oIIcC (y at_4) (fun v1 T1 L1 hQ1 X1 => ?_)
  obtain ⟨rfl, N1a, eh1⟩ := hQ1
  have N1 := Fr.app (Fr.nil n0) N1a
  have e1 : T1.heap = h0 := eh1
  rw [H2]
  refine og2 X1 hx (fun j _ k => o_istoreN j (y at_7) (l' := #[.val (.int p1), .val (.int p2), .val (.int p3), .val (.int c0), .unset, .unset, .unset, .unset, .unset, .unset]) rfl <| o_iloadN j (y at_8) rfl <| o_iloadN j (y at_9) rfl <| o_iconstV j 2 (y at_10) rfl <| o_iushr j (y at_11) <| o_iconstV j 3 (y at_12) rfl <| o_iand j (y at_13) <| k) ?_
  refine cS [(.int p2), (.int ((XT.ushr p3 (2 : Int32)) &&& (3 : Int32)))] [] 0 X1 hx hZ hown (w 0 rfl) (w 1 rfl) (w 2 rfl) (w 3 rfl) (rmPK l Z a0 hw [] p2 ((XT.ushr p3 (2 : Int32)) &&& (3 : Int32)) h0 n0 Z0) e1 hml pd_oIIcC (y at_14) (fun v2 T2 L2 hQ2 X2 => ?_)
  obtain ⟨rfl, N2a, eh2⟩ := hQ2
  have N2 := Fr.app N1 N2a
  have e2 : T2.heap = h0 := eh2
  rw [H3]
  refine og2 X2 hx (fun j _ k => o_istore j (y at_17) (l' := #[.val (.int p1), .val (.int p2), .val (.int p3), .val (.int c0), .val (.int c1), .unset, .unset, .unset, .unset, .unset]) rfl <| o_iloadN j (y at_19) rfl <| o_iconstV j 4 (y at_20) rfl <| o_iushr j (y at_21) <| o_iconstV j 3 (y at_22) rfl <| o_iand j (y at_23) <| o_iconstV j 3 (y at_24) rfl <| o_irem j (y at_25) (by decide) <| k) ?_
  rw [H4]
  refine og2 X2 hx (fun j _ k => o_istore j (y at_26) (l' := #[.val (.int p1), .val (.int p2), .val (.int p3), .val (.int c0), .val (.int c1), .val (.int 1), .unset, .unset, .unset, .unset]) rfl <| o_iload j (y at_28) rfl <| o_ifYes j (pc' := 48) (y at_30) (by decide) <| o_iload j (y at_48) rfl <| o_iconstV j 1 (y at_50) rfl <| o_icmpNo j (y at_51) (XT.ii_ne_f rfl) <| k) ?_
  refine nO X2 hx hZ hown (w 5 rfl) (w 6 rfl) (w 7 rfl) e2 (y at_54) (fun T3 h3 a3 g3 X3 e3 E3 A3 D3 => ?_)
  have Z3 : n0 ≤ h3.size := Nat.le_trans Z0 E3.1
  have G3 : n0 ≤ a3 := Nat.le_trans Z0 (Nat.le_of_eq g3.symm)
  have O4 := (pr1.ext E3)
  have F6 : Fld Z h3 a3 "java/lang/String" "value" "[B" .null := (D3 (Or.inr (w 21 rfl)) (ty := (.array .byte)) (by decide))
  have F7 : Fld Z h3 a3 "java/lang/String" "coder" "B" (.int 0) := (D3 (Or.inr (w 22 rfl)) (ty := .byte) (by decide))
  refine og2 X3 hx (fun j _ k => o_dup j (y at_57) rfl <| o_iconstV j 1 (y at_58) rfl <| k) ?_
  refine nP .char 1 "[C" X3 hx hZ (w 8 rfl) e3 (y at_59) (fun T8 h8 a8 kc8 g8 X8 e8 E8 A8 D8 => ?_)
  have Z8 : n0 ≤ h8.size := Nat.le_trans Z3 E8.1
  have G8 : n0 ≤ a8 := Nat.le_trans Z3 (Nat.le_of_eq g8.symm)
  have O9 := (O4.ext E8)
  have E10 := (Exa.ext E8 A3)
  have F11 := (Fld.ext E8 F6)
  have F12 := (Fld.ext E8 F7)
  have A14 : Arv Z h8 a8 kc8 .char (1 : Int32) [(.int 0)] (.int 0) := (A8.pad (pad_rep [] _ 1))
  refine og2 X8 hx (fun j _ k => o_dup j (y at_61) rfl <| o_iconstV j 0 (y at_62) rfl <| o_iloadN j (y at_63) rfl <| k) ?_
  refine sC (v := c0) 0 X8 hx hZ e8 A14 (own_nar_ch H5) (y at_64) (fun T15 h15 X15 e15 W15 A15 => ?_)
  have N15 := Fr.snoc X15 N2 G8
  have Z15 : n0 ≤ h15.size := (by rw [W15.size]; exact Z8)
  have O16 := (O9.wr W15 G8)
  have E17 := (Exa.wr W15 E10)
  have F18 := (Fld.other W15 F11 (Or.inl (Nat.ne_of_lt (Nat.lt_of_lt_of_eq A3.lt g8.symm))))
  have F19 := (Fld.other W15 F12 (Or.inl (Nat.ne_of_lt (Nat.lt_of_lt_of_eq A3.lt g8.symm))))
  have A15v : Arv Z h15 a8 kc8 .char (1 : Int32) [(.int c0)] (.int 0) := A15
  refine cI a3 [(.ref a8)] [(.ref a3)] 1 X15 hx hZ hown (w 9 rfl) (w 10 rfl) (w 7 rfl) (w 11 rfl) (rmI11k l Z a0 hw [] cs u8 a3 a8 kc8 c0 h15 n0 Z15 H0 O16 F18 F19 E17 A15v G3 H7 H5) e15 hml pd_oaCcV (y at_65) (fun v20 T20 L20 hQ20 X20 => ?_)
  obtain ⟨b_20, bk_20, rfl, N20a, K20, Q20_0, Q20_1, Q20_2, Q20_3, Q20_4⟩ := hQ20
  have N20 := Fr.app N15 N20a
  have e20 : T20.heap = T20.heap := rfl
  have Z20 : n0 ≤ T20.heap.size := (Nat.le_trans Z15 K20.1)
  have O21 := (O16.keep K20 (allS G3 all0))
  have E22 := (E17.keep K20)
  have A23 := (A15v.keep K20 (ninS (Ne.symm (Nat.ne_of_lt (Nat.lt_of_lt_of_eq A3.lt g8.symm))) nin0))
  refine og2 X20 hx (fun j _ k => o_astore j (y at_68) rfl (l' := #[.val (.int p1), .val (.int p2), .val (.int p3), .val (.int c0), .val (.int c1), .val (.int 1), .val (.ref a3), .unset, .unset, .unset]) rfl <| o_goto j (pc' := 94) (y at_70) <| o_aload j (y at_94) rfl rfl <| k) ?_
  refine cSS [(.ref a3)] [] 0 X20 hx hZ hown hS (Nat.le_trans (Nat.le_trans (Nat.le_trans (Nat.le_trans hkS E3.1) E8.1) (Nat.le_of_eq W15.size.symm)) K20.1) (w 27 rfl) (w 28 rfl) (w 29 rfl) (w 30 rfl) (rmKU10 l Z a0 hw [] cs u8 a3 b_20 bk_20 c0 T20.heap n0 Z20 H0 O21 Q20_3 Q20_1 Q20_0 Q20_2 Q20_4 H5 H7) e20 hml pd_oLjava_lang_CharSequencescaB (y at_96) (fun v24 T24 L24 hQ24 X24 hS hZ hown => ?_)
  obtain ⟨r_24, rk_24, rfl, N24a, K24, Q24_0, Q24_1⟩ := hQ24
  have N24 := Fr.app N20 N24a
  have e24 : T24.heap = T24.heap := rfl
  have Z24 : n0 ≤ T24.heap.size := (Nat.le_trans Z20 K24.1)
  have ne24_a3_r : a3 ≠ r_24 := Nat.ne_of_lt (Nat.lt_of_lt_of_le E22.lt Q24_1)
  have ne24_a8_r : a8 ≠ r_24 := Nat.ne_of_lt (Nat.lt_of_lt_of_le A23.lt Q24_1)
  have ne24_b_20_r : b_20 ≠ r_24 := Nat.ne_of_lt (Nat.lt_of_lt_of_le Q20_3.lt Q24_1)
  have hkS : T24.heap.size ≤ T24.heap.size := Nat.le_refl _
  refine og2 X24 hx (fun j _ k => o_astore j (y at_99) rfl (l' := #[.val (.int p1), .val (.int p2), .val (.int p3), .val (.int c0), .val (.int c1), .val (.int 1), .val (.ref a3), .val (.ref r_24), .unset, .unset]) rfl <| o_bipushV j 6 (y at_101) rfl <| k) ?_
  refine nP .byte 6 "[B" X24 hx hZ (w 20 rfl) e24 (y at_103) (fun T33 h33 a33 kc33 g33 X33 e33 E33 A33 D33 => ?_)
  have Z33 : n0 ≤ h33.size := Nat.le_trans Z24 E33.1
  have G33 : n0 ≤ a33 := Nat.le_trans Z24 (Nat.le_of_eq g33.symm)
  have A42 := (Q24_0.ext E33)
  have A43 : Arv Z h33 a33 kc33 .byte (6 : Int32) [(.int 0), (.int 0), (.int 0), (.int 0), (.int 0), (.int 0)] (.int 0) := (A33.pad (pad_rep [] _ 6))
  refine og2 X33 hx (fun j _ k => o_astore j (y at_105) rfl (l' := #[.val (.int p1), .val (.int p2), .val (.int p3), .val (.int c0), .val (.int c1), .val (.int 1), .val (.ref a3), .val (.ref r_24), .val (.ref a33), .unset]) rfl <| o_iconstV j 0 (y at_107) rfl <| o_istore j (y at_108) (l' := #[.val (.int p1), .val (.int p2), .val (.int p3), .val (.int c0), .val (.int c1), .val (.int 1), .val (.ref a3), .val (.ref r_24), .val (.ref a33), .val (.int 0)]) rfl <| o_iload j (y at_110) rfl <| o_iconstV j 1 (y at_112) rfl <| o_icmpNo j (y at_113) (XT.ii_lt_f (by decide)) <| o_iload j (y at_116) rfl <| o_iconstV j 2 (y at_118) rfl <| o_icmpYes j (pc' := 175) (y at_119) (XT.ii_ne_t (by decide)) <| o_aload j (y at_175) rfl rfl <| o_iconstV j 0 (y at_177) rfl <| o_iloadN j (y at_178) rfl <| k) ?_
  refine cS [(.ref a33), (.int 0), (.int c0)] [] 0 X33 hx hZ hown (w 145 rfl) (w 146 rfl) (w 2 rfl) (w 147 rfl) (rmPU0 l Z a0 hw [] a33 kc33 c0 h33 n0 Z33 A43 G33) e33 hml pd_oaBIIcI (y at_179) (fun v44 T44 L44 hQ44 X44 => ?_)
  obtain ⟨rfl, N44a, K44, Q44_0⟩ := hQ44
  have N44 := Fr.app N24 N44a
  have e44 : T44.heap = T44.heap := rfl
  have Z44 : n0 ≤ T44.heap.size := (Nat.le_trans Z33 K44.1)
  have A53 := (A42.keep K44 (ninS (Nat.ne_of_lt (Nat.lt_of_lt_of_eq Q24_0.lt g33.symm)) nin0))
  refine og2 X44 hx (fun j _ k => o_istore j (y at_182) (l' := #[.val (.int p1), .val (.int p2), .val (.int p3), .val (.int c0), .val (.int c1), .val (.int 1), .val (.ref a3), .val (.ref r_24), .val (.ref a33), .val (.int (own_ln ([] ++ own_put c0)))]) rfl <| o_iload j (y at_184) rfl <| o_iconstV j 2 (y at_186) rfl <| o_icmpYes j (pc' := 201) (y at_187) (XT.ii_ne_t (by decide)) <| k) ?_
  have RA54 : Arv Z T44.heap r_24 rk_24 .byte (own_ln ([] ++ own_put c0)) (own_vs ([] ++ own_put c0)) (.int 0) := (rfl : own_put c0 = [] ++ own_put c0) ▸ A53
  refine og2 X44 hx (fun j _ k => o_aload j (y at_201) rfl rfl <| o_alen X44 hx hZ e44 RA54 (y at_203) <| o_iload j (y at_204) rfl <| o_icmpNo j (y at_206) (XT.ii_ne_f rfl) <| o_aload j (y at_209) rfl rfl <| o_aload j (y at_211) rfl rfl <| o_iconstV j 0 (y at_213) rfl <| o_iload j (y at_214) rfl <| k) ?_
  refine cS [(.ref r_24), (.ref a33), (.int 0), (.int (own_ln ([] ++ own_put c0)))] [] 0 X44 hx hZ hown (w 82 rfl) (w 83 rfl) (w 2 rfl) (w 84 rfl) (rmEQ l Z a0 hw [] r_24 rk_24 a33 kc33 ([] ++ own_put c0) (0 : Int32) T44.heap n0 Z44 RA54 Q44_0 (by decide) (by decide)) e44 hml pd_oaBaBIIcZ (y at_216) (fun v55 T55 L55 hQ55 X55 => ?_)
  obtain ⟨rfl, N55a, eh55⟩ := hQ55
  have N55 := Fr.app N44 N55a
  have e55 : T55.heap = T44.heap := eh55
  refine og2 X55 hx (fun j _ k => o_ifNo j (y at_219) (by decide) <| o_aload j (y at_222) rfl rfl <| o_aload j (y at_224) rfl rfl <| o_iconstV j 1 (y at_226) rfl <| o_iload j (y at_227) rfl <| k) ?_
  refine cS [(.ref r_24), (.ref a33), (.int 1), (.int (own_ln ([] ++ own_put c0)))] [] 0 X55 hx hZ hown (w 82 rfl) (w 83 rfl) (w 2 rfl) (w 84 rfl) (rmEQ l Z a0 hw [] r_24 rk_24 a33 kc33 ([] ++ own_put c0) (1 : Int32) T44.heap n0 Z44 RA54 Q44_0 (by decide) (by decide)) e55 hml pd_oaBaBIIcZ (y at_229) (fun v56 T56 L56 hQ56 X56 => ?_)
  obtain ⟨rfl, N56a, eh56⟩ := hQ56
  have N56 := Fr.app N55 N56a
  have e56 : T56.heap = T44.heap := eh56
  refine og2 X56 hx (fun j _ k => o_ifNo j (y at_232) (by decide) <| o_aload j (y at_235) rfl rfl <| o_aload j (y at_237) rfl rfl <| o_iconstV j 2 (y at_239) rfl <| o_iload j (y at_240) rfl <| k) ?_
  refine cS [(.ref r_24), (.ref a33), (.int 2), (.int (own_ln ([] ++ own_put c0)))] [] 0 X56 hx hZ hown (w 82 rfl) (w 83 rfl) (w 2 rfl) (w 84 rfl) (rmEQ l Z a0 hw [] r_24 rk_24 a33 kc33 ([] ++ own_put c0) (2 : Int32) T44.heap n0 Z44 RA54 Q44_0 (by decide) (by decide)) e56 hml pd_oaBaBIIcZ (y at_242) (fun v57 T57 L57 hQ57 X57 => ?_)
  obtain ⟨rfl, N57a, eh57⟩ := hQ57
  have N57 := Fr.app N56 N57a
  have e57 : T57.heap = T44.heap := eh57
  refine og2 X57 hx (fun j _ k => o_ifNo j (y at_245) (by decide) <| o_aload j (y at_248) rfl rfl <| o_aload j (y at_250) rfl rfl <| o_iconstV j 3 (y at_252) rfl <| o_iload j (y at_253) rfl <| k) ?_
  refine cS [(.ref r_24), (.ref a33), (.int 3), (.int (own_ln ([] ++ own_put c0)))] [] 0 X57 hx hZ hown (w 82 rfl) (w 83 rfl) (w 2 rfl) (w 84 rfl) (rmEQ l Z a0 hw [] r_24 rk_24 a33 kc33 ([] ++ own_put c0) (3 : Int32) T44.heap n0 Z44 RA54 Q44_0 (by decide) (by decide)) e57 hml pd_oaBaBIIcZ (y at_255) (fun v58 T58 L58 hQ58 X58 => ?_)
  obtain ⟨rfl, N58a, eh58⟩ := hQ58
  have N58 := Fr.app N57 N58a
  have e58 : T58.heap = T44.heap := eh58
  refine og2 X58 hx (fun j _ k => o_ifNo j (y at_258) (by decide) <| o_aload j (y at_261) rfl rfl <| o_aload j (y at_263) rfl rfl <| o_iconstV j 4 (y at_265) rfl <| o_iload j (y at_266) rfl <| k) ?_
  refine cS [(.ref r_24), (.ref a33), (.int 4), (.int (own_ln ([] ++ own_put c0)))] [] 0 X58 hx hZ hown (w 82 rfl) (w 83 rfl) (w 2 rfl) (w 84 rfl) (rmEQ l Z a0 hw [] r_24 rk_24 a33 kc33 ([] ++ own_put c0) (4 : Int32) T44.heap n0 Z44 RA54 Q44_0 (by decide) (by decide)) e58 hml pd_oaBaBIIcZ (y at_268) (fun v59 T59 L59 hQ59 X59 => ?_)
  obtain ⟨rfl, N59a, eh59⟩ := hQ59
  have N59 := Fr.app N58 N59a
  have e59 : T59.heap = T44.heap := eh59
  refine og2 X59 hx (fun j _ k => o_ifNo j (y at_271) (by decide) <| o_aload j (y at_274) rfl rfl <| o_aload j (y at_276) rfl rfl <| o_iconstV j 5 (y at_278) rfl <| o_iload j (y at_279) rfl <| k) ?_
  refine cS [(.ref r_24), (.ref a33), (.int 5), (.int (own_ln ([] ++ own_put c0)))] [] 0 X59 hx hZ hown (w 82 rfl) (w 83 rfl) (w 2 rfl) (w 84 rfl) (rmEQ l Z a0 hw [] r_24 rk_24 a33 kc33 ([] ++ own_put c0) (5 : Int32) T44.heap n0 Z44 RA54 Q44_0 (by decide) (by decide)) e59 hml pd_oaBaBIIcZ (y at_281) (fun v60 T60 L60 hQ60 X60 => ?_)
  obtain ⟨rfl, N60a, eh60⟩ := hQ60
  have N60 := Fr.app N59 N60a
  have e60 : T60.heap = T44.heap := eh60
  refine og2 X60 hx (fun j _ k => o_ifNo j (y at_284) (by decide) <| o_iconstV j 1 (y at_287) rfl <| o_goto j (pc' := 292) (y at_288) <| k) ?_
  exact rNW (v := (1 : Int32)) X60 hx Bd hS (Nat.le_trans (Nat.le_trans hkS E33.1) K44.1) (by simp) rfl (y at_292) e60 ⟨rfl, N60⟩

def Q0v10 (Z : State) (cs : Int32) (u8 : Addr) (p1 : Int32) (p2 : Int32) (p3 : Int32) (c0 : Int32) (c1 : Int32) (h0 : Heap) (n0 : Nat) (v : Option Value) (h : Heap) (L : List Loc) : Prop := v = some (.int 1) ∧ Fr n0 L
theorem rm0v10 (l : Launch) (Z : State) (a0 : Array Value) (hw : HW a0 Z) (ws : List Jvm.Cond) (cs : Int32) (u8 : Addr) (p1 : Int32) (p2 : Int32) (p3 : Int32) (c0 : Int32) (c1 : Int32) (h0 : Heap) (n0 : Nat) (Z0 : n0 ≤ h0.size) (H0 : OSt Z cs u8) (pr1 : Old Z n0 h0) (H2 : own_pick p1 (p3 &&& (3 : Int32)) = c0) (H3 : own_pick p2 ((XT.ushr p3 (2 : Int32)) &&& (3 : Int32)) = c1) (H4 : ((XT.ushr p3 (4 : Int32)) &&& (3 : Int32)) - (((XT.ushr p3 (4 : Int32)) &&& (3 : Int32)) / (3 : Int32)) * (3 : Int32) = 1) (H5 : OCh c0) (H6 : OCh c1) (H7 : (255 : Int32) < c0) :
    MetFree l x (head1 (Jvm.Cond.code x code maxLocals ret :: ws) room_1) (fun a U => a = #[(.int p1), (.int p2), (.int p3)] ∧ Z.Warmed39 U.vm ∧ U.heap = h0 ∧ CHv Z own_EL U.vm h0) (fun _ _ _ _ _ => True) (fun _ U o U' => ∃ v L, o = .returned v ∧ Q0v10 Z cs u8 p1 p2 p3 c0 c1 h0 n0 v U'.heap L ∧ ReturnedEndW U o U' L room_1.cells room_1.slots) := by
  refine og_startH (plainFor_of_name pn_com_example_unseen_unseen_KeysUtf8PinLaw) fun p e s m below meth c s₁ Bd hx hby hml hZ hown hnm X0 e0 hS hkS hC0 => ?_
  have y := @hb _ _ hby
  have w := @wd _ _ hw
  refine og (fun t k => castTop (ef15 m p1 p2 p3) k) ?_
  refine og2 X0 hx (fun j _ k => o_iloadN j (y at_0) rfl <| o_iloadN j (y at_1) rfl <| o_iconstV j 3 (y at_2) rfl <| o_iand j (y at_3) <| k) ?_
  refine cS [(.int p1), (.int (p3 &&& (3 : Int32)))] [] 0 X0 hx hZ hown (w 0 rfl) (w 1 rfl) (w 2 rfl) (w 3 rfl) (rmPK l Z a0 hw [] p1 (p3 &&& (3 : Int32)) h0 n0 Z0) e0 hml pd_oIIcC (y at_4) (fun v1 T1 L1 hQ1 X1 => ?_)
  obtain ⟨rfl, N1a, eh1⟩ := hQ1
  have N1 := Fr.app (Fr.nil n0) N1a
  have e1 : T1.heap = h0 := eh1
  rw [H2]
  refine og2 X1 hx (fun j _ k => o_istoreN j (y at_7) (l' := #[.val (.int p1), .val (.int p2), .val (.int p3), .val (.int c0), .unset, .unset, .unset, .unset, .unset, .unset]) rfl <| o_iloadN j (y at_8) rfl <| o_iloadN j (y at_9) rfl <| o_iconstV j 2 (y at_10) rfl <| o_iushr j (y at_11) <| o_iconstV j 3 (y at_12) rfl <| o_iand j (y at_13) <| k) ?_
  refine cS [(.int p2), (.int ((XT.ushr p3 (2 : Int32)) &&& (3 : Int32)))] [] 0 X1 hx hZ hown (w 0 rfl) (w 1 rfl) (w 2 rfl) (w 3 rfl) (rmPK l Z a0 hw [] p2 ((XT.ushr p3 (2 : Int32)) &&& (3 : Int32)) h0 n0 Z0) e1 hml pd_oIIcC (y at_14) (fun v2 T2 L2 hQ2 X2 => ?_)
  obtain ⟨rfl, N2a, eh2⟩ := hQ2
  have N2 := Fr.app N1 N2a
  have e2 : T2.heap = h0 := eh2
  rw [H3]
  refine og2 X2 hx (fun j _ k => o_istore j (y at_17) (l' := #[.val (.int p1), .val (.int p2), .val (.int p3), .val (.int c0), .val (.int c1), .unset, .unset, .unset, .unset, .unset]) rfl <| o_iloadN j (y at_19) rfl <| o_iconstV j 4 (y at_20) rfl <| o_iushr j (y at_21) <| o_iconstV j 3 (y at_22) rfl <| o_iand j (y at_23) <| o_iconstV j 3 (y at_24) rfl <| o_irem j (y at_25) (by decide) <| k) ?_
  rw [H4]
  refine og2 X2 hx (fun j _ k => o_istore j (y at_26) (l' := #[.val (.int p1), .val (.int p2), .val (.int p3), .val (.int c0), .val (.int c1), .val (.int 1), .unset, .unset, .unset, .unset]) rfl <| o_iload j (y at_28) rfl <| o_ifYes j (pc' := 48) (y at_30) (by decide) <| o_iload j (y at_48) rfl <| o_iconstV j 1 (y at_50) rfl <| o_icmpNo j (y at_51) (XT.ii_ne_f rfl) <| k) ?_
  refine nO X2 hx hZ hown (w 5 rfl) (w 6 rfl) (w 7 rfl) e2 (y at_54) (fun T3 h3 a3 g3 X3 e3 E3 A3 D3 => ?_)
  have Z3 : n0 ≤ h3.size := Nat.le_trans Z0 E3.1
  have G3 : n0 ≤ a3 := Nat.le_trans Z0 (Nat.le_of_eq g3.symm)
  have O4 := (pr1.ext E3)
  have F6 : Fld Z h3 a3 "java/lang/String" "value" "[B" .null := (D3 (Or.inr (w 21 rfl)) (ty := (.array .byte)) (by decide))
  have F7 : Fld Z h3 a3 "java/lang/String" "coder" "B" (.int 0) := (D3 (Or.inr (w 22 rfl)) (ty := .byte) (by decide))
  refine og2 X3 hx (fun j _ k => o_dup j (y at_57) rfl <| o_iconstV j 1 (y at_58) rfl <| k) ?_
  refine nP .char 1 "[C" X3 hx hZ (w 8 rfl) e3 (y at_59) (fun T8 h8 a8 kc8 g8 X8 e8 E8 A8 D8 => ?_)
  have Z8 : n0 ≤ h8.size := Nat.le_trans Z3 E8.1
  have G8 : n0 ≤ a8 := Nat.le_trans Z3 (Nat.le_of_eq g8.symm)
  have O9 := (O4.ext E8)
  have E10 := (Exa.ext E8 A3)
  have F11 := (Fld.ext E8 F6)
  have F12 := (Fld.ext E8 F7)
  have A14 : Arv Z h8 a8 kc8 .char (1 : Int32) [(.int 0)] (.int 0) := (A8.pad (pad_rep [] _ 1))
  refine og2 X8 hx (fun j _ k => o_dup j (y at_61) rfl <| o_iconstV j 0 (y at_62) rfl <| o_iloadN j (y at_63) rfl <| k) ?_
  refine sC (v := c0) 0 X8 hx hZ e8 A14 (own_nar_ch H5) (y at_64) (fun T15 h15 X15 e15 W15 A15 => ?_)
  have N15 := Fr.snoc X15 N2 G8
  have Z15 : n0 ≤ h15.size := (by rw [W15.size]; exact Z8)
  have O16 := (O9.wr W15 G8)
  have E17 := (Exa.wr W15 E10)
  have F18 := (Fld.other W15 F11 (Or.inl (Nat.ne_of_lt (Nat.lt_of_lt_of_eq A3.lt g8.symm))))
  have F19 := (Fld.other W15 F12 (Or.inl (Nat.ne_of_lt (Nat.lt_of_lt_of_eq A3.lt g8.symm))))
  have A15v : Arv Z h15 a8 kc8 .char (1 : Int32) [(.int c0)] (.int 0) := A15
  refine cI a3 [(.ref a8)] [(.ref a3)] 1 X15 hx hZ hown (w 9 rfl) (w 10 rfl) (w 7 rfl) (w 11 rfl) (rmI110 l Z a0 hw [] cs u8 a3 a8 kc8 c0 h15 n0 Z15 H0 O16 F18 F19 E17 A15v G3 H7 H5) e15 hml pd_oaCcV (y at_65) (fun v20 T20 L20 hQ20 X20 => ?_)
  obtain ⟨b_20, bk_20, rfl, N20a, K20, Q20_0, Q20_1, Q20_2, Q20_3⟩ := hQ20
  have N20 := Fr.app N15 N20a
  have e20 : T20.heap = T20.heap := rfl
  have Z20 : n0 ≤ T20.heap.size := (Nat.le_trans Z15 K20.1)
  have O21 := (O16.keep K20 (allS G3 all0))
  have E22 := (E17.keep K20)
  have A23 := (A15v.keep K20 (ninS (Ne.symm (Nat.ne_of_lt (Nat.lt_of_lt_of_eq A3.lt g8.symm))) nin0))
  refine og2 X20 hx (fun j _ k => o_astore j (y at_68) rfl (l' := #[.val (.int p1), .val (.int p2), .val (.int p3), .val (.int c0), .val (.int c1), .val (.int 1), .val (.ref a3), .unset, .unset, .unset]) rfl <| o_goto j (pc' := 94) (y at_70) <| o_aload j (y at_94) rfl rfl <| k) ?_
  refine cSS [(.ref a3)] [] 0 X20 hx hZ hown hS (Nat.le_trans (Nat.le_trans (Nat.le_trans (Nat.le_trans hkS E3.1) E8.1) (Nat.le_of_eq W15.size.symm)) K20.1) (w 27 rfl) (w 28 rfl) (w 29 rfl) (w 30 rfl) (rmKU11 l Z a0 hw [] cs u8 a3 b_20 bk_20 c0 T20.heap n0 Z20 H0 O21 Q20_3 Q20_1 Q20_0 Q20_2 H5) e20 hml pd_oLjava_lang_CharSequencescaB (y at_96) (fun v24 T24 L24 hQ24 X24 hS hZ hown => ?_)
  obtain ⟨r_24, rk_24, rfl, N24a, K24, Q24_0, Q24_1⟩ := hQ24
  have N24 := Fr.app N20 N24a
  have e24 : T24.heap = T24.heap := rfl
  have Z24 : n0 ≤ T24.heap.size := (Nat.le_trans Z20 K24.1)
  have ne24_a3_r : a3 ≠ r_24 := Nat.ne_of_lt (Nat.lt_of_lt_of_le E22.lt Q24_1)
  have ne24_a8_r : a8 ≠ r_24 := Nat.ne_of_lt (Nat.lt_of_lt_of_le A23.lt Q24_1)
  have ne24_b_20_r : b_20 ≠ r_24 := Nat.ne_of_lt (Nat.lt_of_lt_of_le Q20_3.lt Q24_1)
  have hkS : T24.heap.size ≤ T24.heap.size := Nat.le_refl _
  refine og2 X24 hx (fun j _ k => o_astore j (y at_99) rfl (l' := #[.val (.int p1), .val (.int p2), .val (.int p3), .val (.int c0), .val (.int c1), .val (.int 1), .val (.ref a3), .val (.ref r_24), .unset, .unset]) rfl <| o_bipushV j 6 (y at_101) rfl <| k) ?_
  refine nP .byte 6 "[B" X24 hx hZ (w 20 rfl) e24 (y at_103) (fun T32 h32 a32 kc32 g32 X32 e32 E32 A32 D32 => ?_)
  have Z32 : n0 ≤ h32.size := Nat.le_trans Z24 E32.1
  have G32 : n0 ≤ a32 := Nat.le_trans Z24 (Nat.le_of_eq g32.symm)
  have A40 := (Q24_0.ext E32)
  have A41 : Arv Z h32 a32 kc32 .byte (6 : Int32) [(.int 0), (.int 0), (.int 0), (.int 0), (.int 0), (.int 0)] (.int 0) := (A32.pad (pad_rep [] _ 6))
  refine og2 X32 hx (fun j _ k => o_astore j (y at_105) rfl (l' := #[.val (.int p1), .val (.int p2), .val (.int p3), .val (.int c0), .val (.int c1), .val (.int 1), .val (.ref a3), .val (.ref r_24), .val (.ref a32), .unset]) rfl <| o_iconstV j 0 (y at_107) rfl <| o_istore j (y at_108) (l' := #[.val (.int p1), .val (.int p2), .val (.int p3), .val (.int c0), .val (.int c1), .val (.int 1), .val (.ref a3), .val (.ref r_24), .val (.ref a32), .val (.int 0)]) rfl <| o_iload j (y at_110) rfl <| o_iconstV j 1 (y at_112) rfl <| o_icmpNo j (y at_113) (XT.ii_lt_f (by decide)) <| o_iload j (y at_116) rfl <| o_iconstV j 2 (y at_118) rfl <| o_icmpYes j (pc' := 175) (y at_119) (XT.ii_ne_t (by decide)) <| o_aload j (y at_175) rfl rfl <| o_iconstV j 0 (y at_177) rfl <| o_iloadN j (y at_178) rfl <| k) ?_
  refine cS [(.ref a32), (.int 0), (.int c0)] [] 0 X32 hx hZ hown (w 145 rfl) (w 146 rfl) (w 2 rfl) (w 147 rfl) (rmPU0 l Z a0 hw [] a32 kc32 c0 h32 n0 Z32 A41 G32) e32 hml pd_oaBIIcI (y at_179) (fun v42 T42 L42 hQ42 X42 => ?_)
  obtain ⟨rfl, N42a, K42, Q42_0⟩ := hQ42
  have N42 := Fr.app N24 N42a
  have e42 : T42.heap = T42.heap := rfl
  have Z42 : n0 ≤ T42.heap.size := (Nat.le_trans Z32 K42.1)
  have A50 := (A40.keep K42 (ninS (Nat.ne_of_lt (Nat.lt_of_lt_of_eq Q24_0.lt g32.symm)) nin0))
  refine og2 X42 hx (fun j _ k => o_istore j (y at_182) (l' := #[.val (.int p1), .val (.int p2), .val (.int p3), .val (.int c0), .val (.int c1), .val (.int 1), .val (.ref a3), .val (.ref r_24), .val (.ref a32), .val (.int (own_ln ([] ++ own_put c0)))]) rfl <| o_iload j (y at_184) rfl <| o_iconstV j 2 (y at_186) rfl <| o_icmpYes j (pc' := 201) (y at_187) (XT.ii_ne_t (by decide)) <| k) ?_
  have RA51 : Arv Z T42.heap r_24 rk_24 .byte (own_ln ([] ++ own_put c0)) (own_vs ([] ++ own_put c0)) (.int 0) := (rfl : own_put c0 = [] ++ own_put c0) ▸ A50
  refine og2 X42 hx (fun j _ k => o_aload j (y at_201) rfl rfl <| o_alen X42 hx hZ e42 RA51 (y at_203) <| o_iload j (y at_204) rfl <| o_icmpNo j (y at_206) (XT.ii_ne_f rfl) <| o_aload j (y at_209) rfl rfl <| o_aload j (y at_211) rfl rfl <| o_iconstV j 0 (y at_213) rfl <| o_iload j (y at_214) rfl <| k) ?_
  refine cS [(.ref r_24), (.ref a32), (.int 0), (.int (own_ln ([] ++ own_put c0)))] [] 0 X42 hx hZ hown (w 82 rfl) (w 83 rfl) (w 2 rfl) (w 84 rfl) (rmEQ l Z a0 hw [] r_24 rk_24 a32 kc32 ([] ++ own_put c0) (0 : Int32) T42.heap n0 Z42 RA51 Q42_0 (by decide) (by decide)) e42 hml pd_oaBaBIIcZ (y at_216) (fun v52 T52 L52 hQ52 X52 => ?_)
  obtain ⟨rfl, N52a, eh52⟩ := hQ52
  have N52 := Fr.app N42 N52a
  have e52 : T52.heap = T42.heap := eh52
  refine og2 X52 hx (fun j _ k => o_ifNo j (y at_219) (by decide) <| o_aload j (y at_222) rfl rfl <| o_aload j (y at_224) rfl rfl <| o_iconstV j 1 (y at_226) rfl <| o_iload j (y at_227) rfl <| k) ?_
  refine cS [(.ref r_24), (.ref a32), (.int 1), (.int (own_ln ([] ++ own_put c0)))] [] 0 X52 hx hZ hown (w 82 rfl) (w 83 rfl) (w 2 rfl) (w 84 rfl) (rmEQ l Z a0 hw [] r_24 rk_24 a32 kc32 ([] ++ own_put c0) (1 : Int32) T42.heap n0 Z42 RA51 Q42_0 (by decide) (by decide)) e52 hml pd_oaBaBIIcZ (y at_229) (fun v53 T53 L53 hQ53 X53 => ?_)
  obtain ⟨rfl, N53a, eh53⟩ := hQ53
  have N53 := Fr.app N52 N53a
  have e53 : T53.heap = T42.heap := eh53
  refine og2 X53 hx (fun j _ k => o_ifNo j (y at_232) (by decide) <| o_aload j (y at_235) rfl rfl <| o_aload j (y at_237) rfl rfl <| o_iconstV j 2 (y at_239) rfl <| o_iload j (y at_240) rfl <| k) ?_
  refine cS [(.ref r_24), (.ref a32), (.int 2), (.int (own_ln ([] ++ own_put c0)))] [] 0 X53 hx hZ hown (w 82 rfl) (w 83 rfl) (w 2 rfl) (w 84 rfl) (rmEQ l Z a0 hw [] r_24 rk_24 a32 kc32 ([] ++ own_put c0) (2 : Int32) T42.heap n0 Z42 RA51 Q42_0 (by decide) (by decide)) e53 hml pd_oaBaBIIcZ (y at_242) (fun v54 T54 L54 hQ54 X54 => ?_)
  obtain ⟨rfl, N54a, eh54⟩ := hQ54
  have N54 := Fr.app N53 N54a
  have e54 : T54.heap = T42.heap := eh54
  refine og2 X54 hx (fun j _ k => o_ifNo j (y at_245) (by decide) <| o_aload j (y at_248) rfl rfl <| o_aload j (y at_250) rfl rfl <| o_iconstV j 3 (y at_252) rfl <| o_iload j (y at_253) rfl <| k) ?_
  refine cS [(.ref r_24), (.ref a32), (.int 3), (.int (own_ln ([] ++ own_put c0)))] [] 0 X54 hx hZ hown (w 82 rfl) (w 83 rfl) (w 2 rfl) (w 84 rfl) (rmEQ l Z a0 hw [] r_24 rk_24 a32 kc32 ([] ++ own_put c0) (3 : Int32) T42.heap n0 Z42 RA51 Q42_0 (by decide) (by decide)) e54 hml pd_oaBaBIIcZ (y at_255) (fun v55 T55 L55 hQ55 X55 => ?_)
  obtain ⟨rfl, N55a, eh55⟩ := hQ55
  have N55 := Fr.app N54 N55a
  have e55 : T55.heap = T42.heap := eh55
  refine og2 X55 hx (fun j _ k => o_ifNo j (y at_258) (by decide) <| o_aload j (y at_261) rfl rfl <| o_aload j (y at_263) rfl rfl <| o_iconstV j 4 (y at_265) rfl <| o_iload j (y at_266) rfl <| k) ?_
  refine cS [(.ref r_24), (.ref a32), (.int 4), (.int (own_ln ([] ++ own_put c0)))] [] 0 X55 hx hZ hown (w 82 rfl) (w 83 rfl) (w 2 rfl) (w 84 rfl) (rmEQ l Z a0 hw [] r_24 rk_24 a32 kc32 ([] ++ own_put c0) (4 : Int32) T42.heap n0 Z42 RA51 Q42_0 (by decide) (by decide)) e55 hml pd_oaBaBIIcZ (y at_268) (fun v56 T56 L56 hQ56 X56 => ?_)
  obtain ⟨rfl, N56a, eh56⟩ := hQ56
  have N56 := Fr.app N55 N56a
  have e56 : T56.heap = T42.heap := eh56
  refine og2 X56 hx (fun j _ k => o_ifNo j (y at_271) (by decide) <| o_aload j (y at_274) rfl rfl <| o_aload j (y at_276) rfl rfl <| o_iconstV j 5 (y at_278) rfl <| o_iload j (y at_279) rfl <| k) ?_
  refine cS [(.ref r_24), (.ref a32), (.int 5), (.int (own_ln ([] ++ own_put c0)))] [] 0 X56 hx hZ hown (w 82 rfl) (w 83 rfl) (w 2 rfl) (w 84 rfl) (rmEQ l Z a0 hw [] r_24 rk_24 a32 kc32 ([] ++ own_put c0) (5 : Int32) T42.heap n0 Z42 RA51 Q42_0 (by decide) (by decide)) e56 hml pd_oaBaBIIcZ (y at_281) (fun v57 T57 L57 hQ57 X57 => ?_)
  obtain ⟨rfl, N57a, eh57⟩ := hQ57
  have N57 := Fr.app N56 N57a
  have e57 : T57.heap = T42.heap := eh57
  refine og2 X57 hx (fun j _ k => o_ifNo j (y at_284) (by decide) <| o_iconstV j 1 (y at_287) rfl <| o_goto j (pc' := 292) (y at_288) <| k) ?_
  exact rNW (v := (1 : Int32)) X57 hx Bd hS (Nat.le_trans (Nat.le_trans hkS E32.1) K42.1) (by simp) rfl (y at_292) e57 ⟨rfl, N57⟩

def Q0v2k (Z : State) (cs : Int32) (u8 : Addr) (p1 : Int32) (p2 : Int32) (p3 : Int32) (c0 : Int32) (c1 : Int32) (h0 : Heap) (n0 : Nat) (v : Option Value) (h : Heap) (L : List Loc) : Prop := v = some (.int 1) ∧ Fr n0 L
theorem rm0v2k (l : Launch) (Z : State) (a0 : Array Value) (hw : HW a0 Z) (ws : List Jvm.Cond) (cs : Int32) (u8 : Addr) (p1 : Int32) (p2 : Int32) (p3 : Int32) (c0 : Int32) (c1 : Int32) (h0 : Heap) (n0 : Nat) (Z0 : n0 ≤ h0.size) (H0 : OSt Z cs u8) (pr1 : Old Z n0 h0) (H2 : own_pick p1 (p3 &&& (3 : Int32)) = c0) (H3 : own_pick p2 ((XT.ushr p3 (2 : Int32)) &&& (3 : Int32)) = c1) (H4 : ((XT.ushr p3 (4 : Int32)) &&& (3 : Int32)) - (((XT.ushr p3 (4 : Int32)) &&& (3 : Int32)) / (3 : Int32)) * (3 : Int32) = 2) (H5 : OCh c0) (H6 : OCh c1) (H7 : ¬ (255 : Int32) < c0) (H8 : ¬ (255 : Int32) < c1) :
    MetFree l x (head1 (Jvm.Cond.code x code maxLocals ret :: ws) room_1) (fun a U => a = #[(.int p1), (.int p2), (.int p3)] ∧ Z.Warmed39 U.vm ∧ U.heap = h0 ∧ CHv Z own_EL U.vm h0) (fun _ _ _ _ _ => True) (fun _ U o U' => ∃ v L, o = .returned v ∧ Q0v2k Z cs u8 p1 p2 p3 c0 c1 h0 n0 v U'.heap L ∧ ReturnedEndW U o U' L room_1.cells room_1.slots) := by
  refine og_startH (plainFor_of_name pn_com_example_unseen_unseen_KeysUtf8PinLaw) fun p e s m below meth c s₁ Bd hx hby hml hZ hown hnm X0 e0 hS hkS hC0 => ?_
  have y := @hb _ _ hby
  have w := @wd _ _ hw
  refine og (fun t k => castTop (ef15 m p1 p2 p3) k) ?_
  refine og2 X0 hx (fun j _ k => o_iloadN j (y at_0) rfl <| o_iloadN j (y at_1) rfl <| o_iconstV j 3 (y at_2) rfl <| o_iand j (y at_3) <| k) ?_
  refine cS [(.int p1), (.int (p3 &&& (3 : Int32)))] [] 0 X0 hx hZ hown (w 0 rfl) (w 1 rfl) (w 2 rfl) (w 3 rfl) (rmPK l Z a0 hw [] p1 (p3 &&& (3 : Int32)) h0 n0 Z0) e0 hml pd_oIIcC (y at_4) (fun v1 T1 L1 hQ1 X1 => ?_)
  obtain ⟨rfl, N1a, eh1⟩ := hQ1
  have N1 := Fr.app (Fr.nil n0) N1a
  have e1 : T1.heap = h0 := eh1
  rw [H2]
  refine og2 X1 hx (fun j _ k => o_istoreN j (y at_7) (l' := #[.val (.int p1), .val (.int p2), .val (.int p3), .val (.int c0), .unset, .unset, .unset, .unset, .unset, .unset]) rfl <| o_iloadN j (y at_8) rfl <| o_iloadN j (y at_9) rfl <| o_iconstV j 2 (y at_10) rfl <| o_iushr j (y at_11) <| o_iconstV j 3 (y at_12) rfl <| o_iand j (y at_13) <| k) ?_
  refine cS [(.int p2), (.int ((XT.ushr p3 (2 : Int32)) &&& (3 : Int32)))] [] 0 X1 hx hZ hown (w 0 rfl) (w 1 rfl) (w 2 rfl) (w 3 rfl) (rmPK l Z a0 hw [] p2 ((XT.ushr p3 (2 : Int32)) &&& (3 : Int32)) h0 n0 Z0) e1 hml pd_oIIcC (y at_14) (fun v2 T2 L2 hQ2 X2 => ?_)
  obtain ⟨rfl, N2a, eh2⟩ := hQ2
  have N2 := Fr.app N1 N2a
  have e2 : T2.heap = h0 := eh2
  rw [H3]
  refine og2 X2 hx (fun j _ k => o_istore j (y at_17) (l' := #[.val (.int p1), .val (.int p2), .val (.int p3), .val (.int c0), .val (.int c1), .unset, .unset, .unset, .unset, .unset]) rfl <| o_iloadN j (y at_19) rfl <| o_iconstV j 4 (y at_20) rfl <| o_iushr j (y at_21) <| o_iconstV j 3 (y at_22) rfl <| o_iand j (y at_23) <| o_iconstV j 3 (y at_24) rfl <| o_irem j (y at_25) (by decide) <| k) ?_
  rw [H4]
  refine og2 X2 hx (fun j _ k => o_istore j (y at_26) (l' := #[.val (.int p1), .val (.int p2), .val (.int p3), .val (.int c0), .val (.int c1), .val (.int 2), .unset, .unset, .unset, .unset]) rfl <| o_iload j (y at_28) rfl <| o_ifYes j (pc' := 48) (y at_30) (by decide) <| o_iload j (y at_48) rfl <| o_iconstV j 1 (y at_50) rfl <| o_icmpYes j (pc' := 73) (y at_51) (XT.ii_ne_t (by decide)) <| k) ?_
  refine nO X2 hx hZ hown (w 5 rfl) (w 6 rfl) (w 7 rfl) e2 (y at_73) (fun T3 h3 a3 g3 X3 e3 E3 A3 D3 => ?_)
  have Z3 : n0 ≤ h3.size := Nat.le_trans Z0 E3.1
  have G3 : n0 ≤ a3 := Nat.le_trans Z0 (Nat.le_of_eq g3.symm)
  have O4 := (pr1.ext E3)
  have F6 : Fld Z h3 a3 "java/lang/String" "value" "[B" .null := (D3 (Or.inr (w 21 rfl)) (ty := (.array .byte)) (by decide))
  have F7 : Fld Z h3 a3 "java/lang/String" "coder" "B" (.int 0) := (D3 (Or.inr (w 22 rfl)) (ty := .byte) (by decide))
  refine og2 X3 hx (fun j _ k => o_dup j (y at_76) rfl <| o_iconstV j 2 (y at_77) rfl <| k) ?_
  refine nP .char 2 "[C" X3 hx hZ (w 8 rfl) e3 (y at_78) (fun T8 h8 a8 kc8 g8 X8 e8 E8 A8 D8 => ?_)
  have Z8 : n0 ≤ h8.size := Nat.le_trans Z3 E8.1
  have G8 : n0 ≤ a8 := Nat.le_trans Z3 (Nat.le_of_eq g8.symm)
  have O9 := (O4.ext E8)
  have E10 := (Exa.ext E8 A3)
  have F11 := (Fld.ext E8 F6)
  have F12 := (Fld.ext E8 F7)
  have A14 : Arv Z h8 a8 kc8 .char (2 : Int32) [(.int 0), (.int 0)] (.int 0) := (A8.pad (pad_rep [] _ 2))
  refine og2 X8 hx (fun j _ k => o_dup j (y at_80) rfl <| o_iconstV j 0 (y at_81) rfl <| o_iloadN j (y at_82) rfl <| k) ?_
  refine sC (v := c0) 0 X8 hx hZ e8 A14 (own_nar_ch H5) (y at_83) (fun T15 h15 X15 e15 W15 A15 => ?_)
  have N15 := Fr.snoc X15 N2 G8
  have Z15 : n0 ≤ h15.size := (by rw [W15.size]; exact Z8)
  have O16 := (O9.wr W15 G8)
  have E17 := (Exa.wr W15 E10)
  have F18 := (Fld.other W15 F11 (Or.inl (Nat.ne_of_lt (Nat.lt_of_lt_of_eq A3.lt g8.symm))))
  have F19 := (Fld.other W15 F12 (Or.inl (Nat.ne_of_lt (Nat.lt_of_lt_of_eq A3.lt g8.symm))))
  have A15v : Arv Z h15 a8 kc8 .char (2 : Int32) [(.int c0), (.int 0)] (.int 0) := A15
  refine og2 X15 hx (fun j _ k => o_dup j (y at_84) rfl <| o_iconstV j 1 (y at_85) rfl <| o_iload j (y at_86) rfl <| k) ?_
  refine sC (v := c1) 1 X15 hx hZ e15 A15v (own_nar_ch H6) (y at_88) (fun T20 h20 X20 e20 W20 A20 => ?_)
  have N20 := Fr.snoc X20 N15 G8
  have Z20 : n0 ≤ h20.size := (by rw [W20.size]; exact Z15)
  have O21 := (O16.wr W20 G8)
  have E22 := (Exa.wr W20 E17)
  have F23 := (Fld.other W20 F18 (Or.inl (Nat.ne_of_lt (Nat.lt_of_lt_of_eq A3.lt g8.symm))))
  have F24 := (Fld.other W20 F19 (Or.inl (Nat.ne_of_lt (Nat.lt_of_lt_of_eq A3.lt g8.symm))))
  have A20v : Arv Z h20 a8 kc8 .char (2 : Int32) [(.int c0), (.int c1)] (.int 0) := A20
  refine cI a3 [(.ref a8)] [(.ref a3)] 1 X20 hx hZ hown (w 9 rfl) (w 10 rfl) (w 7 rfl) (w 11 rfl) (rmI12k l Z a0 hw [] cs u8 a3 a8 kc8 c0 c1 h20 n0 Z20 H0 O21 F23 F24 E22 A20v G3 H7 H8 H5 H6) e20 hml pd_oaCcV (y at_89) (fun v25 T25 L25 hQ25 X25 => ?_)
  obtain ⟨b_25, bk_25, rfl, N25a, K25, Q25_0, Q25_1, Q25_2, Q25_3, Q25_4⟩ := hQ25
  have N25 := Fr.app N20 N25a
  have e25 : T25.heap = T25.heap := rfl
  have Z25 : n0 ≤ T25.heap.size := (Nat.le_trans Z20 K25.1)
  have O26 := (O21.keep K25 (allS G3 all0))
  have E27 := (E22.keep K25)
  have A28 := (A20v.keep K25 (ninS (Ne.symm (Nat.ne_of_lt (Nat.lt_of_lt_of_eq A3.lt g8.symm))) nin0))
  refine og2 X25 hx (fun j _ k => o_astore j (y at_92) rfl (l' := #[.val (.int p1), .val (.int p2), .val (.int p3), .val (.int c0), .val (.int c1), .val (.int 2), .val (.ref a3), .unset, .unset, .unset]) rfl <| o_aload j (y at_94) rfl rfl <| k) ?_
  refine cSS [(.ref a3)] [] 0 X25 hx hZ hown hS (Nat.le_trans (Nat.le_trans (Nat.le_trans (Nat.le_trans (Nat.le_trans hkS E3.1) E8.1) (Nat.le_of_eq W15.size.symm)) (Nat.le_of_eq W20.size.symm)) K25.1) (w 27 rfl) (w 28 rfl) (w 29 rfl) (w 30 rfl) (rmKU20 l Z a0 hw [] cs u8 a3 b_25 bk_25 c0 c1 T25.heap n0 Z25 H0 O26 Q25_3 Q25_1 Q25_0 Q25_2 Q25_4 H5 H6 H7 H8) e25 hml pd_oLjava_lang_CharSequencescaB (y at_96) (fun v29 T29 L29 hQ29 X29 hS hZ hown => ?_)
  obtain ⟨r_29, rk_29, rfl, N29a, K29, Q29_0, Q29_1⟩ := hQ29
  have N29 := Fr.app N25 N29a
  have e29 : T29.heap = T29.heap := rfl
  have Z29 : n0 ≤ T29.heap.size := (Nat.le_trans Z25 K29.1)
  have ne29_a3_r : a3 ≠ r_29 := Nat.ne_of_lt (Nat.lt_of_lt_of_le E27.lt Q29_1)
  have ne29_a8_r : a8 ≠ r_29 := Nat.ne_of_lt (Nat.lt_of_lt_of_le A28.lt Q29_1)
  have ne29_b_25_r : b_25 ≠ r_29 := Nat.ne_of_lt (Nat.lt_of_lt_of_le Q25_3.lt Q29_1)
  have hkS : T29.heap.size ≤ T29.heap.size := Nat.le_refl _
  refine og2 X29 hx (fun j _ k => o_astore j (y at_99) rfl (l' := #[.val (.int p1), .val (.int p2), .val (.int p3), .val (.int c0), .val (.int c1), .val (.int 2), .val (.ref a3), .val (.ref r_29), .unset, .unset]) rfl <| o_bipushV j 6 (y at_101) rfl <| k) ?_
  refine nP .byte 6 "[B" X29 hx hZ (w 20 rfl) e29 (y at_103) (fun T38 h38 a38 kc38 g38 X38 e38 E38 A38 D38 => ?_)
  have Z38 : n0 ≤ h38.size := Nat.le_trans Z29 E38.1
  have G38 : n0 ≤ a38 := Nat.le_trans Z29 (Nat.le_of_eq g38.symm)
  have A47 := (Q29_0.ext E38)
  have A48 : Arv Z h38 a38 kc38 .byte (6 : Int32) [(.int 0), (.int 0), (.int 0), (.int 0), (.int 0), (.int 0)] (.int 0) := (A38.pad (pad_rep [] _ 6))
  refine og2 X38 hx (fun j _ k => o_astore j (y at_105) rfl (l' := #[.val (.int p1), .val (.int p2), .val (.int p3), .val (.int c0), .val (.int c1), .val (.int 2), .val (.ref a3), .val (.ref r_29), .val (.ref a38), .unset]) rfl <| o_iconstV j 0 (y at_107) rfl <| o_istore j (y at_108) (l' := #[.val (.int p1), .val (.int p2), .val (.int p3), .val (.int c0), .val (.int c1), .val (.int 2), .val (.ref a3), .val (.ref r_29), .val (.ref a38), .val (.int 0)]) rfl <| o_iload j (y at_110) rfl <| o_iconstV j 1 (y at_112) rfl <| o_icmpNo j (y at_113) (XT.ii_lt_f (by decide)) <| o_iload j (y at_116) rfl <| o_iconstV j 2 (y at_118) rfl <| o_icmpNo j (y at_119) (XT.ii_ne_f rfl) <| k) ?_
  have TAIL : ∀ (Lt : List Int32) (Tt : State) (ht : Heap) (lt : List Loc), Stand p l e room_1 (s.setVm T29.vm) m #[(.int p1), (.int p2), (.int p3)] below meth c Tt lt 8 37 → Tt.heap = ht → Fr n0 lt → n0 ≤ ht.size → T29.heap.size ≤ ht.size → Arv Z ht r_29 rk_29 .byte (own_ln (Lt)) (own_vs (Lt)) (.int 0) → Arv Z ht a38 kc38 .byte (6 : Int32) (own_e6 (Lt)) (.int 0) → OG p.tables e below (fun o u => ∃ v L, o = .returned v ∧ Q0v2k Z cs u8 p1 p2 p3 c0 c1 h0 n0 v u.heap L ∧ ReturnedEndW s o u L room_1.cells room_1.slots) (Tt.setTop (mkF m 201 #[.val (.int p1), .val (.int p2), .val (.int p3), .val (.int c0), .val (.int c1), .val (.int 2), .val (.ref a3), .val (.ref r_29), .val (.ref a38), .val (.int (own_ln (Lt)))] [])) := by
    intro Lt Tt ht lt Xt et Nt Zt hkt RAt EAt
    refine og2 Xt hx (fun j _ k => o_aload j (y at_201) rfl rfl <| o_alen Xt hx hZ et RAt (y at_203) <| o_iload j (y at_204) rfl <| o_icmpNo j (y at_206) (XT.ii_ne_f rfl) <| o_aload j (y at_209) rfl rfl <| o_aload j (y at_211) rfl rfl <| o_iconstV j 0 (y at_213) rfl <| o_iload j (y at_214) rfl <| k) ?_
    refine cS [(.ref r_29), (.ref a38), (.int 0), (.int (own_ln (Lt)))] [] 0 Xt hx hZ hown (w 82 rfl) (w 83 rfl) (w 2 rfl) (w 84 rfl) (rmEQ l Z a0 hw [] r_29 rk_29 a38 kc38 Lt (0 : Int32) ht n0 Zt RAt EAt (by decide) (by decide)) et hml pd_oaBaBIIcZ (y at_216) (fun v49 T49 L49 hQ49 X49 => ?_)
    obtain ⟨rfl, N49a, eh49⟩ := hQ49
    have N49 := Fr.app Nt N49a
    have e49 : T49.heap = ht := eh49
    refine og2 X49 hx (fun j _ k => o_ifNo j (y at_219) (by decide) <| o_aload j (y at_222) rfl rfl <| o_aload j (y at_224) rfl rfl <| o_iconstV j 1 (y at_226) rfl <| o_iload j (y at_227) rfl <| k) ?_
    refine cS [(.ref r_29), (.ref a38), (.int 1), (.int (own_ln (Lt)))] [] 0 X49 hx hZ hown (w 82 rfl) (w 83 rfl) (w 2 rfl) (w 84 rfl) (rmEQ l Z a0 hw [] r_29 rk_29 a38 kc38 Lt (1 : Int32) ht n0 Zt RAt EAt (by decide) (by decide)) e49 hml pd_oaBaBIIcZ (y at_229) (fun v50 T50 L50 hQ50 X50 => ?_)
    obtain ⟨rfl, N50a, eh50⟩ := hQ50
    have N50 := Fr.app N49 N50a
    have e50 : T50.heap = ht := eh50
    refine og2 X50 hx (fun j _ k => o_ifNo j (y at_232) (by decide) <| o_aload j (y at_235) rfl rfl <| o_aload j (y at_237) rfl rfl <| o_iconstV j 2 (y at_239) rfl <| o_iload j (y at_240) rfl <| k) ?_
    refine cS [(.ref r_29), (.ref a38), (.int 2), (.int (own_ln (Lt)))] [] 0 X50 hx hZ hown (w 82 rfl) (w 83 rfl) (w 2 rfl) (w 84 rfl) (rmEQ l Z a0 hw [] r_29 rk_29 a38 kc38 Lt (2 : Int32) ht n0 Zt RAt EAt (by decide) (by decide)) e50 hml pd_oaBaBIIcZ (y at_242) (fun v51 T51 L51 hQ51 X51 => ?_)
    obtain ⟨rfl, N51a, eh51⟩ := hQ51
    have N51 := Fr.app N50 N51a
    have e51 : T51.heap = ht := eh51
    refine og2 X51 hx (fun j _ k => o_ifNo j (y at_245) (by decide) <| o_aload j (y at_248) rfl rfl <| o_aload j (y at_250) rfl rfl <| o_iconstV j 3 (y at_252) rfl <| o_iload j (y at_253) rfl <| k) ?_
    refine cS [(.ref r_29), (.ref a38), (.int 3), (.int (own_ln (Lt)))] [] 0 X51 hx hZ hown (w 82 rfl) (w 83 rfl) (w 2 rfl) (w 84 rfl) (rmEQ l Z a0 hw [] r_29 rk_29 a38 kc38 Lt (3 : Int32) ht n0 Zt RAt EAt (by decide) (by decide)) e51 hml pd_oaBaBIIcZ (y at_255) (fun v52 T52 L52 hQ52 X52 => ?_)
    obtain ⟨rfl, N52a, eh52⟩ := hQ52
    have N52 := Fr.app N51 N52a
    have e52 : T52.heap = ht := eh52
    refine og2 X52 hx (fun j _ k => o_ifNo j (y at_258) (by decide) <| o_aload j (y at_261) rfl rfl <| o_aload j (y at_263) rfl rfl <| o_iconstV j 4 (y at_265) rfl <| o_iload j (y at_266) rfl <| k) ?_
    refine cS [(.ref r_29), (.ref a38), (.int 4), (.int (own_ln (Lt)))] [] 0 X52 hx hZ hown (w 82 rfl) (w 83 rfl) (w 2 rfl) (w 84 rfl) (rmEQ l Z a0 hw [] r_29 rk_29 a38 kc38 Lt (4 : Int32) ht n0 Zt RAt EAt (by decide) (by decide)) e52 hml pd_oaBaBIIcZ (y at_268) (fun v53 T53 L53 hQ53 X53 => ?_)
    obtain ⟨rfl, N53a, eh53⟩ := hQ53
    have N53 := Fr.app N52 N53a
    have e53 : T53.heap = ht := eh53
    refine og2 X53 hx (fun j _ k => o_ifNo j (y at_271) (by decide) <| o_aload j (y at_274) rfl rfl <| o_aload j (y at_276) rfl rfl <| o_iconstV j 5 (y at_278) rfl <| o_iload j (y at_279) rfl <| k) ?_
    refine cS [(.ref r_29), (.ref a38), (.int 5), (.int (own_ln (Lt)))] [] 0 X53 hx hZ hown (w 82 rfl) (w 83 rfl) (w 2 rfl) (w 84 rfl) (rmEQ l Z a0 hw [] r_29 rk_29 a38 kc38 Lt (5 : Int32) ht n0 Zt RAt EAt (by decide) (by decide)) e53 hml pd_oaBaBIIcZ (y at_281) (fun v54 T54 L54 hQ54 X54 => ?_)
    obtain ⟨rfl, N54a, eh54⟩ := hQ54
    have N54 := Fr.app N53 N54a
    have e54 : T54.heap = ht := eh54
    refine og2 X54 hx (fun j _ k => o_ifNo j (y at_284) (by decide) <| o_iconstV j 1 (y at_287) rfl <| o_goto j (pc' := 292) (y at_288) <| k) ?_
    exact rNW (v := (1 : Int32)) X54 hx Bd hS hkt (by simp) rfl (y at_292) e54 ⟨rfl, N54⟩
  refine og2 X38 hx (fun j _ k => o_iloadN j (y at_122) rfl <| o_ldcI X38 hx hZ hown (w 85 rfl) (y at_123) <| k) ?_
  by_cases C55 : c0 < (55296 : Int32)
  · refine og2 X38 hx (fun j _ k => o_icmpYes j (pc' := 175) (y at_125) (XT.ii_lt_t C55) <| o_aload j (y at_175) rfl rfl <| o_iconstV j 0 (y at_177) rfl <| o_iloadN j (y at_178) rfl <| k) ?_
    refine cS [(.ref a38), (.int 0), (.int c0)] [] 0 X38 hx hZ hown (w 145 rfl) (w 146 rfl) (w 2 rfl) (w 147 rfl) (rmPU0 l Z a0 hw [] a38 kc38 c0 h38 n0 Z38 A48 G38) e38 hml pd_oaBIIcI (y at_179) (fun v56 T56 L56 hQ56 X56 => ?_)
    obtain ⟨rfl, N56a, K56, Q56_0⟩ := hQ56
    have N56 := Fr.app N29 N56a
    have e56 : T56.heap = T56.heap := rfl
    have Z56 : n0 ≤ T56.heap.size := (Nat.le_trans Z38 K56.1)
    have A65 := (A47.keep K56 (ninS (Nat.ne_of_lt (Nat.lt_of_lt_of_eq Q29_0.lt g38.symm)) nin0))
    refine og2 X56 hx (fun j _ k => o_istore j (y at_182) (l' := #[.val (.int p1), .val (.int p2), .val (.int p3), .val (.int c0), .val (.int c1), .val (.int 2), .val (.ref a3), .val (.ref r_29), .val (.ref a38), .val (.int (own_ln ([] ++ own_put c0)))]) rfl <| o_iload j (y at_184) rfl <| o_iconstV j 2 (y at_186) rfl <| o_icmpNo j (y at_187) (XT.ii_ne_f rfl) <| o_aload j (y at_190) rfl rfl <| o_iload j (y at_192) rfl <| o_iload j (y at_194) rfl <| k) ?_
    refine cS [(.ref a38), (.int (own_ln ([] ++ own_put c0))), (.int c1)] [] 0 X56 hx hZ hown (w 145 rfl) (w 146 rfl) (w 2 rfl) (w 147 rfl) (rmPUL l Z a0 hw [] a38 kc38 ([] ++ own_put c0) c1 T56.heap n0 Z56 Q56_0 G38 (own_t16 H6) (own_put_le H5)) e56 hml pd_oaBIIcI (y at_196) (fun v66 T66 L66 hQ66 X66 => ?_)
    obtain ⟨rfl, N66a, K66, Q66_0⟩ := hQ66
    have N66 := Fr.app N56 N66a
    have e66 : T66.heap = T66.heap := rfl
    have Z66 : n0 ≤ T66.heap.size := (Nat.le_trans Z56 K66.1)
    have A75 := (A65.keep K66 (ninS (Nat.ne_of_lt (Nat.lt_of_lt_of_eq Q29_0.lt g38.symm)) nin0))
    refine og2 X66 hx (fun j _ k => o_istore j (y at_199) (l' := #[.val (.int p1), .val (.int p2), .val (.int p3), .val (.int c0), .val (.int c1), .val (.int 2), .val (.ref a3), .val (.ref r_29), .val (.ref a38), .val (.int (own_ln (([] ++ own_put c0) ++ own_put c1)))]) rfl <| k) ?_
    have RA76 : Arv Z T66.heap r_29 rk_29 .byte (own_ln (([] ++ own_put c0) ++ own_put c1)) (own_vs (([] ++ own_put c0) ++ own_put c1)) (.int 0) := (own_enc2_n (Or.inl C55) : own_enc2 c0 c1 = ([] ++ own_put c0) ++ own_put c1) ▸ A75
    exact TAIL (([] ++ own_put c0) ++ own_put c1) _ _ _ X66 e66 N66 Z66 (Nat.le_trans (Nat.le_trans (Nat.le_trans hkS E38.1) K56.1) K66.1) RA76 Q66_0
  · refine og2 X38 hx (fun j _ k => o_icmpNo j (y at_125) (XT.ii_lt_f C55) <| o_iloadN j (y at_128) rfl <| o_ldcI X38 hx hZ hown (w 144 rfl) (y at_129) <| k) ?_
    by_cases C77 : (56319 : Int32) < c0
    · refine og2 X38 hx (fun j _ k => o_icmpYes j (pc' := 175) (y at_131) (XT.ii_gt_t C77) <| o_aload j (y at_175) rfl rfl <| o_iconstV j 0 (y at_177) rfl <| o_iloadN j (y at_178) rfl <| k) ?_
      refine cS [(.ref a38), (.int 0), (.int c0)] [] 0 X38 hx hZ hown (w 145 rfl) (w 146 rfl) (w 2 rfl) (w 147 rfl) (rmPU0 l Z a0 hw [] a38 kc38 c0 h38 n0 Z38 A48 G38) e38 hml pd_oaBIIcI (y at_179) (fun v78 T78 L78 hQ78 X78 => ?_)
      obtain ⟨rfl, N78a, K78, Q78_0⟩ := hQ78
      have N78 := Fr.app N29 N78a
      have e78 : T78.heap = T78.heap := rfl
      have Z78 : n0 ≤ T78.heap.size := (Nat.le_trans Z38 K78.1)
      have A87 := (A47.keep K78 (ninS (Nat.ne_of_lt (Nat.lt_of_lt_of_eq Q29_0.lt g38.symm)) nin0))
      refine og2 X78 hx (fun j _ k => o_istore j (y at_182) (l' := #[.val (.int p1), .val (.int p2), .val (.int p3), .val (.int c0), .val (.int c1), .val (.int 2), .val (.ref a3), .val (.ref r_29), .val (.ref a38), .val (.int (own_ln ([] ++ own_put c0)))]) rfl <| o_iload j (y at_184) rfl <| o_iconstV j 2 (y at_186) rfl <| o_icmpNo j (y at_187) (XT.ii_ne_f rfl) <| o_aload j (y at_190) rfl rfl <| o_iload j (y at_192) rfl <| o_iload j (y at_194) rfl <| k) ?_
      refine cS [(.ref a38), (.int (own_ln ([] ++ own_put c0))), (.int c1)] [] 0 X78 hx hZ hown (w 145 rfl) (w 146 rfl) (w 2 rfl) (w 147 rfl) (rmPUL l Z a0 hw [] a38 kc38 ([] ++ own_put c0) c1 T78.heap n0 Z78 Q78_0 G38 (own_t16 H6) (own_put_le H5)) e78 hml pd_oaBIIcI (y at_196) (fun v88 T88 L88 hQ88 X88 => ?_)
      obtain ⟨rfl, N88a, K88, Q88_0⟩ := hQ88
      have N88 := Fr.app N78 N88a
      have e88 : T88.heap = T88.heap := rfl
      have Z88 : n0 ≤ T88.heap.size := (Nat.le_trans Z78 K88.1)
      have A97 := (A87.keep K88 (ninS (Nat.ne_of_lt (Nat.lt_of_lt_of_eq Q29_0.lt g38.symm)) nin0))
      refine og2 X88 hx (fun j _ k => o_istore j (y at_199) (l' := #[.val (.int p1), .val (.int p2), .val (.int p3), .val (.int c0), .val (.int c1), .val (.int 2), .val (.ref a3), .val (.ref r_29), .val (.ref a38), .val (.int (own_ln (([] ++ own_put c0) ++ own_put c1)))]) rfl <| k) ?_
      have RA98 : Arv Z T88.heap r_29 rk_29 .byte (own_ln (([] ++ own_put c0) ++ own_put c1)) (own_vs (([] ++ own_put c0) ++ own_put c1)) (.int 0) := (own_enc2_n (Or.inr (Or.inl C77)) : own_enc2 c0 c1 = ([] ++ own_put c0) ++ own_put c1) ▸ A97
      exact TAIL (([] ++ own_put c0) ++ own_put c1) _ _ _ X88 e88 N88 Z88 (Nat.le_trans (Nat.le_trans (Nat.le_trans hkS E38.1) K78.1) K88.1) RA98 Q88_0
    · refine og2 X38 hx (fun j _ k => o_icmpNo j (y at_131) (XT.ii_gt_f C77) <| o_iload j (y at_134) rfl <| o_ldcI X38 hx hZ hown (w 4 rfl) (y at_136) <| k) ?_
      by_cases C99 : c1 < (56320 : Int32)
      · refine og2 X38 hx (fun j _ k => o_icmpYes j (pc' := 175) (y at_138) (XT.ii_lt_t C99) <| o_aload j (y at_175) rfl rfl <| o_iconstV j 0 (y at_177) rfl <| o_iloadN j (y at_178) rfl <| k) ?_
        refine cS [(.ref a38), (.int 0), (.int c0)] [] 0 X38 hx hZ hown (w 145 rfl) (w 146 rfl) (w 2 rfl) (w 147 rfl) (rmPU0 l Z a0 hw [] a38 kc38 c0 h38 n0 Z38 A48 G38) e38 hml pd_oaBIIcI (y at_179) (fun v100 T100 L100 hQ100 X100 => ?_)
        obtain ⟨rfl, N100a, K100, Q100_0⟩ := hQ100
        have N100 := Fr.app N29 N100a
        have e100 : T100.heap = T100.heap := rfl
        have Z100 : n0 ≤ T100.heap.size := (Nat.le_trans Z38 K100.1)
        have A109 := (A47.keep K100 (ninS (Nat.ne_of_lt (Nat.lt_of_lt_of_eq Q29_0.lt g38.symm)) nin0))
        refine og2 X100 hx (fun j _ k => o_istore j (y at_182) (l' := #[.val (.int p1), .val (.int p2), .val (.int p3), .val (.int c0), .val (.int c1), .val (.int 2), .val (.ref a3), .val (.ref r_29), .val (.ref a38), .val (.int (own_ln ([] ++ own_put c0)))]) rfl <| o_iload j (y at_184) rfl <| o_iconstV j 2 (y at_186) rfl <| o_icmpNo j (y at_187) (XT.ii_ne_f rfl) <| o_aload j (y at_190) rfl rfl <| o_iload j (y at_192) rfl <| o_iload j (y at_194) rfl <| k) ?_
        refine cS [(.ref a38), (.int (own_ln ([] ++ own_put c0))), (.int c1)] [] 0 X100 hx hZ hown (w 145 rfl) (w 146 rfl) (w 2 rfl) (w 147 rfl) (rmPUL l Z a0 hw [] a38 kc38 ([] ++ own_put c0) c1 T100.heap n0 Z100 Q100_0 G38 (own_t16 H6) (own_put_le H5)) e100 hml pd_oaBIIcI (y at_196) (fun v110 T110 L110 hQ110 X110 => ?_)
        obtain ⟨rfl, N110a, K110, Q110_0⟩ := hQ110
        have N110 := Fr.app N100 N110a
        have e110 : T110.heap = T110.heap := rfl
        have Z110 : n0 ≤ T110.heap.size := (Nat.le_trans Z100 K110.1)
        have A119 := (A109.keep K110 (ninS (Nat.ne_of_lt (Nat.lt_of_lt_of_eq Q29_0.lt g38.symm)) nin0))
        refine og2 X110 hx (fun j _ k => o_istore j (y at_199) (l' := #[.val (.int p1), .val (.int p2), .val (.int p3), .val (.int c0), .val (.int c1), .val (.int 2), .val (.ref a3), .val (.ref r_29), .val (.ref a38), .val (.int (own_ln (([] ++ own_put c0) ++ own_put c1)))]) rfl <| k) ?_
        have RA120 : Arv Z T110.heap r_29 rk_29 .byte (own_ln (([] ++ own_put c0) ++ own_put c1)) (own_vs (([] ++ own_put c0) ++ own_put c1)) (.int 0) := (own_enc2_n (Or.inr (Or.inr (Or.inl C99))) : own_enc2 c0 c1 = ([] ++ own_put c0) ++ own_put c1) ▸ A119
        exact TAIL (([] ++ own_put c0) ++ own_put c1) _ _ _ X110 e110 N110 Z110 (Nat.le_trans (Nat.le_trans (Nat.le_trans hkS E38.1) K100.1) K110.1) RA120 Q110_0
      · refine og2 X38 hx (fun j _ k => o_icmpNo j (y at_138) (XT.ii_lt_f C99) <| o_iload j (y at_141) rfl <| o_ldcI X38 hx hZ hown (w 148 rfl) (y at_143) <| k) ?_
        by_cases C121 : (57343 : Int32) < c1
        · refine og2 X38 hx (fun j _ k => o_icmpYes j (pc' := 175) (y at_145) (XT.ii_gt_t C121) <| o_aload j (y at_175) rfl rfl <| o_iconstV j 0 (y at_177) rfl <| o_iloadN j (y at_178) rfl <| k) ?_
          refine cS [(.ref a38), (.int 0), (.int c0)] [] 0 X38 hx hZ hown (w 145 rfl) (w 146 rfl) (w 2 rfl) (w 147 rfl) (rmPU0 l Z a0 hw [] a38 kc38 c0 h38 n0 Z38 A48 G38) e38 hml pd_oaBIIcI (y at_179) (fun v122 T122 L122 hQ122 X122 => ?_)
          obtain ⟨rfl, N122a, K122, Q122_0⟩ := hQ122
          have N122 := Fr.app N29 N122a
          have e122 : T122.heap = T122.heap := rfl
          have Z122 : n0 ≤ T122.heap.size := (Nat.le_trans Z38 K122.1)
          have A131 := (A47.keep K122 (ninS (Nat.ne_of_lt (Nat.lt_of_lt_of_eq Q29_0.lt g38.symm)) nin0))
          refine og2 X122 hx (fun j _ k => o_istore j (y at_182) (l' := #[.val (.int p1), .val (.int p2), .val (.int p3), .val (.int c0), .val (.int c1), .val (.int 2), .val (.ref a3), .val (.ref r_29), .val (.ref a38), .val (.int (own_ln ([] ++ own_put c0)))]) rfl <| o_iload j (y at_184) rfl <| o_iconstV j 2 (y at_186) rfl <| o_icmpNo j (y at_187) (XT.ii_ne_f rfl) <| o_aload j (y at_190) rfl rfl <| o_iload j (y at_192) rfl <| o_iload j (y at_194) rfl <| k) ?_
          refine cS [(.ref a38), (.int (own_ln ([] ++ own_put c0))), (.int c1)] [] 0 X122 hx hZ hown (w 145 rfl) (w 146 rfl) (w 2 rfl) (w 147 rfl) (rmPUL l Z a0 hw [] a38 kc38 ([] ++ own_put c0) c1 T122.heap n0 Z122 Q122_0 G38 (own_t16 H6) (own_put_le H5)) e122 hml pd_oaBIIcI (y at_196) (fun v132 T132 L132 hQ132 X132 => ?_)
          obtain ⟨rfl, N132a, K132, Q132_0⟩ := hQ132
          have N132 := Fr.app N122 N132a
          have e132 : T132.heap = T132.heap := rfl
          have Z132 : n0 ≤ T132.heap.size := (Nat.le_trans Z122 K132.1)
          have A141 := (A131.keep K132 (ninS (Nat.ne_of_lt (Nat.lt_of_lt_of_eq Q29_0.lt g38.symm)) nin0))
          refine og2 X132 hx (fun j _ k => o_istore j (y at_199) (l' := #[.val (.int p1), .val (.int p2), .val (.int p3), .val (.int c0), .val (.int c1), .val (.int 2), .val (.ref a3), .val (.ref r_29), .val (.ref a38), .val (.int (own_ln (([] ++ own_put c0) ++ own_put c1)))]) rfl <| k) ?_
          have RA142 : Arv Z T132.heap r_29 rk_29 .byte (own_ln (([] ++ own_put c0) ++ own_put c1)) (own_vs (([] ++ own_put c0) ++ own_put c1)) (.int 0) := (own_enc2_n (Or.inr (Or.inr (Or.inr (C121)))) : own_enc2 c0 c1 = ([] ++ own_put c0) ++ own_put c1) ▸ A141
          exact TAIL (([] ++ own_put c0) ++ own_put c1) _ _ _ X132 e132 N132 Z132 (Nat.le_trans (Nat.le_trans (Nat.le_trans hkS E38.1) K122.1) K132.1) RA142 Q132_0
        · refine og2 X38 hx (fun j _ k => o_icmpNo j (y at_145) (XT.ii_gt_f C121) <| o_aload j (y at_148) rfl rfl <| o_iconstV j 0 (y at_150) rfl <| o_ldcI X38 hx hZ hown (w 149 rfl) (y at_151) <| o_iloadN j (y at_153) rfl <| o_ldcI X38 hx hZ hown (w 85 rfl) (y at_154) <| o_isub j (y at_156) <| o_bipushV j 10 (y at_157) rfl <| o_ishl j (y at_159) <| o_iadd j (y at_160) <| o_iload j (y at_161) rfl <| o_ldcI X38 hx hZ hown (w 4 rfl) (y at_163) <| o_isub j (y at_165) <| o_iadd j (y at_166) <| k) ?_
          refine cS [(.ref a38), (.int 0), (.int (((65536 : Int32) + ((c0 - (55296 : Int32)) <<< ((10 : Int32) &&& 31))) + (c1 - (56320 : Int32))))] [] 0 X38 hx hZ hown (w 145 rfl) (w 146 rfl) (w 2 rfl) (w 147 rfl) (rmPU0 l Z a0 hw [] a38 kc38 (((65536 : Int32) + ((c0 - (55296 : Int32)) <<< ((10 : Int32) &&& 31))) + (c1 - (56320 : Int32))) h38 n0 Z38 A48 G38) e38 hml pd_oaBIIcI (y at_167) (fun v143 T143 L143 hQ143 X143 => ?_)
          obtain ⟨rfl, N143a, K143, Q143_0⟩ := hQ143
          have N143 := Fr.app N29 N143a
          have e143 : T143.heap = T143.heap := rfl
          have Z143 : n0 ≤ T143.heap.size := (Nat.le_trans Z38 K143.1)
          have A152 := (A47.keep K143 (ninS (Nat.ne_of_lt (Nat.lt_of_lt_of_eq Q29_0.lt g38.symm)) nin0))
          refine og2 X143 hx (fun j _ k => o_istore j (y at_170) (l' := #[.val (.int p1), .val (.int p2), .val (.int p3), .val (.int c0), .val (.int c1), .val (.int 2), .val (.ref a3), .val (.ref r_29), .val (.ref a38), .val (.int (own_ln ([] ++ own_put (((65536 : Int32) + ((c0 - (55296 : Int32)) <<< ((10 : Int32) &&& 31))) + (c1 - (56320 : Int32))))))]) rfl <| o_goto j (pc' := 201) (y at_172) <| k) ?_
          have RA153 : Arv Z T143.heap r_29 rk_29 .byte (own_ln ([] ++ own_put (((65536 : Int32) + ((c0 - (55296 : Int32)) <<< ((10 : Int32) &&& 31))) + (c1 - (56320 : Int32))))) (own_vs ([] ++ own_put (((65536 : Int32) + ((c0 - (55296 : Int32)) <<< ((10 : Int32) &&& 31))) + (c1 - (56320 : Int32))))) (.int 0) := (own_enc2_p C55 C77 C99 C121 : own_enc2 c0 c1 = [] ++ own_put (((65536 : Int32) + ((c0 - (55296 : Int32)) <<< ((10 : Int32) &&& 31))) + (c1 - (56320 : Int32)))) ▸ A152
          exact TAIL ([] ++ own_put (((65536 : Int32) + ((c0 - (55296 : Int32)) <<< ((10 : Int32) &&& 31))) + (c1 - (56320 : Int32)))) _ _ _ X143 e143 N143 Z143 (Nat.le_trans (Nat.le_trans hkS E38.1) K143.1) RA153 Q143_0

def Q0v20 (Z : State) (cs : Int32) (u8 : Addr) (p1 : Int32) (p2 : Int32) (p3 : Int32) (c0 : Int32) (c1 : Int32) (h0 : Heap) (n0 : Nat) (v : Option Value) (h : Heap) (L : List Loc) : Prop := v = some (.int 1) ∧ Fr n0 L
theorem rm0v20 (l : Launch) (Z : State) (a0 : Array Value) (hw : HW a0 Z) (ws : List Jvm.Cond) (cs : Int32) (u8 : Addr) (p1 : Int32) (p2 : Int32) (p3 : Int32) (c0 : Int32) (c1 : Int32) (h0 : Heap) (n0 : Nat) (Z0 : n0 ≤ h0.size) (H0 : OSt Z cs u8) (pr1 : Old Z n0 h0) (H2 : own_pick p1 (p3 &&& (3 : Int32)) = c0) (H3 : own_pick p2 ((XT.ushr p3 (2 : Int32)) &&& (3 : Int32)) = c1) (H4 : ((XT.ushr p3 (4 : Int32)) &&& (3 : Int32)) - (((XT.ushr p3 (4 : Int32)) &&& (3 : Int32)) / (3 : Int32)) * (3 : Int32) = 2) (H5 : OCh c0) (H6 : OCh c1) (H7 : (255 : Int32) < c0) :
    MetFree l x (head1 (Jvm.Cond.code x code maxLocals ret :: ws) room_1) (fun a U => a = #[(.int p1), (.int p2), (.int p3)] ∧ Z.Warmed39 U.vm ∧ U.heap = h0 ∧ CHv Z own_EL U.vm h0) (fun _ _ _ _ _ => True) (fun _ U o U' => ∃ v L, o = .returned v ∧ Q0v20 Z cs u8 p1 p2 p3 c0 c1 h0 n0 v U'.heap L ∧ ReturnedEndW U o U' L room_1.cells room_1.slots) := by
  refine og_startH (plainFor_of_name pn_com_example_unseen_unseen_KeysUtf8PinLaw) fun p e s m below meth c s₁ Bd hx hby hml hZ hown hnm X0 e0 hS hkS hC0 => ?_
  have y := @hb _ _ hby
  have w := @wd _ _ hw
  refine og (fun t k => castTop (ef15 m p1 p2 p3) k) ?_
  refine og2 X0 hx (fun j _ k => o_iloadN j (y at_0) rfl <| o_iloadN j (y at_1) rfl <| o_iconstV j 3 (y at_2) rfl <| o_iand j (y at_3) <| k) ?_
  refine cS [(.int p1), (.int (p3 &&& (3 : Int32)))] [] 0 X0 hx hZ hown (w 0 rfl) (w 1 rfl) (w 2 rfl) (w 3 rfl) (rmPK l Z a0 hw [] p1 (p3 &&& (3 : Int32)) h0 n0 Z0) e0 hml pd_oIIcC (y at_4) (fun v1 T1 L1 hQ1 X1 => ?_)
  obtain ⟨rfl, N1a, eh1⟩ := hQ1
  have N1 := Fr.app (Fr.nil n0) N1a
  have e1 : T1.heap = h0 := eh1
  rw [H2]
  refine og2 X1 hx (fun j _ k => o_istoreN j (y at_7) (l' := #[.val (.int p1), .val (.int p2), .val (.int p3), .val (.int c0), .unset, .unset, .unset, .unset, .unset, .unset]) rfl <| o_iloadN j (y at_8) rfl <| o_iloadN j (y at_9) rfl <| o_iconstV j 2 (y at_10) rfl <| o_iushr j (y at_11) <| o_iconstV j 3 (y at_12) rfl <| o_iand j (y at_13) <| k) ?_
  refine cS [(.int p2), (.int ((XT.ushr p3 (2 : Int32)) &&& (3 : Int32)))] [] 0 X1 hx hZ hown (w 0 rfl) (w 1 rfl) (w 2 rfl) (w 3 rfl) (rmPK l Z a0 hw [] p2 ((XT.ushr p3 (2 : Int32)) &&& (3 : Int32)) h0 n0 Z0) e1 hml pd_oIIcC (y at_14) (fun v2 T2 L2 hQ2 X2 => ?_)
  obtain ⟨rfl, N2a, eh2⟩ := hQ2
  have N2 := Fr.app N1 N2a
  have e2 : T2.heap = h0 := eh2
  rw [H3]
  refine og2 X2 hx (fun j _ k => o_istore j (y at_17) (l' := #[.val (.int p1), .val (.int p2), .val (.int p3), .val (.int c0), .val (.int c1), .unset, .unset, .unset, .unset, .unset]) rfl <| o_iloadN j (y at_19) rfl <| o_iconstV j 4 (y at_20) rfl <| o_iushr j (y at_21) <| o_iconstV j 3 (y at_22) rfl <| o_iand j (y at_23) <| o_iconstV j 3 (y at_24) rfl <| o_irem j (y at_25) (by decide) <| k) ?_
  rw [H4]
  refine og2 X2 hx (fun j _ k => o_istore j (y at_26) (l' := #[.val (.int p1), .val (.int p2), .val (.int p3), .val (.int c0), .val (.int c1), .val (.int 2), .unset, .unset, .unset, .unset]) rfl <| o_iload j (y at_28) rfl <| o_ifYes j (pc' := 48) (y at_30) (by decide) <| o_iload j (y at_48) rfl <| o_iconstV j 1 (y at_50) rfl <| o_icmpYes j (pc' := 73) (y at_51) (XT.ii_ne_t (by decide)) <| k) ?_
  refine nO X2 hx hZ hown (w 5 rfl) (w 6 rfl) (w 7 rfl) e2 (y at_73) (fun T3 h3 a3 g3 X3 e3 E3 A3 D3 => ?_)
  have Z3 : n0 ≤ h3.size := Nat.le_trans Z0 E3.1
  have G3 : n0 ≤ a3 := Nat.le_trans Z0 (Nat.le_of_eq g3.symm)
  have O4 := (pr1.ext E3)
  have F6 : Fld Z h3 a3 "java/lang/String" "value" "[B" .null := (D3 (Or.inr (w 21 rfl)) (ty := (.array .byte)) (by decide))
  have F7 : Fld Z h3 a3 "java/lang/String" "coder" "B" (.int 0) := (D3 (Or.inr (w 22 rfl)) (ty := .byte) (by decide))
  refine og2 X3 hx (fun j _ k => o_dup j (y at_76) rfl <| o_iconstV j 2 (y at_77) rfl <| k) ?_
  refine nP .char 2 "[C" X3 hx hZ (w 8 rfl) e3 (y at_78) (fun T8 h8 a8 kc8 g8 X8 e8 E8 A8 D8 => ?_)
  have Z8 : n0 ≤ h8.size := Nat.le_trans Z3 E8.1
  have G8 : n0 ≤ a8 := Nat.le_trans Z3 (Nat.le_of_eq g8.symm)
  have O9 := (O4.ext E8)
  have E10 := (Exa.ext E8 A3)
  have F11 := (Fld.ext E8 F6)
  have F12 := (Fld.ext E8 F7)
  have A14 : Arv Z h8 a8 kc8 .char (2 : Int32) [(.int 0), (.int 0)] (.int 0) := (A8.pad (pad_rep [] _ 2))
  refine og2 X8 hx (fun j _ k => o_dup j (y at_80) rfl <| o_iconstV j 0 (y at_81) rfl <| o_iloadN j (y at_82) rfl <| k) ?_
  refine sC (v := c0) 0 X8 hx hZ e8 A14 (own_nar_ch H5) (y at_83) (fun T15 h15 X15 e15 W15 A15 => ?_)
  have N15 := Fr.snoc X15 N2 G8
  have Z15 : n0 ≤ h15.size := (by rw [W15.size]; exact Z8)
  have O16 := (O9.wr W15 G8)
  have E17 := (Exa.wr W15 E10)
  have F18 := (Fld.other W15 F11 (Or.inl (Nat.ne_of_lt (Nat.lt_of_lt_of_eq A3.lt g8.symm))))
  have F19 := (Fld.other W15 F12 (Or.inl (Nat.ne_of_lt (Nat.lt_of_lt_of_eq A3.lt g8.symm))))
  have A15v : Arv Z h15 a8 kc8 .char (2 : Int32) [(.int c0), (.int 0)] (.int 0) := A15
  refine og2 X15 hx (fun j _ k => o_dup j (y at_84) rfl <| o_iconstV j 1 (y at_85) rfl <| o_iload j (y at_86) rfl <| k) ?_
  refine sC (v := c1) 1 X15 hx hZ e15 A15v (own_nar_ch H6) (y at_88) (fun T20 h20 X20 e20 W20 A20 => ?_)
  have N20 := Fr.snoc X20 N15 G8
  have Z20 : n0 ≤ h20.size := (by rw [W20.size]; exact Z15)
  have O21 := (O16.wr W20 G8)
  have E22 := (Exa.wr W20 E17)
  have F23 := (Fld.other W20 F18 (Or.inl (Nat.ne_of_lt (Nat.lt_of_lt_of_eq A3.lt g8.symm))))
  have F24 := (Fld.other W20 F19 (Or.inl (Nat.ne_of_lt (Nat.lt_of_lt_of_eq A3.lt g8.symm))))
  have A20v : Arv Z h20 a8 kc8 .char (2 : Int32) [(.int c0), (.int c1)] (.int 0) := A20
  refine cI a3 [(.ref a8)] [(.ref a3)] 1 X20 hx hZ hown (w 9 rfl) (w 10 rfl) (w 7 rfl) (w 11 rfl) (rmI120 l Z a0 hw [] cs u8 a3 a8 kc8 c0 c1 h20 n0 Z20 H0 O21 F23 F24 E22 A20v G3 H7 H5 H6) e20 hml pd_oaCcV (y at_89) (fun v25 T25 L25 hQ25 X25 => ?_)
  obtain ⟨b_25, bk_25, rfl, N25a, K25, Q25_0, Q25_1, Q25_2, Q25_3⟩ := hQ25
  have N25 := Fr.app N20 N25a
  have e25 : T25.heap = T25.heap := rfl
  have Z25 : n0 ≤ T25.heap.size := (Nat.le_trans Z20 K25.1)
  have O26 := (O21.keep K25 (allS G3 all0))
  have E27 := (E22.keep K25)
  have A28 := (A20v.keep K25 (ninS (Ne.symm (Nat.ne_of_lt (Nat.lt_of_lt_of_eq A3.lt g8.symm))) nin0))
  refine og2 X25 hx (fun j _ k => o_astore j (y at_92) rfl (l' := #[.val (.int p1), .val (.int p2), .val (.int p3), .val (.int c0), .val (.int c1), .val (.int 2), .val (.ref a3), .unset, .unset, .unset]) rfl <| o_aload j (y at_94) rfl rfl <| k) ?_
  refine cSS [(.ref a3)] [] 0 X25 hx hZ hown hS (Nat.le_trans (Nat.le_trans (Nat.le_trans (Nat.le_trans (Nat.le_trans hkS E3.1) E8.1) (Nat.le_of_eq W15.size.symm)) (Nat.le_of_eq W20.size.symm)) K25.1) (w 27 rfl) (w 28 rfl) (w 29 rfl) (w 30 rfl) (rmKU21 l Z a0 hw [] cs u8 a3 b_25 bk_25 c0 c1 T25.heap n0 Z25 H0 O26 Q25_3 Q25_1 Q25_0 Q25_2 H5 H6) e25 hml pd_oLjava_lang_CharSequencescaB (y at_96) (fun v29 T29 L29 hQ29 X29 hS hZ hown => ?_)
  obtain ⟨r_29, rk_29, rfl, N29a, K29, Q29_0, Q29_1⟩ := hQ29
  have N29 := Fr.app N25 N29a
  have e29 : T29.heap = T29.heap := rfl
  have Z29 : n0 ≤ T29.heap.size := (Nat.le_trans Z25 K29.1)
  have ne29_a3_r : a3 ≠ r_29 := Nat.ne_of_lt (Nat.lt_of_lt_of_le E27.lt Q29_1)
  have ne29_a8_r : a8 ≠ r_29 := Nat.ne_of_lt (Nat.lt_of_lt_of_le A28.lt Q29_1)
  have ne29_b_25_r : b_25 ≠ r_29 := Nat.ne_of_lt (Nat.lt_of_lt_of_le Q25_3.lt Q29_1)
  have hkS : T29.heap.size ≤ T29.heap.size := Nat.le_refl _
  refine og2 X29 hx (fun j _ k => o_astore j (y at_99) rfl (l' := #[.val (.int p1), .val (.int p2), .val (.int p3), .val (.int c0), .val (.int c1), .val (.int 2), .val (.ref a3), .val (.ref r_29), .unset, .unset]) rfl <| o_bipushV j 6 (y at_101) rfl <| k) ?_
  refine nP .byte 6 "[B" X29 hx hZ (w 20 rfl) e29 (y at_103) (fun T37 h37 a37 kc37 g37 X37 e37 E37 A37 D37 => ?_)
  have Z37 : n0 ≤ h37.size := Nat.le_trans Z29 E37.1
  have G37 : n0 ≤ a37 := Nat.le_trans Z29 (Nat.le_of_eq g37.symm)
  have A45 := (Q29_0.ext E37)
  have A46 : Arv Z h37 a37 kc37 .byte (6 : Int32) [(.int 0), (.int 0), (.int 0), (.int 0), (.int 0), (.int 0)] (.int 0) := (A37.pad (pad_rep [] _ 6))
  refine og2 X37 hx (fun j _ k => o_astore j (y at_105) rfl (l' := #[.val (.int p1), .val (.int p2), .val (.int p3), .val (.int c0), .val (.int c1), .val (.int 2), .val (.ref a3), .val (.ref r_29), .val (.ref a37), .unset]) rfl <| o_iconstV j 0 (y at_107) rfl <| o_istore j (y at_108) (l' := #[.val (.int p1), .val (.int p2), .val (.int p3), .val (.int c0), .val (.int c1), .val (.int 2), .val (.ref a3), .val (.ref r_29), .val (.ref a37), .val (.int 0)]) rfl <| o_iload j (y at_110) rfl <| o_iconstV j 1 (y at_112) rfl <| o_icmpNo j (y at_113) (XT.ii_lt_f (by decide)) <| o_iload j (y at_116) rfl <| o_iconstV j 2 (y at_118) rfl <| o_icmpNo j (y at_119) (XT.ii_ne_f rfl) <| k) ?_
  have TAIL : ∀ (Lt : List Int32) (Tt : State) (ht : Heap) (lt : List Loc), Stand p l e room_1 (s.setVm T29.vm) m #[(.int p1), (.int p2), (.int p3)] below meth c Tt lt 9 45 → Tt.heap = ht → Fr n0 lt → n0 ≤ ht.size → T29.heap.size ≤ ht.size → Arv Z ht r_29 rk_29 .byte (own_ln (Lt)) (own_vs (Lt)) (.int 0) → Arv Z ht a37 kc37 .byte (6 : Int32) (own_e6 (Lt)) (.int 0) → OG p.tables e below (fun o u => ∃ v L, o = .returned v ∧ Q0v20 Z cs u8 p1 p2 p3 c0 c1 h0 n0 v u.heap L ∧ ReturnedEndW s o u L room_1.cells room_1.slots) (Tt.setTop (mkF m 201 #[.val (.int p1), .val (.int p2), .val (.int p3), .val (.int c0), .val (.int c1), .val (.int 2), .val (.ref a3), .val (.ref r_29), .val (.ref a37), .val (.int (own_ln (Lt)))] [])) := by
    intro Lt Tt ht lt Xt et Nt Zt hkt RAt EAt
    refine og2 Xt hx (fun j _ k => o_aload j (y at_201) rfl rfl <| o_alen Xt hx hZ et RAt (y at_203) <| o_iload j (y at_204) rfl <| o_icmpNo j (y at_206) (XT.ii_ne_f rfl) <| o_aload j (y at_209) rfl rfl <| o_aload j (y at_211) rfl rfl <| o_iconstV j 0 (y at_213) rfl <| o_iload j (y at_214) rfl <| k) ?_
    refine cS [(.ref r_29), (.ref a37), (.int 0), (.int (own_ln (Lt)))] [] 0 Xt hx hZ hown (w 82 rfl) (w 83 rfl) (w 2 rfl) (w 84 rfl) (rmEQ l Z a0 hw [] r_29 rk_29 a37 kc37 Lt (0 : Int32) ht n0 Zt RAt EAt (by decide) (by decide)) et hml pd_oaBaBIIcZ (y at_216) (fun v47 T47 L47 hQ47 X47 => ?_)
    obtain ⟨rfl, N47a, eh47⟩ := hQ47
    have N47 := Fr.app Nt N47a
    have e47 : T47.heap = ht := eh47
    refine og2 X47 hx (fun j _ k => o_ifNo j (y at_219) (by decide) <| o_aload j (y at_222) rfl rfl <| o_aload j (y at_224) rfl rfl <| o_iconstV j 1 (y at_226) rfl <| o_iload j (y at_227) rfl <| k) ?_
    refine cS [(.ref r_29), (.ref a37), (.int 1), (.int (own_ln (Lt)))] [] 0 X47 hx hZ hown (w 82 rfl) (w 83 rfl) (w 2 rfl) (w 84 rfl) (rmEQ l Z a0 hw [] r_29 rk_29 a37 kc37 Lt (1 : Int32) ht n0 Zt RAt EAt (by decide) (by decide)) e47 hml pd_oaBaBIIcZ (y at_229) (fun v48 T48 L48 hQ48 X48 => ?_)
    obtain ⟨rfl, N48a, eh48⟩ := hQ48
    have N48 := Fr.app N47 N48a
    have e48 : T48.heap = ht := eh48
    refine og2 X48 hx (fun j _ k => o_ifNo j (y at_232) (by decide) <| o_aload j (y at_235) rfl rfl <| o_aload j (y at_237) rfl rfl <| o_iconstV j 2 (y at_239) rfl <| o_iload j (y at_240) rfl <| k) ?_
    refine cS [(.ref r_29), (.ref a37), (.int 2), (.int (own_ln (Lt)))] [] 0 X48 hx hZ hown (w 82 rfl) (w 83 rfl) (w 2 rfl) (w 84 rfl) (rmEQ l Z a0 hw [] r_29 rk_29 a37 kc37 Lt (2 : Int32) ht n0 Zt RAt EAt (by decide) (by decide)) e48 hml pd_oaBaBIIcZ (y at_242) (fun v49 T49 L49 hQ49 X49 => ?_)
    obtain ⟨rfl, N49a, eh49⟩ := hQ49
    have N49 := Fr.app N48 N49a
    have e49 : T49.heap = ht := eh49
    refine og2 X49 hx (fun j _ k => o_ifNo j (y at_245) (by decide) <| o_aload j (y at_248) rfl rfl <| o_aload j (y at_250) rfl rfl <| o_iconstV j 3 (y at_252) rfl <| o_iload j (y at_253) rfl <| k) ?_
    refine cS [(.ref r_29), (.ref a37), (.int 3), (.int (own_ln (Lt)))] [] 0 X49 hx hZ hown (w 82 rfl) (w 83 rfl) (w 2 rfl) (w 84 rfl) (rmEQ l Z a0 hw [] r_29 rk_29 a37 kc37 Lt (3 : Int32) ht n0 Zt RAt EAt (by decide) (by decide)) e49 hml pd_oaBaBIIcZ (y at_255) (fun v50 T50 L50 hQ50 X50 => ?_)
    obtain ⟨rfl, N50a, eh50⟩ := hQ50
    have N50 := Fr.app N49 N50a
    have e50 : T50.heap = ht := eh50
    refine og2 X50 hx (fun j _ k => o_ifNo j (y at_258) (by decide) <| o_aload j (y at_261) rfl rfl <| o_aload j (y at_263) rfl rfl <| o_iconstV j 4 (y at_265) rfl <| o_iload j (y at_266) rfl <| k) ?_
    refine cS [(.ref r_29), (.ref a37), (.int 4), (.int (own_ln (Lt)))] [] 0 X50 hx hZ hown (w 82 rfl) (w 83 rfl) (w 2 rfl) (w 84 rfl) (rmEQ l Z a0 hw [] r_29 rk_29 a37 kc37 Lt (4 : Int32) ht n0 Zt RAt EAt (by decide) (by decide)) e50 hml pd_oaBaBIIcZ (y at_268) (fun v51 T51 L51 hQ51 X51 => ?_)
    obtain ⟨rfl, N51a, eh51⟩ := hQ51
    have N51 := Fr.app N50 N51a
    have e51 : T51.heap = ht := eh51
    refine og2 X51 hx (fun j _ k => o_ifNo j (y at_271) (by decide) <| o_aload j (y at_274) rfl rfl <| o_aload j (y at_276) rfl rfl <| o_iconstV j 5 (y at_278) rfl <| o_iload j (y at_279) rfl <| k) ?_
    refine cS [(.ref r_29), (.ref a37), (.int 5), (.int (own_ln (Lt)))] [] 0 X51 hx hZ hown (w 82 rfl) (w 83 rfl) (w 2 rfl) (w 84 rfl) (rmEQ l Z a0 hw [] r_29 rk_29 a37 kc37 Lt (5 : Int32) ht n0 Zt RAt EAt (by decide) (by decide)) e51 hml pd_oaBaBIIcZ (y at_281) (fun v52 T52 L52 hQ52 X52 => ?_)
    obtain ⟨rfl, N52a, eh52⟩ := hQ52
    have N52 := Fr.app N51 N52a
    have e52 : T52.heap = ht := eh52
    refine og2 X52 hx (fun j _ k => o_ifNo j (y at_284) (by decide) <| o_iconstV j 1 (y at_287) rfl <| o_goto j (pc' := 292) (y at_288) <| k) ?_
    exact rNW (v := (1 : Int32)) X52 hx Bd hS hkt (by simp) rfl (y at_292) e52 ⟨rfl, N52⟩
  refine og2 X37 hx (fun j _ k => o_iloadN j (y at_122) rfl <| o_ldcI X37 hx hZ hown (w 85 rfl) (y at_123) <| k) ?_
  by_cases C53 : c0 < (55296 : Int32)
  · refine og2 X37 hx (fun j _ k => o_icmpYes j (pc' := 175) (y at_125) (XT.ii_lt_t C53) <| o_aload j (y at_175) rfl rfl <| o_iconstV j 0 (y at_177) rfl <| o_iloadN j (y at_178) rfl <| k) ?_
    refine cS [(.ref a37), (.int 0), (.int c0)] [] 0 X37 hx hZ hown (w 145 rfl) (w 146 rfl) (w 2 rfl) (w 147 rfl) (rmPU0 l Z a0 hw [] a37 kc37 c0 h37 n0 Z37 A46 G37) e37 hml pd_oaBIIcI (y at_179) (fun v54 T54 L54 hQ54 X54 => ?_)
    obtain ⟨rfl, N54a, K54, Q54_0⟩ := hQ54
    have N54 := Fr.app N29 N54a
    have e54 : T54.heap = T54.heap := rfl
    have Z54 : n0 ≤ T54.heap.size := (Nat.le_trans Z37 K54.1)
    have A62 := (A45.keep K54 (ninS (Nat.ne_of_lt (Nat.lt_of_lt_of_eq Q29_0.lt g37.symm)) nin0))
    refine og2 X54 hx (fun j _ k => o_istore j (y at_182) (l' := #[.val (.int p1), .val (.int p2), .val (.int p3), .val (.int c0), .val (.int c1), .val (.int 2), .val (.ref a3), .val (.ref r_29), .val (.ref a37), .val (.int (own_ln ([] ++ own_put c0)))]) rfl <| o_iload j (y at_184) rfl <| o_iconstV j 2 (y at_186) rfl <| o_icmpNo j (y at_187) (XT.ii_ne_f rfl) <| o_aload j (y at_190) rfl rfl <| o_iload j (y at_192) rfl <| o_iload j (y at_194) rfl <| k) ?_
    refine cS [(.ref a37), (.int (own_ln ([] ++ own_put c0))), (.int c1)] [] 0 X54 hx hZ hown (w 145 rfl) (w 146 rfl) (w 2 rfl) (w 147 rfl) (rmPUL l Z a0 hw [] a37 kc37 ([] ++ own_put c0) c1 T54.heap n0 Z54 Q54_0 G37 (own_t16 H6) (own_put_le H5)) e54 hml pd_oaBIIcI (y at_196) (fun v63 T63 L63 hQ63 X63 => ?_)
    obtain ⟨rfl, N63a, K63, Q63_0⟩ := hQ63
    have N63 := Fr.app N54 N63a
    have e63 : T63.heap = T63.heap := rfl
    have Z63 : n0 ≤ T63.heap.size := (Nat.le_trans Z54 K63.1)
    have A71 := (A62.keep K63 (ninS (Nat.ne_of_lt (Nat.lt_of_lt_of_eq Q29_0.lt g37.symm)) nin0))
    refine og2 X63 hx (fun j _ k => o_istore j (y at_199) (l' := #[.val (.int p1), .val (.int p2), .val (.int p3), .val (.int c0), .val (.int c1), .val (.int 2), .val (.ref a3), .val (.ref r_29), .val (.ref a37), .val (.int (own_ln (([] ++ own_put c0) ++ own_put c1)))]) rfl <| k) ?_
    have RA72 : Arv Z T63.heap r_29 rk_29 .byte (own_ln (([] ++ own_put c0) ++ own_put c1)) (own_vs (([] ++ own_put c0) ++ own_put c1)) (.int 0) := (own_enc2_n (Or.inl C53) : own_enc2 c0 c1 = ([] ++ own_put c0) ++ own_put c1) ▸ A71
    exact TAIL (([] ++ own_put c0) ++ own_put c1) _ _ _ X63 e63 N63 Z63 (Nat.le_trans (Nat.le_trans (Nat.le_trans hkS E37.1) K54.1) K63.1) RA72 Q63_0
  · refine og2 X37 hx (fun j _ k => o_icmpNo j (y at_125) (XT.ii_lt_f C53) <| o_iloadN j (y at_128) rfl <| o_ldcI X37 hx hZ hown (w 144 rfl) (y at_129) <| k) ?_
    by_cases C73 : (56319 : Int32) < c0
    · refine og2 X37 hx (fun j _ k => o_icmpYes j (pc' := 175) (y at_131) (XT.ii_gt_t C73) <| o_aload j (y at_175) rfl rfl <| o_iconstV j 0 (y at_177) rfl <| o_iloadN j (y at_178) rfl <| k) ?_
      refine cS [(.ref a37), (.int 0), (.int c0)] [] 0 X37 hx hZ hown (w 145 rfl) (w 146 rfl) (w 2 rfl) (w 147 rfl) (rmPU0 l Z a0 hw [] a37 kc37 c0 h37 n0 Z37 A46 G37) e37 hml pd_oaBIIcI (y at_179) (fun v74 T74 L74 hQ74 X74 => ?_)
      obtain ⟨rfl, N74a, K74, Q74_0⟩ := hQ74
      have N74 := Fr.app N29 N74a
      have e74 : T74.heap = T74.heap := rfl
      have Z74 : n0 ≤ T74.heap.size := (Nat.le_trans Z37 K74.1)
      have A82 := (A45.keep K74 (ninS (Nat.ne_of_lt (Nat.lt_of_lt_of_eq Q29_0.lt g37.symm)) nin0))
      refine og2 X74 hx (fun j _ k => o_istore j (y at_182) (l' := #[.val (.int p1), .val (.int p2), .val (.int p3), .val (.int c0), .val (.int c1), .val (.int 2), .val (.ref a3), .val (.ref r_29), .val (.ref a37), .val (.int (own_ln ([] ++ own_put c0)))]) rfl <| o_iload j (y at_184) rfl <| o_iconstV j 2 (y at_186) rfl <| o_icmpNo j (y at_187) (XT.ii_ne_f rfl) <| o_aload j (y at_190) rfl rfl <| o_iload j (y at_192) rfl <| o_iload j (y at_194) rfl <| k) ?_
      refine cS [(.ref a37), (.int (own_ln ([] ++ own_put c0))), (.int c1)] [] 0 X74 hx hZ hown (w 145 rfl) (w 146 rfl) (w 2 rfl) (w 147 rfl) (rmPUL l Z a0 hw [] a37 kc37 ([] ++ own_put c0) c1 T74.heap n0 Z74 Q74_0 G37 (own_t16 H6) (own_put_le H5)) e74 hml pd_oaBIIcI (y at_196) (fun v83 T83 L83 hQ83 X83 => ?_)
      obtain ⟨rfl, N83a, K83, Q83_0⟩ := hQ83
      have N83 := Fr.app N74 N83a
      have e83 : T83.heap = T83.heap := rfl
      have Z83 : n0 ≤ T83.heap.size := (Nat.le_trans Z74 K83.1)
      have A91 := (A82.keep K83 (ninS (Nat.ne_of_lt (Nat.lt_of_lt_of_eq Q29_0.lt g37.symm)) nin0))
      refine og2 X83 hx (fun j _ k => o_istore j (y at_199) (l' := #[.val (.int p1), .val (.int p2), .val (.int p3), .val (.int c0), .val (.int c1), .val (.int 2), .val (.ref a3), .val (.ref r_29), .val (.ref a37), .val (.int (own_ln (([] ++ own_put c0) ++ own_put c1)))]) rfl <| k) ?_
      have RA92 : Arv Z T83.heap r_29 rk_29 .byte (own_ln (([] ++ own_put c0) ++ own_put c1)) (own_vs (([] ++ own_put c0) ++ own_put c1)) (.int 0) := (own_enc2_n (Or.inr (Or.inl C73)) : own_enc2 c0 c1 = ([] ++ own_put c0) ++ own_put c1) ▸ A91
      exact TAIL (([] ++ own_put c0) ++ own_put c1) _ _ _ X83 e83 N83 Z83 (Nat.le_trans (Nat.le_trans (Nat.le_trans hkS E37.1) K74.1) K83.1) RA92 Q83_0
    · refine og2 X37 hx (fun j _ k => o_icmpNo j (y at_131) (XT.ii_gt_f C73) <| o_iload j (y at_134) rfl <| o_ldcI X37 hx hZ hown (w 4 rfl) (y at_136) <| k) ?_
      by_cases C93 : c1 < (56320 : Int32)
      · refine og2 X37 hx (fun j _ k => o_icmpYes j (pc' := 175) (y at_138) (XT.ii_lt_t C93) <| o_aload j (y at_175) rfl rfl <| o_iconstV j 0 (y at_177) rfl <| o_iloadN j (y at_178) rfl <| k) ?_
        refine cS [(.ref a37), (.int 0), (.int c0)] [] 0 X37 hx hZ hown (w 145 rfl) (w 146 rfl) (w 2 rfl) (w 147 rfl) (rmPU0 l Z a0 hw [] a37 kc37 c0 h37 n0 Z37 A46 G37) e37 hml pd_oaBIIcI (y at_179) (fun v94 T94 L94 hQ94 X94 => ?_)
        obtain ⟨rfl, N94a, K94, Q94_0⟩ := hQ94
        have N94 := Fr.app N29 N94a
        have e94 : T94.heap = T94.heap := rfl
        have Z94 : n0 ≤ T94.heap.size := (Nat.le_trans Z37 K94.1)
        have A102 := (A45.keep K94 (ninS (Nat.ne_of_lt (Nat.lt_of_lt_of_eq Q29_0.lt g37.symm)) nin0))
        refine og2 X94 hx (fun j _ k => o_istore j (y at_182) (l' := #[.val (.int p1), .val (.int p2), .val (.int p3), .val (.int c0), .val (.int c1), .val (.int 2), .val (.ref a3), .val (.ref r_29), .val (.ref a37), .val (.int (own_ln ([] ++ own_put c0)))]) rfl <| o_iload j (y at_184) rfl <| o_iconstV j 2 (y at_186) rfl <| o_icmpNo j (y at_187) (XT.ii_ne_f rfl) <| o_aload j (y at_190) rfl rfl <| o_iload j (y at_192) rfl <| o_iload j (y at_194) rfl <| k) ?_
        refine cS [(.ref a37), (.int (own_ln ([] ++ own_put c0))), (.int c1)] [] 0 X94 hx hZ hown (w 145 rfl) (w 146 rfl) (w 2 rfl) (w 147 rfl) (rmPUL l Z a0 hw [] a37 kc37 ([] ++ own_put c0) c1 T94.heap n0 Z94 Q94_0 G37 (own_t16 H6) (own_put_le H5)) e94 hml pd_oaBIIcI (y at_196) (fun v103 T103 L103 hQ103 X103 => ?_)
        obtain ⟨rfl, N103a, K103, Q103_0⟩ := hQ103
        have N103 := Fr.app N94 N103a
        have e103 : T103.heap = T103.heap := rfl
        have Z103 : n0 ≤ T103.heap.size := (Nat.le_trans Z94 K103.1)
        have A111 := (A102.keep K103 (ninS (Nat.ne_of_lt (Nat.lt_of_lt_of_eq Q29_0.lt g37.symm)) nin0))
        refine og2 X103 hx (fun j _ k => o_istore j (y at_199) (l' := #[.val (.int p1), .val (.int p2), .val (.int p3), .val (.int c0), .val (.int c1), .val (.int 2), .val (.ref a3), .val (.ref r_29), .val (.ref a37), .val (.int (own_ln (([] ++ own_put c0) ++ own_put c1)))]) rfl <| k) ?_
        have RA112 : Arv Z T103.heap r_29 rk_29 .byte (own_ln (([] ++ own_put c0) ++ own_put c1)) (own_vs (([] ++ own_put c0) ++ own_put c1)) (.int 0) := (own_enc2_n (Or.inr (Or.inr (Or.inl C93))) : own_enc2 c0 c1 = ([] ++ own_put c0) ++ own_put c1) ▸ A111
        exact TAIL (([] ++ own_put c0) ++ own_put c1) _ _ _ X103 e103 N103 Z103 (Nat.le_trans (Nat.le_trans (Nat.le_trans hkS E37.1) K94.1) K103.1) RA112 Q103_0
      · refine og2 X37 hx (fun j _ k => o_icmpNo j (y at_138) (XT.ii_lt_f C93) <| o_iload j (y at_141) rfl <| o_ldcI X37 hx hZ hown (w 148 rfl) (y at_143) <| k) ?_
        by_cases C113 : (57343 : Int32) < c1
        · refine og2 X37 hx (fun j _ k => o_icmpYes j (pc' := 175) (y at_145) (XT.ii_gt_t C113) <| o_aload j (y at_175) rfl rfl <| o_iconstV j 0 (y at_177) rfl <| o_iloadN j (y at_178) rfl <| k) ?_
          refine cS [(.ref a37), (.int 0), (.int c0)] [] 0 X37 hx hZ hown (w 145 rfl) (w 146 rfl) (w 2 rfl) (w 147 rfl) (rmPU0 l Z a0 hw [] a37 kc37 c0 h37 n0 Z37 A46 G37) e37 hml pd_oaBIIcI (y at_179) (fun v114 T114 L114 hQ114 X114 => ?_)
          obtain ⟨rfl, N114a, K114, Q114_0⟩ := hQ114
          have N114 := Fr.app N29 N114a
          have e114 : T114.heap = T114.heap := rfl
          have Z114 : n0 ≤ T114.heap.size := (Nat.le_trans Z37 K114.1)
          have A122 := (A45.keep K114 (ninS (Nat.ne_of_lt (Nat.lt_of_lt_of_eq Q29_0.lt g37.symm)) nin0))
          refine og2 X114 hx (fun j _ k => o_istore j (y at_182) (l' := #[.val (.int p1), .val (.int p2), .val (.int p3), .val (.int c0), .val (.int c1), .val (.int 2), .val (.ref a3), .val (.ref r_29), .val (.ref a37), .val (.int (own_ln ([] ++ own_put c0)))]) rfl <| o_iload j (y at_184) rfl <| o_iconstV j 2 (y at_186) rfl <| o_icmpNo j (y at_187) (XT.ii_ne_f rfl) <| o_aload j (y at_190) rfl rfl <| o_iload j (y at_192) rfl <| o_iload j (y at_194) rfl <| k) ?_
          refine cS [(.ref a37), (.int (own_ln ([] ++ own_put c0))), (.int c1)] [] 0 X114 hx hZ hown (w 145 rfl) (w 146 rfl) (w 2 rfl) (w 147 rfl) (rmPUL l Z a0 hw [] a37 kc37 ([] ++ own_put c0) c1 T114.heap n0 Z114 Q114_0 G37 (own_t16 H6) (own_put_le H5)) e114 hml pd_oaBIIcI (y at_196) (fun v123 T123 L123 hQ123 X123 => ?_)
          obtain ⟨rfl, N123a, K123, Q123_0⟩ := hQ123
          have N123 := Fr.app N114 N123a
          have e123 : T123.heap = T123.heap := rfl
          have Z123 : n0 ≤ T123.heap.size := (Nat.le_trans Z114 K123.1)
          have A131 := (A122.keep K123 (ninS (Nat.ne_of_lt (Nat.lt_of_lt_of_eq Q29_0.lt g37.symm)) nin0))
          refine og2 X123 hx (fun j _ k => o_istore j (y at_199) (l' := #[.val (.int p1), .val (.int p2), .val (.int p3), .val (.int c0), .val (.int c1), .val (.int 2), .val (.ref a3), .val (.ref r_29), .val (.ref a37), .val (.int (own_ln (([] ++ own_put c0) ++ own_put c1)))]) rfl <| k) ?_
          have RA132 : Arv Z T123.heap r_29 rk_29 .byte (own_ln (([] ++ own_put c0) ++ own_put c1)) (own_vs (([] ++ own_put c0) ++ own_put c1)) (.int 0) := (own_enc2_n (Or.inr (Or.inr (Or.inr (C113)))) : own_enc2 c0 c1 = ([] ++ own_put c0) ++ own_put c1) ▸ A131
          exact TAIL (([] ++ own_put c0) ++ own_put c1) _ _ _ X123 e123 N123 Z123 (Nat.le_trans (Nat.le_trans (Nat.le_trans hkS E37.1) K114.1) K123.1) RA132 Q123_0
        · refine og2 X37 hx (fun j _ k => o_icmpNo j (y at_145) (XT.ii_gt_f C113) <| o_aload j (y at_148) rfl rfl <| o_iconstV j 0 (y at_150) rfl <| o_ldcI X37 hx hZ hown (w 149 rfl) (y at_151) <| o_iloadN j (y at_153) rfl <| o_ldcI X37 hx hZ hown (w 85 rfl) (y at_154) <| o_isub j (y at_156) <| o_bipushV j 10 (y at_157) rfl <| o_ishl j (y at_159) <| o_iadd j (y at_160) <| o_iload j (y at_161) rfl <| o_ldcI X37 hx hZ hown (w 4 rfl) (y at_163) <| o_isub j (y at_165) <| o_iadd j (y at_166) <| k) ?_
          refine cS [(.ref a37), (.int 0), (.int (((65536 : Int32) + ((c0 - (55296 : Int32)) <<< ((10 : Int32) &&& 31))) + (c1 - (56320 : Int32))))] [] 0 X37 hx hZ hown (w 145 rfl) (w 146 rfl) (w 2 rfl) (w 147 rfl) (rmPU0 l Z a0 hw [] a37 kc37 (((65536 : Int32) + ((c0 - (55296 : Int32)) <<< ((10 : Int32) &&& 31))) + (c1 - (56320 : Int32))) h37 n0 Z37 A46 G37) e37 hml pd_oaBIIcI (y at_167) (fun v133 T133 L133 hQ133 X133 => ?_)
          obtain ⟨rfl, N133a, K133, Q133_0⟩ := hQ133
          have N133 := Fr.app N29 N133a
          have e133 : T133.heap = T133.heap := rfl
          have Z133 : n0 ≤ T133.heap.size := (Nat.le_trans Z37 K133.1)
          have A141 := (A45.keep K133 (ninS (Nat.ne_of_lt (Nat.lt_of_lt_of_eq Q29_0.lt g37.symm)) nin0))
          refine og2 X133 hx (fun j _ k => o_istore j (y at_170) (l' := #[.val (.int p1), .val (.int p2), .val (.int p3), .val (.int c0), .val (.int c1), .val (.int 2), .val (.ref a3), .val (.ref r_29), .val (.ref a37), .val (.int (own_ln ([] ++ own_put (((65536 : Int32) + ((c0 - (55296 : Int32)) <<< ((10 : Int32) &&& 31))) + (c1 - (56320 : Int32))))))]) rfl <| o_goto j (pc' := 201) (y at_172) <| k) ?_
          have RA142 : Arv Z T133.heap r_29 rk_29 .byte (own_ln ([] ++ own_put (((65536 : Int32) + ((c0 - (55296 : Int32)) <<< ((10 : Int32) &&& 31))) + (c1 - (56320 : Int32))))) (own_vs ([] ++ own_put (((65536 : Int32) + ((c0 - (55296 : Int32)) <<< ((10 : Int32) &&& 31))) + (c1 - (56320 : Int32))))) (.int 0) := (own_enc2_p C53 C73 C93 C113 : own_enc2 c0 c1 = [] ++ own_put (((65536 : Int32) + ((c0 - (55296 : Int32)) <<< ((10 : Int32) &&& 31))) + (c1 - (56320 : Int32)))) ▸ A141
          exact TAIL ([] ++ own_put (((65536 : Int32) + ((c0 - (55296 : Int32)) <<< ((10 : Int32) &&& 31))) + (c1 - (56320 : Int32)))) _ _ _ X133 e133 N133 Z133 (Nat.le_trans (Nat.le_trans hkS E37.1) K133.1) RA142 Q133_0

def Q0v21 (Z : State) (cs : Int32) (u8 : Addr) (p1 : Int32) (p2 : Int32) (p3 : Int32) (c0 : Int32) (c1 : Int32) (h0 : Heap) (n0 : Nat) (v : Option Value) (h : Heap) (L : List Loc) : Prop := v = some (.int 1) ∧ Fr n0 L
theorem rm0v21 (l : Launch) (Z : State) (a0 : Array Value) (hw : HW a0 Z) (ws : List Jvm.Cond) (cs : Int32) (u8 : Addr) (p1 : Int32) (p2 : Int32) (p3 : Int32) (c0 : Int32) (c1 : Int32) (h0 : Heap) (n0 : Nat) (Z0 : n0 ≤ h0.size) (H0 : OSt Z cs u8) (pr1 : Old Z n0 h0) (H2 : own_pick p1 (p3 &&& (3 : Int32)) = c0) (H3 : own_pick p2 ((XT.ushr p3 (2 : Int32)) &&& (3 : Int32)) = c1) (H4 : ((XT.ushr p3 (4 : Int32)) &&& (3 : Int32)) - (((XT.ushr p3 (4 : Int32)) &&& (3 : Int32)) / (3 : Int32)) * (3 : Int32) = 2) (H5 : OCh c0) (H6 : OCh c1) (H7 : ¬ (255 : Int32) < c0) (H8 : (255 : Int32) < c1) :
    MetFree l x (head1 (Jvm.Cond.code x code maxLocals ret :: ws) room_1) (fun a U => a = #[(.int p1), (.int p2), (.int p3)] ∧ Z.Warmed39 U.vm ∧ U.heap = h0 ∧ CHv Z own_EL U.vm h0) (fun _ _ _ _ _ => True) (fun _ U o U' => ∃ v L, o = .returned v ∧ Q0v21 Z cs u8 p1 p2 p3 c0 c1 h0 n0 v U'.heap L ∧ ReturnedEndW U o U' L room_1.cells room_1.slots) := by
  refine og_startH (plainFor_of_name pn_com_example_unseen_unseen_KeysUtf8PinLaw) fun p e s m below meth c s₁ Bd hx hby hml hZ hown hnm X0 e0 hS hkS hC0 => ?_
  have y := @hb _ _ hby
  have w := @wd _ _ hw
  refine og (fun t k => castTop (ef15 m p1 p2 p3) k) ?_
  refine og2 X0 hx (fun j _ k => o_iloadN j (y at_0) rfl <| o_iloadN j (y at_1) rfl <| o_iconstV j 3 (y at_2) rfl <| o_iand j (y at_3) <| k) ?_
  refine cS [(.int p1), (.int (p3 &&& (3 : Int32)))] [] 0 X0 hx hZ hown (w 0 rfl) (w 1 rfl) (w 2 rfl) (w 3 rfl) (rmPK l Z a0 hw [] p1 (p3 &&& (3 : Int32)) h0 n0 Z0) e0 hml pd_oIIcC (y at_4) (fun v1 T1 L1 hQ1 X1 => ?_)
  obtain ⟨rfl, N1a, eh1⟩ := hQ1
  have N1 := Fr.app (Fr.nil n0) N1a
  have e1 : T1.heap = h0 := eh1
  rw [H2]
  refine og2 X1 hx (fun j _ k => o_istoreN j (y at_7) (l' := #[.val (.int p1), .val (.int p2), .val (.int p3), .val (.int c0), .unset, .unset, .unset, .unset, .unset, .unset]) rfl <| o_iloadN j (y at_8) rfl <| o_iloadN j (y at_9) rfl <| o_iconstV j 2 (y at_10) rfl <| o_iushr j (y at_11) <| o_iconstV j 3 (y at_12) rfl <| o_iand j (y at_13) <| k) ?_
  refine cS [(.int p2), (.int ((XT.ushr p3 (2 : Int32)) &&& (3 : Int32)))] [] 0 X1 hx hZ hown (w 0 rfl) (w 1 rfl) (w 2 rfl) (w 3 rfl) (rmPK l Z a0 hw [] p2 ((XT.ushr p3 (2 : Int32)) &&& (3 : Int32)) h0 n0 Z0) e1 hml pd_oIIcC (y at_14) (fun v2 T2 L2 hQ2 X2 => ?_)
  obtain ⟨rfl, N2a, eh2⟩ := hQ2
  have N2 := Fr.app N1 N2a
  have e2 : T2.heap = h0 := eh2
  rw [H3]
  refine og2 X2 hx (fun j _ k => o_istore j (y at_17) (l' := #[.val (.int p1), .val (.int p2), .val (.int p3), .val (.int c0), .val (.int c1), .unset, .unset, .unset, .unset, .unset]) rfl <| o_iloadN j (y at_19) rfl <| o_iconstV j 4 (y at_20) rfl <| o_iushr j (y at_21) <| o_iconstV j 3 (y at_22) rfl <| o_iand j (y at_23) <| o_iconstV j 3 (y at_24) rfl <| o_irem j (y at_25) (by decide) <| k) ?_
  rw [H4]
  refine og2 X2 hx (fun j _ k => o_istore j (y at_26) (l' := #[.val (.int p1), .val (.int p2), .val (.int p3), .val (.int c0), .val (.int c1), .val (.int 2), .unset, .unset, .unset, .unset]) rfl <| o_iload j (y at_28) rfl <| o_ifYes j (pc' := 48) (y at_30) (by decide) <| o_iload j (y at_48) rfl <| o_iconstV j 1 (y at_50) rfl <| o_icmpYes j (pc' := 73) (y at_51) (XT.ii_ne_t (by decide)) <| k) ?_
  refine nO X2 hx hZ hown (w 5 rfl) (w 6 rfl) (w 7 rfl) e2 (y at_73) (fun T3 h3 a3 g3 X3 e3 E3 A3 D3 => ?_)
  have Z3 : n0 ≤ h3.size := Nat.le_trans Z0 E3.1
  have G3 : n0 ≤ a3 := Nat.le_trans Z0 (Nat.le_of_eq g3.symm)
  have O4 := (pr1.ext E3)
  have F6 : Fld Z h3 a3 "java/lang/String" "value" "[B" .null := (D3 (Or.inr (w 21 rfl)) (ty := (.array .byte)) (by decide))
  have F7 : Fld Z h3 a3 "java/lang/String" "coder" "B" (.int 0) := (D3 (Or.inr (w 22 rfl)) (ty := .byte) (by decide))
  refine og2 X3 hx (fun j _ k => o_dup j (y at_76) rfl <| o_iconstV j 2 (y at_77) rfl <| k) ?_
  refine nP .char 2 "[C" X3 hx hZ (w 8 rfl) e3 (y at_78) (fun T8 h8 a8 kc8 g8 X8 e8 E8 A8 D8 => ?_)
  have Z8 : n0 ≤ h8.size := Nat.le_trans Z3 E8.1
  have G8 : n0 ≤ a8 := Nat.le_trans Z3 (Nat.le_of_eq g8.symm)
  have O9 := (O4.ext E8)
  have E10 := (Exa.ext E8 A3)
  have F11 := (Fld.ext E8 F6)
  have F12 := (Fld.ext E8 F7)
  have A14 : Arv Z h8 a8 kc8 .char (2 : Int32) [(.int 0), (.int 0)] (.int 0) := (A8.pad (pad_rep [] _ 2))
  refine og2 X8 hx (fun j _ k => o_dup j (y at_80) rfl <| o_iconstV j 0 (y at_81) rfl <| o_iloadN j (y at_82) rfl <| k) ?_
  refine sC (v := c0) 0 X8 hx hZ e8 A14 (own_nar_ch H5) (y at_83) (fun T15 h15 X15 e15 W15 A15 => ?_)
  have N15 := Fr.snoc X15 N2 G8
  have Z15 : n0 ≤ h15.size := (by rw [W15.size]; exact Z8)
  have O16 := (O9.wr W15 G8)
  have E17 := (Exa.wr W15 E10)
  have F18 := (Fld.other W15 F11 (Or.inl (Nat.ne_of_lt (Nat.lt_of_lt_of_eq A3.lt g8.symm))))
  have F19 := (Fld.other W15 F12 (Or.inl (Nat.ne_of_lt (Nat.lt_of_lt_of_eq A3.lt g8.symm))))
  have A15v : Arv Z h15 a8 kc8 .char (2 : Int32) [(.int c0), (.int 0)] (.int 0) := A15
  refine og2 X15 hx (fun j _ k => o_dup j (y at_84) rfl <| o_iconstV j 1 (y at_85) rfl <| o_iload j (y at_86) rfl <| k) ?_
  refine sC (v := c1) 1 X15 hx hZ e15 A15v (own_nar_ch H6) (y at_88) (fun T20 h20 X20 e20 W20 A20 => ?_)
  have N20 := Fr.snoc X20 N15 G8
  have Z20 : n0 ≤ h20.size := (by rw [W20.size]; exact Z15)
  have O21 := (O16.wr W20 G8)
  have E22 := (Exa.wr W20 E17)
  have F23 := (Fld.other W20 F18 (Or.inl (Nat.ne_of_lt (Nat.lt_of_lt_of_eq A3.lt g8.symm))))
  have F24 := (Fld.other W20 F19 (Or.inl (Nat.ne_of_lt (Nat.lt_of_lt_of_eq A3.lt g8.symm))))
  have A20v : Arv Z h20 a8 kc8 .char (2 : Int32) [(.int c0), (.int c1)] (.int 0) := A20
  refine cI a3 [(.ref a8)] [(.ref a3)] 1 X20 hx hZ hown (w 9 rfl) (w 10 rfl) (w 7 rfl) (w 11 rfl) (rmI121 l Z a0 hw [] cs u8 a3 a8 kc8 c0 c1 h20 n0 Z20 H0 O21 F23 F24 E22 A20v G3 H7 H8 H5 H6) e20 hml pd_oaCcV (y at_89) (fun v25 T25 L25 hQ25 X25 => ?_)
  obtain ⟨b_25, bk_25, rfl, N25a, K25, Q25_0, Q25_1, Q25_2, Q25_3⟩ := hQ25
  have N25 := Fr.app N20 N25a
  have e25 : T25.heap = T25.heap := rfl
  have Z25 : n0 ≤ T25.heap.size := (Nat.le_trans Z20 K25.1)
  have O26 := (O21.keep K25 (allS G3 all0))
  have E27 := (E22.keep K25)
  have A28 := (A20v.keep K25 (ninS (Ne.symm (Nat.ne_of_lt (Nat.lt_of_lt_of_eq A3.lt g8.symm))) nin0))
  refine og2 X25 hx (fun j _ k => o_astore j (y at_92) rfl (l' := #[.val (.int p1), .val (.int p2), .val (.int p3), .val (.int c0), .val (.int c1), .val (.int 2), .val (.ref a3), .unset, .unset, .unset]) rfl <| o_aload j (y at_94) rfl rfl <| k) ?_
  refine cSS [(.ref a3)] [] 0 X25 hx hZ hown hS (Nat.le_trans (Nat.le_trans (Nat.le_trans (Nat.le_trans (Nat.le_trans hkS E3.1) E8.1) (Nat.le_of_eq W15.size.symm)) (Nat.le_of_eq W20.size.symm)) K25.1) (w 27 rfl) (w 28 rfl) (w 29 rfl) (w 30 rfl) (rmKU21 l Z a0 hw [] cs u8 a3 b_25 bk_25 c0 c1 T25.heap n0 Z25 H0 O26 Q25_3 Q25_1 Q25_0 Q25_2 H5 H6) e25 hml pd_oLjava_lang_CharSequencescaB (y at_96) (fun v29 T29 L29 hQ29 X29 hS hZ hown => ?_)
  obtain ⟨r_29, rk_29, rfl, N29a, K29, Q29_0, Q29_1⟩ := hQ29
  have N29 := Fr.app N25 N29a
  have e29 : T29.heap = T29.heap := rfl
  have Z29 : n0 ≤ T29.heap.size := (Nat.le_trans Z25 K29.1)
  have ne29_a3_r : a3 ≠ r_29 := Nat.ne_of_lt (Nat.lt_of_lt_of_le E27.lt Q29_1)
  have ne29_a8_r : a8 ≠ r_29 := Nat.ne_of_lt (Nat.lt_of_lt_of_le A28.lt Q29_1)
  have ne29_b_25_r : b_25 ≠ r_29 := Nat.ne_of_lt (Nat.lt_of_lt_of_le Q25_3.lt Q29_1)
  have hkS : T29.heap.size ≤ T29.heap.size := Nat.le_refl _
  refine og2 X29 hx (fun j _ k => o_astore j (y at_99) rfl (l' := #[.val (.int p1), .val (.int p2), .val (.int p3), .val (.int c0), .val (.int c1), .val (.int 2), .val (.ref a3), .val (.ref r_29), .unset, .unset]) rfl <| o_bipushV j 6 (y at_101) rfl <| k) ?_
  refine nP .byte 6 "[B" X29 hx hZ (w 20 rfl) e29 (y at_103) (fun T37 h37 a37 kc37 g37 X37 e37 E37 A37 D37 => ?_)
  have Z37 : n0 ≤ h37.size := Nat.le_trans Z29 E37.1
  have G37 : n0 ≤ a37 := Nat.le_trans Z29 (Nat.le_of_eq g37.symm)
  have A45 := (Q29_0.ext E37)
  have A46 : Arv Z h37 a37 kc37 .byte (6 : Int32) [(.int 0), (.int 0), (.int 0), (.int 0), (.int 0), (.int 0)] (.int 0) := (A37.pad (pad_rep [] _ 6))
  refine og2 X37 hx (fun j _ k => o_astore j (y at_105) rfl (l' := #[.val (.int p1), .val (.int p2), .val (.int p3), .val (.int c0), .val (.int c1), .val (.int 2), .val (.ref a3), .val (.ref r_29), .val (.ref a37), .unset]) rfl <| o_iconstV j 0 (y at_107) rfl <| o_istore j (y at_108) (l' := #[.val (.int p1), .val (.int p2), .val (.int p3), .val (.int c0), .val (.int c1), .val (.int 2), .val (.ref a3), .val (.ref r_29), .val (.ref a37), .val (.int 0)]) rfl <| o_iload j (y at_110) rfl <| o_iconstV j 1 (y at_112) rfl <| o_icmpNo j (y at_113) (XT.ii_lt_f (by decide)) <| o_iload j (y at_116) rfl <| o_iconstV j 2 (y at_118) rfl <| o_icmpNo j (y at_119) (XT.ii_ne_f rfl) <| k) ?_
  have TAIL : ∀ (Lt : List Int32) (Tt : State) (ht : Heap) (lt : List Loc), Stand p l e room_1 (s.setVm T29.vm) m #[(.int p1), (.int p2), (.int p3)] below meth c Tt lt 9 45 → Tt.heap = ht → Fr n0 lt → n0 ≤ ht.size → T29.heap.size ≤ ht.size → Arv Z ht r_29 rk_29 .byte (own_ln (Lt)) (own_vs (Lt)) (.int 0) → Arv Z ht a37 kc37 .byte (6 : Int32) (own_e6 (Lt)) (.int 0) → OG p.tables e below (fun o u => ∃ v L, o = .returned v ∧ Q0v21 Z cs u8 p1 p2 p3 c0 c1 h0 n0 v u.heap L ∧ ReturnedEndW s o u L room_1.cells room_1.slots) (Tt.setTop (mkF m 201 #[.val (.int p1), .val (.int p2), .val (.int p3), .val (.int c0), .val (.int c1), .val (.int 2), .val (.ref a3), .val (.ref r_29), .val (.ref a37), .val (.int (own_ln (Lt)))] [])) := by
    intro Lt Tt ht lt Xt et Nt Zt hkt RAt EAt
    refine og2 Xt hx (fun j _ k => o_aload j (y at_201) rfl rfl <| o_alen Xt hx hZ et RAt (y at_203) <| o_iload j (y at_204) rfl <| o_icmpNo j (y at_206) (XT.ii_ne_f rfl) <| o_aload j (y at_209) rfl rfl <| o_aload j (y at_211) rfl rfl <| o_iconstV j 0 (y at_213) rfl <| o_iload j (y at_214) rfl <| k) ?_
    refine cS [(.ref r_29), (.ref a37), (.int 0), (.int (own_ln (Lt)))] [] 0 Xt hx hZ hown (w 82 rfl) (w 83 rfl) (w 2 rfl) (w 84 rfl) (rmEQ l Z a0 hw [] r_29 rk_29 a37 kc37 Lt (0 : Int32) ht n0 Zt RAt EAt (by decide) (by decide)) et hml pd_oaBaBIIcZ (y at_216) (fun v47 T47 L47 hQ47 X47 => ?_)
    obtain ⟨rfl, N47a, eh47⟩ := hQ47
    have N47 := Fr.app Nt N47a
    have e47 : T47.heap = ht := eh47
    refine og2 X47 hx (fun j _ k => o_ifNo j (y at_219) (by decide) <| o_aload j (y at_222) rfl rfl <| o_aload j (y at_224) rfl rfl <| o_iconstV j 1 (y at_226) rfl <| o_iload j (y at_227) rfl <| k) ?_
    refine cS [(.ref r_29), (.ref a37), (.int 1), (.int (own_ln (Lt)))] [] 0 X47 hx hZ hown (w 82 rfl) (w 83 rfl) (w 2 rfl) (w 84 rfl) (rmEQ l Z a0 hw [] r_29 rk_29 a37 kc37 Lt (1 : Int32) ht n0 Zt RAt EAt (by decide) (by decide)) e47 hml pd_oaBaBIIcZ (y at_229) (fun v48 T48 L48 hQ48 X48 => ?_)
    obtain ⟨rfl, N48a, eh48⟩ := hQ48
    have N48 := Fr.app N47 N48a
    have e48 : T48.heap = ht := eh48
    refine og2 X48 hx (fun j _ k => o_ifNo j (y at_232) (by decide) <| o_aload j (y at_235) rfl rfl <| o_aload j (y at_237) rfl rfl <| o_iconstV j 2 (y at_239) rfl <| o_iload j (y at_240) rfl <| k) ?_
    refine cS [(.ref r_29), (.ref a37), (.int 2), (.int (own_ln (Lt)))] [] 0 X48 hx hZ hown (w 82 rfl) (w 83 rfl) (w 2 rfl) (w 84 rfl) (rmEQ l Z a0 hw [] r_29 rk_29 a37 kc37 Lt (2 : Int32) ht n0 Zt RAt EAt (by decide) (by decide)) e48 hml pd_oaBaBIIcZ (y at_242) (fun v49 T49 L49 hQ49 X49 => ?_)
    obtain ⟨rfl, N49a, eh49⟩ := hQ49
    have N49 := Fr.app N48 N49a
    have e49 : T49.heap = ht := eh49
    refine og2 X49 hx (fun j _ k => o_ifNo j (y at_245) (by decide) <| o_aload j (y at_248) rfl rfl <| o_aload j (y at_250) rfl rfl <| o_iconstV j 3 (y at_252) rfl <| o_iload j (y at_253) rfl <| k) ?_
    refine cS [(.ref r_29), (.ref a37), (.int 3), (.int (own_ln (Lt)))] [] 0 X49 hx hZ hown (w 82 rfl) (w 83 rfl) (w 2 rfl) (w 84 rfl) (rmEQ l Z a0 hw [] r_29 rk_29 a37 kc37 Lt (3 : Int32) ht n0 Zt RAt EAt (by decide) (by decide)) e49 hml pd_oaBaBIIcZ (y at_255) (fun v50 T50 L50 hQ50 X50 => ?_)
    obtain ⟨rfl, N50a, eh50⟩ := hQ50
    have N50 := Fr.app N49 N50a
    have e50 : T50.heap = ht := eh50
    refine og2 X50 hx (fun j _ k => o_ifNo j (y at_258) (by decide) <| o_aload j (y at_261) rfl rfl <| o_aload j (y at_263) rfl rfl <| o_iconstV j 4 (y at_265) rfl <| o_iload j (y at_266) rfl <| k) ?_
    refine cS [(.ref r_29), (.ref a37), (.int 4), (.int (own_ln (Lt)))] [] 0 X50 hx hZ hown (w 82 rfl) (w 83 rfl) (w 2 rfl) (w 84 rfl) (rmEQ l Z a0 hw [] r_29 rk_29 a37 kc37 Lt (4 : Int32) ht n0 Zt RAt EAt (by decide) (by decide)) e50 hml pd_oaBaBIIcZ (y at_268) (fun v51 T51 L51 hQ51 X51 => ?_)
    obtain ⟨rfl, N51a, eh51⟩ := hQ51
    have N51 := Fr.app N50 N51a
    have e51 : T51.heap = ht := eh51
    refine og2 X51 hx (fun j _ k => o_ifNo j (y at_271) (by decide) <| o_aload j (y at_274) rfl rfl <| o_aload j (y at_276) rfl rfl <| o_iconstV j 5 (y at_278) rfl <| o_iload j (y at_279) rfl <| k) ?_
    refine cS [(.ref r_29), (.ref a37), (.int 5), (.int (own_ln (Lt)))] [] 0 X51 hx hZ hown (w 82 rfl) (w 83 rfl) (w 2 rfl) (w 84 rfl) (rmEQ l Z a0 hw [] r_29 rk_29 a37 kc37 Lt (5 : Int32) ht n0 Zt RAt EAt (by decide) (by decide)) e51 hml pd_oaBaBIIcZ (y at_281) (fun v52 T52 L52 hQ52 X52 => ?_)
    obtain ⟨rfl, N52a, eh52⟩ := hQ52
    have N52 := Fr.app N51 N52a
    have e52 : T52.heap = ht := eh52
    refine og2 X52 hx (fun j _ k => o_ifNo j (y at_284) (by decide) <| o_iconstV j 1 (y at_287) rfl <| o_goto j (pc' := 292) (y at_288) <| k) ?_
    exact rNW (v := (1 : Int32)) X52 hx Bd hS hkt (by simp) rfl (y at_292) e52 ⟨rfl, N52⟩
  refine og2 X37 hx (fun j _ k => o_iloadN j (y at_122) rfl <| o_ldcI X37 hx hZ hown (w 85 rfl) (y at_123) <| k) ?_
  by_cases C53 : c0 < (55296 : Int32)
  · refine og2 X37 hx (fun j _ k => o_icmpYes j (pc' := 175) (y at_125) (XT.ii_lt_t C53) <| o_aload j (y at_175) rfl rfl <| o_iconstV j 0 (y at_177) rfl <| o_iloadN j (y at_178) rfl <| k) ?_
    refine cS [(.ref a37), (.int 0), (.int c0)] [] 0 X37 hx hZ hown (w 145 rfl) (w 146 rfl) (w 2 rfl) (w 147 rfl) (rmPU0 l Z a0 hw [] a37 kc37 c0 h37 n0 Z37 A46 G37) e37 hml pd_oaBIIcI (y at_179) (fun v54 T54 L54 hQ54 X54 => ?_)
    obtain ⟨rfl, N54a, K54, Q54_0⟩ := hQ54
    have N54 := Fr.app N29 N54a
    have e54 : T54.heap = T54.heap := rfl
    have Z54 : n0 ≤ T54.heap.size := (Nat.le_trans Z37 K54.1)
    have A62 := (A45.keep K54 (ninS (Nat.ne_of_lt (Nat.lt_of_lt_of_eq Q29_0.lt g37.symm)) nin0))
    refine og2 X54 hx (fun j _ k => o_istore j (y at_182) (l' := #[.val (.int p1), .val (.int p2), .val (.int p3), .val (.int c0), .val (.int c1), .val (.int 2), .val (.ref a3), .val (.ref r_29), .val (.ref a37), .val (.int (own_ln ([] ++ own_put c0)))]) rfl <| o_iload j (y at_184) rfl <| o_iconstV j 2 (y at_186) rfl <| o_icmpNo j (y at_187) (XT.ii_ne_f rfl) <| o_aload j (y at_190) rfl rfl <| o_iload j (y at_192) rfl <| o_iload j (y at_194) rfl <| k) ?_
    refine cS [(.ref a37), (.int (own_ln ([] ++ own_put c0))), (.int c1)] [] 0 X54 hx hZ hown (w 145 rfl) (w 146 rfl) (w 2 rfl) (w 147 rfl) (rmPUL l Z a0 hw [] a37 kc37 ([] ++ own_put c0) c1 T54.heap n0 Z54 Q54_0 G37 (own_t16 H6) (own_put_le H5)) e54 hml pd_oaBIIcI (y at_196) (fun v63 T63 L63 hQ63 X63 => ?_)
    obtain ⟨rfl, N63a, K63, Q63_0⟩ := hQ63
    have N63 := Fr.app N54 N63a
    have e63 : T63.heap = T63.heap := rfl
    have Z63 : n0 ≤ T63.heap.size := (Nat.le_trans Z54 K63.1)
    have A71 := (A62.keep K63 (ninS (Nat.ne_of_lt (Nat.lt_of_lt_of_eq Q29_0.lt g37.symm)) nin0))
    refine og2 X63 hx (fun j _ k => o_istore j (y at_199) (l' := #[.val (.int p1), .val (.int p2), .val (.int p3), .val (.int c0), .val (.int c1), .val (.int 2), .val (.ref a3), .val (.ref r_29), .val (.ref a37), .val (.int (own_ln (([] ++ own_put c0) ++ own_put c1)))]) rfl <| k) ?_
    have RA72 : Arv Z T63.heap r_29 rk_29 .byte (own_ln (([] ++ own_put c0) ++ own_put c1)) (own_vs (([] ++ own_put c0) ++ own_put c1)) (.int 0) := (own_enc2_n (Or.inl C53) : own_enc2 c0 c1 = ([] ++ own_put c0) ++ own_put c1) ▸ A71
    exact TAIL (([] ++ own_put c0) ++ own_put c1) _ _ _ X63 e63 N63 Z63 (Nat.le_trans (Nat.le_trans (Nat.le_trans hkS E37.1) K54.1) K63.1) RA72 Q63_0
  · refine og2 X37 hx (fun j _ k => o_icmpNo j (y at_125) (XT.ii_lt_f C53) <| o_iloadN j (y at_128) rfl <| o_ldcI X37 hx hZ hown (w 144 rfl) (y at_129) <| k) ?_
    by_cases C73 : (56319 : Int32) < c0
    · refine og2 X37 hx (fun j _ k => o_icmpYes j (pc' := 175) (y at_131) (XT.ii_gt_t C73) <| o_aload j (y at_175) rfl rfl <| o_iconstV j 0 (y at_177) rfl <| o_iloadN j (y at_178) rfl <| k) ?_
      refine cS [(.ref a37), (.int 0), (.int c0)] [] 0 X37 hx hZ hown (w 145 rfl) (w 146 rfl) (w 2 rfl) (w 147 rfl) (rmPU0 l Z a0 hw [] a37 kc37 c0 h37 n0 Z37 A46 G37) e37 hml pd_oaBIIcI (y at_179) (fun v74 T74 L74 hQ74 X74 => ?_)
      obtain ⟨rfl, N74a, K74, Q74_0⟩ := hQ74
      have N74 := Fr.app N29 N74a
      have e74 : T74.heap = T74.heap := rfl
      have Z74 : n0 ≤ T74.heap.size := (Nat.le_trans Z37 K74.1)
      have A82 := (A45.keep K74 (ninS (Nat.ne_of_lt (Nat.lt_of_lt_of_eq Q29_0.lt g37.symm)) nin0))
      refine og2 X74 hx (fun j _ k => o_istore j (y at_182) (l' := #[.val (.int p1), .val (.int p2), .val (.int p3), .val (.int c0), .val (.int c1), .val (.int 2), .val (.ref a3), .val (.ref r_29), .val (.ref a37), .val (.int (own_ln ([] ++ own_put c0)))]) rfl <| o_iload j (y at_184) rfl <| o_iconstV j 2 (y at_186) rfl <| o_icmpNo j (y at_187) (XT.ii_ne_f rfl) <| o_aload j (y at_190) rfl rfl <| o_iload j (y at_192) rfl <| o_iload j (y at_194) rfl <| k) ?_
      refine cS [(.ref a37), (.int (own_ln ([] ++ own_put c0))), (.int c1)] [] 0 X74 hx hZ hown (w 145 rfl) (w 146 rfl) (w 2 rfl) (w 147 rfl) (rmPUL l Z a0 hw [] a37 kc37 ([] ++ own_put c0) c1 T74.heap n0 Z74 Q74_0 G37 (own_t16 H6) (own_put_le H5)) e74 hml pd_oaBIIcI (y at_196) (fun v83 T83 L83 hQ83 X83 => ?_)
      obtain ⟨rfl, N83a, K83, Q83_0⟩ := hQ83
      have N83 := Fr.app N74 N83a
      have e83 : T83.heap = T83.heap := rfl
      have Z83 : n0 ≤ T83.heap.size := (Nat.le_trans Z74 K83.1)
      have A91 := (A82.keep K83 (ninS (Nat.ne_of_lt (Nat.lt_of_lt_of_eq Q29_0.lt g37.symm)) nin0))
      refine og2 X83 hx (fun j _ k => o_istore j (y at_199) (l' := #[.val (.int p1), .val (.int p2), .val (.int p3), .val (.int c0), .val (.int c1), .val (.int 2), .val (.ref a3), .val (.ref r_29), .val (.ref a37), .val (.int (own_ln (([] ++ own_put c0) ++ own_put c1)))]) rfl <| k) ?_
      have RA92 : Arv Z T83.heap r_29 rk_29 .byte (own_ln (([] ++ own_put c0) ++ own_put c1)) (own_vs (([] ++ own_put c0) ++ own_put c1)) (.int 0) := (own_enc2_n (Or.inr (Or.inl C73)) : own_enc2 c0 c1 = ([] ++ own_put c0) ++ own_put c1) ▸ A91
      exact TAIL (([] ++ own_put c0) ++ own_put c1) _ _ _ X83 e83 N83 Z83 (Nat.le_trans (Nat.le_trans (Nat.le_trans hkS E37.1) K74.1) K83.1) RA92 Q83_0
    · refine og2 X37 hx (fun j _ k => o_icmpNo j (y at_131) (XT.ii_gt_f C73) <| o_iload j (y at_134) rfl <| o_ldcI X37 hx hZ hown (w 4 rfl) (y at_136) <| k) ?_
      by_cases C93 : c1 < (56320 : Int32)
      · refine og2 X37 hx (fun j _ k => o_icmpYes j (pc' := 175) (y at_138) (XT.ii_lt_t C93) <| o_aload j (y at_175) rfl rfl <| o_iconstV j 0 (y at_177) rfl <| o_iloadN j (y at_178) rfl <| k) ?_
        refine cS [(.ref a37), (.int 0), (.int c0)] [] 0 X37 hx hZ hown (w 145 rfl) (w 146 rfl) (w 2 rfl) (w 147 rfl) (rmPU0 l Z a0 hw [] a37 kc37 c0 h37 n0 Z37 A46 G37) e37 hml pd_oaBIIcI (y at_179) (fun v94 T94 L94 hQ94 X94 => ?_)
        obtain ⟨rfl, N94a, K94, Q94_0⟩ := hQ94
        have N94 := Fr.app N29 N94a
        have e94 : T94.heap = T94.heap := rfl
        have Z94 : n0 ≤ T94.heap.size := (Nat.le_trans Z37 K94.1)
        have A102 := (A45.keep K94 (ninS (Nat.ne_of_lt (Nat.lt_of_lt_of_eq Q29_0.lt g37.symm)) nin0))
        refine og2 X94 hx (fun j _ k => o_istore j (y at_182) (l' := #[.val (.int p1), .val (.int p2), .val (.int p3), .val (.int c0), .val (.int c1), .val (.int 2), .val (.ref a3), .val (.ref r_29), .val (.ref a37), .val (.int (own_ln ([] ++ own_put c0)))]) rfl <| o_iload j (y at_184) rfl <| o_iconstV j 2 (y at_186) rfl <| o_icmpNo j (y at_187) (XT.ii_ne_f rfl) <| o_aload j (y at_190) rfl rfl <| o_iload j (y at_192) rfl <| o_iload j (y at_194) rfl <| k) ?_
        refine cS [(.ref a37), (.int (own_ln ([] ++ own_put c0))), (.int c1)] [] 0 X94 hx hZ hown (w 145 rfl) (w 146 rfl) (w 2 rfl) (w 147 rfl) (rmPUL l Z a0 hw [] a37 kc37 ([] ++ own_put c0) c1 T94.heap n0 Z94 Q94_0 G37 (own_t16 H6) (own_put_le H5)) e94 hml pd_oaBIIcI (y at_196) (fun v103 T103 L103 hQ103 X103 => ?_)
        obtain ⟨rfl, N103a, K103, Q103_0⟩ := hQ103
        have N103 := Fr.app N94 N103a
        have e103 : T103.heap = T103.heap := rfl
        have Z103 : n0 ≤ T103.heap.size := (Nat.le_trans Z94 K103.1)
        have A111 := (A102.keep K103 (ninS (Nat.ne_of_lt (Nat.lt_of_lt_of_eq Q29_0.lt g37.symm)) nin0))
        refine og2 X103 hx (fun j _ k => o_istore j (y at_199) (l' := #[.val (.int p1), .val (.int p2), .val (.int p3), .val (.int c0), .val (.int c1), .val (.int 2), .val (.ref a3), .val (.ref r_29), .val (.ref a37), .val (.int (own_ln (([] ++ own_put c0) ++ own_put c1)))]) rfl <| k) ?_
        have RA112 : Arv Z T103.heap r_29 rk_29 .byte (own_ln (([] ++ own_put c0) ++ own_put c1)) (own_vs (([] ++ own_put c0) ++ own_put c1)) (.int 0) := (own_enc2_n (Or.inr (Or.inr (Or.inl C93))) : own_enc2 c0 c1 = ([] ++ own_put c0) ++ own_put c1) ▸ A111
        exact TAIL (([] ++ own_put c0) ++ own_put c1) _ _ _ X103 e103 N103 Z103 (Nat.le_trans (Nat.le_trans (Nat.le_trans hkS E37.1) K94.1) K103.1) RA112 Q103_0
      · refine og2 X37 hx (fun j _ k => o_icmpNo j (y at_138) (XT.ii_lt_f C93) <| o_iload j (y at_141) rfl <| o_ldcI X37 hx hZ hown (w 148 rfl) (y at_143) <| k) ?_
        by_cases C113 : (57343 : Int32) < c1
        · refine og2 X37 hx (fun j _ k => o_icmpYes j (pc' := 175) (y at_145) (XT.ii_gt_t C113) <| o_aload j (y at_175) rfl rfl <| o_iconstV j 0 (y at_177) rfl <| o_iloadN j (y at_178) rfl <| k) ?_
          refine cS [(.ref a37), (.int 0), (.int c0)] [] 0 X37 hx hZ hown (w 145 rfl) (w 146 rfl) (w 2 rfl) (w 147 rfl) (rmPU0 l Z a0 hw [] a37 kc37 c0 h37 n0 Z37 A46 G37) e37 hml pd_oaBIIcI (y at_179) (fun v114 T114 L114 hQ114 X114 => ?_)
          obtain ⟨rfl, N114a, K114, Q114_0⟩ := hQ114
          have N114 := Fr.app N29 N114a
          have e114 : T114.heap = T114.heap := rfl
          have Z114 : n0 ≤ T114.heap.size := (Nat.le_trans Z37 K114.1)
          have A122 := (A45.keep K114 (ninS (Nat.ne_of_lt (Nat.lt_of_lt_of_eq Q29_0.lt g37.symm)) nin0))
          refine og2 X114 hx (fun j _ k => o_istore j (y at_182) (l' := #[.val (.int p1), .val (.int p2), .val (.int p3), .val (.int c0), .val (.int c1), .val (.int 2), .val (.ref a3), .val (.ref r_29), .val (.ref a37), .val (.int (own_ln ([] ++ own_put c0)))]) rfl <| o_iload j (y at_184) rfl <| o_iconstV j 2 (y at_186) rfl <| o_icmpNo j (y at_187) (XT.ii_ne_f rfl) <| o_aload j (y at_190) rfl rfl <| o_iload j (y at_192) rfl <| o_iload j (y at_194) rfl <| k) ?_
          refine cS [(.ref a37), (.int (own_ln ([] ++ own_put c0))), (.int c1)] [] 0 X114 hx hZ hown (w 145 rfl) (w 146 rfl) (w 2 rfl) (w 147 rfl) (rmPUL l Z a0 hw [] a37 kc37 ([] ++ own_put c0) c1 T114.heap n0 Z114 Q114_0 G37 (own_t16 H6) (own_put_le H5)) e114 hml pd_oaBIIcI (y at_196) (fun v123 T123 L123 hQ123 X123 => ?_)
          obtain ⟨rfl, N123a, K123, Q123_0⟩ := hQ123
          have N123 := Fr.app N114 N123a
          have e123 : T123.heap = T123.heap := rfl
          have Z123 : n0 ≤ T123.heap.size := (Nat.le_trans Z114 K123.1)
          have A131 := (A122.keep K123 (ninS (Nat.ne_of_lt (Nat.lt_of_lt_of_eq Q29_0.lt g37.symm)) nin0))
          refine og2 X123 hx (fun j _ k => o_istore j (y at_199) (l' := #[.val (.int p1), .val (.int p2), .val (.int p3), .val (.int c0), .val (.int c1), .val (.int 2), .val (.ref a3), .val (.ref r_29), .val (.ref a37), .val (.int (own_ln (([] ++ own_put c0) ++ own_put c1)))]) rfl <| k) ?_
          have RA132 : Arv Z T123.heap r_29 rk_29 .byte (own_ln (([] ++ own_put c0) ++ own_put c1)) (own_vs (([] ++ own_put c0) ++ own_put c1)) (.int 0) := (own_enc2_n (Or.inr (Or.inr (Or.inr (C113)))) : own_enc2 c0 c1 = ([] ++ own_put c0) ++ own_put c1) ▸ A131
          exact TAIL (([] ++ own_put c0) ++ own_put c1) _ _ _ X123 e123 N123 Z123 (Nat.le_trans (Nat.le_trans (Nat.le_trans hkS E37.1) K114.1) K123.1) RA132 Q123_0
        · refine og2 X37 hx (fun j _ k => o_icmpNo j (y at_145) (XT.ii_gt_f C113) <| o_aload j (y at_148) rfl rfl <| o_iconstV j 0 (y at_150) rfl <| o_ldcI X37 hx hZ hown (w 149 rfl) (y at_151) <| o_iloadN j (y at_153) rfl <| o_ldcI X37 hx hZ hown (w 85 rfl) (y at_154) <| o_isub j (y at_156) <| o_bipushV j 10 (y at_157) rfl <| o_ishl j (y at_159) <| o_iadd j (y at_160) <| o_iload j (y at_161) rfl <| o_ldcI X37 hx hZ hown (w 4 rfl) (y at_163) <| o_isub j (y at_165) <| o_iadd j (y at_166) <| k) ?_
          refine cS [(.ref a37), (.int 0), (.int (((65536 : Int32) + ((c0 - (55296 : Int32)) <<< ((10 : Int32) &&& 31))) + (c1 - (56320 : Int32))))] [] 0 X37 hx hZ hown (w 145 rfl) (w 146 rfl) (w 2 rfl) (w 147 rfl) (rmPU0 l Z a0 hw [] a37 kc37 (((65536 : Int32) + ((c0 - (55296 : Int32)) <<< ((10 : Int32) &&& 31))) + (c1 - (56320 : Int32))) h37 n0 Z37 A46 G37) e37 hml pd_oaBIIcI (y at_167) (fun v133 T133 L133 hQ133 X133 => ?_)
          obtain ⟨rfl, N133a, K133, Q133_0⟩ := hQ133
          have N133 := Fr.app N29 N133a
          have e133 : T133.heap = T133.heap := rfl
          have Z133 : n0 ≤ T133.heap.size := (Nat.le_trans Z37 K133.1)
          have A141 := (A45.keep K133 (ninS (Nat.ne_of_lt (Nat.lt_of_lt_of_eq Q29_0.lt g37.symm)) nin0))
          refine og2 X133 hx (fun j _ k => o_istore j (y at_170) (l' := #[.val (.int p1), .val (.int p2), .val (.int p3), .val (.int c0), .val (.int c1), .val (.int 2), .val (.ref a3), .val (.ref r_29), .val (.ref a37), .val (.int (own_ln ([] ++ own_put (((65536 : Int32) + ((c0 - (55296 : Int32)) <<< ((10 : Int32) &&& 31))) + (c1 - (56320 : Int32))))))]) rfl <| o_goto j (pc' := 201) (y at_172) <| k) ?_
          have RA142 : Arv Z T133.heap r_29 rk_29 .byte (own_ln ([] ++ own_put (((65536 : Int32) + ((c0 - (55296 : Int32)) <<< ((10 : Int32) &&& 31))) + (c1 - (56320 : Int32))))) (own_vs ([] ++ own_put (((65536 : Int32) + ((c0 - (55296 : Int32)) <<< ((10 : Int32) &&& 31))) + (c1 - (56320 : Int32))))) (.int 0) := (own_enc2_p C53 C73 C93 C113 : own_enc2 c0 c1 = [] ++ own_put (((65536 : Int32) + ((c0 - (55296 : Int32)) <<< ((10 : Int32) &&& 31))) + (c1 - (56320 : Int32)))) ▸ A141
          exact TAIL ([] ++ own_put (((65536 : Int32) + ((c0 - (55296 : Int32)) <<< ((10 : Int32) &&& 31))) + (c1 - (56320 : Int32)))) _ _ _ X133 e133 N133 Z133 (Nat.le_trans (Nat.le_trans hkS E37.1) K133.1) RA142 Q133_0

theorem own_len3 (x : Int32) : (x &&& 3) - ((x &&& 3) / 3) * 3 = 0 ∨ (x &&& 3) - ((x &&& 3) / 3) * 3 = 1 ∨ (x &&& 3) - ((x &&& 3) / 3) * 3 = 2 := by
  rcases own_c3 x with h | h | h | h <;> rw [h] <;> decide
def Q0 (Z : State) (cs : Int32) (u8 : Addr) (p1 : Int32) (p2 : Int32) (p3 : Int32) (h0 : Heap) (n0 : Nat) (v : Option Value) (h : Heap) (L : List Loc) : Prop := v = some (.int 1) ∧ Fr n0 L
theorem rm0 (l : Launch) (Z : State) (a0 : Array Value) (hw : HW a0 Z) (ws : List Jvm.Cond) (cs : Int32) (u8 : Addr) (p1 : Int32) (p2 : Int32) (p3 : Int32) (h0 : Heap) (n0 : Nat) (Z0 : n0 ≤ h0.size) (H0 : OSt Z cs u8) (pr1 : Old Z n0 h0) :
    MetFree l x (head1 (Jvm.Cond.code x code maxLocals ret :: ws) room_1) (fun a U => a = #[(.int p1), (.int p2), (.int p3)] ∧ Z.Warmed39 U.vm ∧ U.heap = h0 ∧ CHv Z own_EL U.vm h0) (fun _ _ _ _ _ => True) (fun _ U o U' => ∃ v L, o = .returned v ∧ Q0 Z cs u8 p1 p2 p3 h0 n0 v U'.heap L ∧ ReturnedEndW U o U' L room_1.cells room_1.slots) := by
  rcases own_len3 (XT.ushr p3 4) with h | h | h
  · exact rm0v0k l Z a0 hw ws cs u8 p1 p2 p3 (own_pick p1 (p3 &&& 3)) (own_pick p2 ((XT.ushr p3 2) &&& 3)) h0 n0 Z0 H0 pr1 rfl rfl h (own_pick_ch _ _) (own_pick_ch _ _) 
  · by_cases q : (255 : Int32) < (own_pick p1 (p3 &&& 3))
    · exact rm0v10 l Z a0 hw ws cs u8 p1 p2 p3 (own_pick p1 (p3 &&& 3)) (own_pick p2 ((XT.ushr p3 2) &&& 3)) h0 n0 Z0 H0 pr1 rfl rfl h (own_pick_ch _ _) (own_pick_ch _ _) q
    · exact rm0v1k l Z a0 hw ws cs u8 p1 p2 p3 (own_pick p1 (p3 &&& 3)) (own_pick p2 ((XT.ushr p3 2) &&& 3)) h0 n0 Z0 H0 pr1 rfl rfl h (own_pick_ch _ _) (own_pick_ch _ _) q
  · by_cases q : (255 : Int32) < (own_pick p1 (p3 &&& 3))
    · exact rm0v20 l Z a0 hw ws cs u8 p1 p2 p3 (own_pick p1 (p3 &&& 3)) (own_pick p2 ((XT.ushr p3 2) &&& 3)) h0 n0 Z0 H0 pr1 rfl rfl h (own_pick_ch _ _) (own_pick_ch _ _) q
    · by_cases r : (255 : Int32) < (own_pick p2 ((XT.ushr p3 2) &&& 3))
      · exact rm0v21 l Z a0 hw ws cs u8 p1 p2 p3 (own_pick p1 (p3 &&& 3)) (own_pick p2 ((XT.ushr p3 2) &&& 3)) h0 n0 Z0 H0 pr1 rfl rfl h (own_pick_ch _ _) (own_pick_ch _ _) q r
      · exact rm0v2k l Z a0 hw ws cs u8 p1 p2 p3 (own_pick p1 (p3 &&& 3)) (own_pick p2 ((XT.ushr p3 2) &&& 3)) h0 n0 Z0 H0 pr1 rfl rfl h (own_pick_ch _ _) (own_pick_ch _ _) q r
theorem own_sint {args : Array Value} {s : State} {t : Jvm.Term} {k : Int32} (h : (Jvm.Cond.eq t (Jvm.Term.int k)).value args s none s [] = some true) : t.eval args s none [] s = some (.int k) := by
  obtain ⟨X, Y, e1, e2, -, k2⟩ := cmp_v (Or.inl h)
  have q : Y = .int k := by simpa [Term.eval] using e2.symm
  subst q
  obtain ⟨z, rfl⟩ := k2
  have q := gotT (Cond.eq_ints e1 (Term.int_eval k)) h
  subst q
  exact e1
theorem own_ost {args : Array Value} {s : State} (hs : ∀ d ∈ jdkStatics_1, d.before args s = true) : ∃ cs u8, OSt s cs u8 := by
  have w : ∀ (i : Nat) {d : Jvm.Cond}, jdkStatics_1[i]? = some d → d.before args s = true := fun i d q => hs _ (List.mem_of_getElem? q)
  obtain ⟨cs, e1⟩ := is_v (Cond.before_iff.mp (w 7 rfl))
  have n1 := not_v (Cond.before_iff.mp (w 8 rfl))
  obtain ⟨u, e2⟩ := exa_v (Cond.before_iff.mp (w 5 rfl))
  obtain ⟨v, e3⟩ := exa_v (Cond.before_iff.mp (w 17 rfl))
  have q := gotT (eq_R e2 e3 rfl rfl) (Cond.before_iff.mp (w 4 rfl))
  cases q
  exact ⟨cs, u, Sta.start e1 (Or.inl (w 6 rfl)), gotF (Cond.eq_ints e1 (Term.int_eval 0)) n1, Sta.start e2 (Or.inl (w 1 rfl)), Sta.start e3 (Or.inl (w 3 rfl)), Sta.start (own_sint (Cond.before_iff.mp (w 21 rfl))) (Or.inl (w 20 rfl)), Sta.start (own_sint (Cond.before_iff.mp (w 24 rfl))) (Or.inl (w 23 rfl)), Sta.start (own_sint (Cond.before_iff.mp (w 27 rfl))) (Or.inl (w 26 rfl))⟩

theorem comes_1 {Post : Tables → Env → Array Value → State → Outcome → State → Prop} (hpost : ∀ tb e args s v u, (limb_1_1.after args s (.returned v) u = true ∧ limb_1_2.after args s (.returned v) u = true ∧ True) → ReturnedEndW s (.returned v) u (Jvm.fieldLocs frame_1_writes args s ++ Jvm.arrayLocs frame_1_arrays args s ++ Jvm.staticLocs frame_1_statics s) 32 2176 → Post tb e args s (.returned v) u) :
    ArmFor flags0 classFile x code maxLocals ret World_1 tables_1 room_1 Calls_1 rest_1 Pre_1 Post := by
  intro l hfl _ _ p e ha hc hk s m args below hf hA hF happ hP
  obtain ⟨hcalls, hrest, hpre⟩ := hP
  obtain ⟨-, -, -, hnamed, -, -, -, hat⟩ := (Spec.applies_iff hf).mp happ
  obtain ⟨hg, hn⟩ := and_e (Cond.before_iff.mp (show (Jvm.Cond.and given_1 narrow_1).before args s = true from hpre))
  obtain ⟨hcount, hr0⟩ := and_e hg
  obtain ⟨g0, hr1⟩ := and_e hr0
  obtain ⟨g1, hr2⟩ := and_e hr1
  have g2 := hr2
  obtain ⟨w0, w1, w2, rfl⟩ : ∃ w0 w1 w2 : Value, args = #[w0, w1, w2] := by
    have hs : args.size = 3 := by simpa [Cond.value, given_1] using hcount
    obtain ⟨L⟩ := args
    match L, hs with
    | [w0, w1, w2], _ => exact ⟨w0, w1, w2, rfl⟩
  have hw := fun d (hd : d ∈ tables_1) => atoms_spec (ws := Jvm.Cond.code x code maxLocals ret :: tables_1) hat d (List.mem_cons_of_mem _ hd)
  have hfit : Fit s := fun {y c} hc i hi => by
    obtain ⟨ha, rfl⟩ := Array.getElem?_eq_some_iff.mp hc
    have q := List.all_eq_true.mp ((Array.all_eq_true_iff_forall_mem.mp hF) _ (Array.getElem_mem ha)) i (List.mem_range.mpr hi)
    simpa [Array.getElem?_eq_getElem hi] using q
  obtain ⟨i0, e0⟩ := is_v g0
  obtain rfl : w0 = (.int i0) := Option.some.inj e0
  obtain ⟨i1, e1⟩ := is_v g1
  obtain rfl : w1 = (.int i1) := Option.some.inj e1
  obtain ⟨i2, e2⟩ := is_v g2
  obtain rfl : w2 = (.int i2) := Option.some.inj e2
  obtain ⟨hsets, -⟩ := atoms_of _ (rest_1_c_eq ▸ (show rest_1_c.before _ s = true from hrest))
  obtain ⟨cs, u8, hO⟩ := own_ost hsets
  have hCH : CHv s own_EL s.vm s.heap := CHv.start (own_EW hw) (fun p hp => hcalls.1 p (by simp [own_EL] at hp; subst hp; decide)) (hsets _ (List.mem_of_getElem? (i := 8) rfl)) (hw _ (List.mem_of_getElem? (i := 20) rfl)) (hw _ (List.mem_of_getElem? (i := 6) rfl))
  obtain ⟨n, o, h1, h2, h3, _, L, rfl, ⟨rfl, N⟩, hq⟩ := rm0 l s _ hw tables_1 cs u8 i0 i1 i2 s.heap s.heap.size (Nat.le_refl _) hO (Old.start s) p e ha hc hk s m _ below hf ((Spec.applies_iff_loose hf).mp happ).1 ⟨rfl, State.Warmed39.refl s, rfl, hCH⟩ trivial
  refine ⟨n, _, h1, h2, h3, hpost _ _ _ _ _ _ ⟨Cond.after_iff.mpr rfl, Cond.after_iff.mpr (eq_i res_at (Term.int_eval (1)) rfl), trivial⟩ ⟨hq.1, hq.2.1, hq.2.2.1, (hq.2.2.2.sift fun y hy => Or.inr (N y hy)).mono (by decide) (by decide)⟩⟩
theorem main_1_1 : Claimed_1_1 := comes_1 fun _ _ _ _ _ _ h hF => ⟨h.1, hF⟩
theorem main_1_2 : Claimed_1_2 := comes_1 fun _ _ _ _ _ _ h hF => ⟨h.2.1, hF⟩
end Jvm.Pilot.@@N@@
namespace Jvm.Pilot.@@N@@
open Jvm Jvm.ClassFile Sem Op Lib Jvm.Free Jvm.Stand Jvm.Pilot.@@N@@.Jvm.D
/-! MADE BY PROGRAM (witnessworld.py) out of the Statement's table words and the real class files: 31 classes; the members and pool entries that the words name. The judged class is class 1, her method 1. -/
namespace start1
open Jvm.ClassFile
def u (s : String) : CpInfo := .utf8 (stringToUtf16 s)
/-- a pool by its gaps: so many unusable entries, then the entry; so many at the end -/
def gap : Nat → List CpInfo → List CpInfo
  | 0, r => r
  | n + 1, r => .unusable :: gap n r
def poolList (es : List (Nat × CpInfo)) (last : Nat) : List CpInfo := es.foldr (fun e r => gap e.1 (e.2 :: r)) (gap last [])
def pool (es : List (Nat × CpInfo)) (last : Nat) : Array CpInfo := ⟨poolList es last⟩
def fileOf (pool : Array CpInfo) (this : Nat) (attrs : Array Attribute := #[]) (ms : Array MethodInfo := #[]) (fl : Nat := 33) (sup : Nat := 0) (ifs : Array Nat := #[]) (fds : Array FieldInfo := #[]) : ClassFile where
  minorVersion := 0
  majorVersion := 65
  constantPool := pool
  accessFlags := fl
  thisClass := this
  superClass := sup
  interfaces := ifs
  fields := fds
  methods := ms
  attributes := attrs
def plain (name : String) (sup : Option ClassId) : Class where
  name := name
  kind := .ordinary
  loader := none
  accessFlags := 33
  super := sup
  interfaces := #[]
  cf := none
  fields := #[]
  methods := #[]
  instanceTypes := #[]
  staticTypes := #[]
  resolved := #[]
  callSites := []
  init := .initialized
  statics := none
  mirror := none

def pool0 : Array CpInfo := pool [(5, u "<init>"), (0, u "()V"), (1, .class_ 10), (1, u "java/lang/Object"), (85, u "clone"), (0, u "()Ljava/lang/Object;")] 26

def k0c0 : Code := { maxStack := 0, maxLocals := 1, code := object_method_1_code, exceptionTable := #[], attributes := #[] }
def k0m0 : Method := { name := "<init>", desc := "()V", sig := { parameters := [], returnType := none }, accessFlags := 1, code := some k0c0 }
def k0m1 : Method := { name := "clone", desc := "()Ljava/lang/Object;", sig := { parameters := [], returnType := some (.object "java/lang/Object") }, accessFlags := 260, code := none }
/-- java/lang/Object -/
def k0 : Class := { plain "java/lang/Object" none with
  accessFlags := 33
  interfaces := #[]
  cf := some (fileOf pool0 8 #[] #[{ accessFlags := 1, nameIndex := 5, descriptorIndex := 6, attributes := #[] }, { accessFlags := 260, nameIndex := 96, descriptorIndex := 97, attributes := #[] }] 33 0 #[] #[])
  fields := #[]
  methods := #[k0m0, k0m1]
  instanceTypes := #[]
  staticTypes := #[]
  resolved := Array.replicate 124 none
  statics := none }

def pool1 : Array CpInfo := pool [(2, .class_ 4), (1, u "java/lang/Object"), (0, u "<init>"), (0, u "()V"), (0, .methodref 8 9), (0, .class_ 10), (0, .nameAndType 11 12), (0, u "com/example/unseen/unseen/KeysUtf8PinLaw"), (0, u "pick"), (0, u "(II)C"), (0, .class_ 14), (0, u "java/lang/String"), (0, .methodref 13 16), (0, .nameAndType 5 17), (0, u "([C)V"), (0, .methodref 19 20), (0, .class_ 21), (0, .nameAndType 22 23), (0, u "com/example/unseen/unseen/Keys"), (0, u "utf8"), (0, u "(Ljava/lang/CharSequence;)[B"), (0, .integer 55296), (0, .integer 56319), (0, .integer 56320), (0, .integer 57343), (0, .integer 65536), (0, .methodref 8 30), (0, .nameAndType 31 32), (0, u "put"), (0, u "([BII)I"), (0, .methodref 8 34), (0, .nameAndType 35 36), (0, u "eq"), (0, u "([B[BII)Z"), (2, u "law"), (0, u "(III)Z")] 5

def k1m0 : Method := { name := "<init>", desc := "()V", sig := { parameters := [], returnType := none }, accessFlags := 2, code := none }
def k1c1 : Code := { maxStack := 6, maxLocals := 10, code := code, exceptionTable := #[], attributes := #[] }
def k1m1 : Method := { name := "law", desc := "(III)Z", sig := { parameters := [.int, .int, .int], returnType := some .boolean }, accessFlags := 9, code := some k1c1 }
def k1c2 : Code := { maxStack := 3, maxLocals := 2, code := method_3_code, exceptionTable := #[], attributes := #[] }
def k1m2 : Method := { name := "pick", desc := "(II)C", sig := { parameters := [.int, .int], returnType := some .char }, accessFlags := 10, code := some k1c2 }
def k1c3 : Code := { maxStack := 5, maxLocals := 3, code := method_4_code, exceptionTable := #[], attributes := #[] }
def k1m3 : Method := { name := "put", desc := "([BII)I", sig := { parameters := [(.array .byte), .int, .int], returnType := some .int }, accessFlags := 10, code := some k1c3 }
def k1c4 : Code := { maxStack := 3, maxLocals := 4, code := method_5_code, exceptionTable := #[], attributes := #[] }
def k1m4 : Method := { name := "eq", desc := "([B[BII)Z", sig := { parameters := [(.array .byte), (.array .byte), .int, .int], returnType := some .boolean }, accessFlags := 10, code := some k1c4 }
/-- com/example/unseen/unseen/KeysUtf8PinLaw -/
def k1 : Class := { plain "com/example/unseen/unseen/KeysUtf8PinLaw" (some 0) with
  accessFlags := 49
  interfaces := #[]
  cf := some (fileOf pool1 8 #[] #[{ accessFlags := 2, nameIndex := 5, descriptorIndex := 6, attributes := #[] }, { accessFlags := 9, nameIndex := 39, descriptorIndex := 40, attributes := #[] }, { accessFlags := 10, nameIndex := 11, descriptorIndex := 12, attributes := #[] }, { accessFlags := 10, nameIndex := 31, descriptorIndex := 32, attributes := #[] }, { accessFlags := 10, nameIndex := 35, descriptorIndex := 36, attributes := #[] }] 49 2 #[] #[])
  fields := #[]
  methods := #[k1m0, k1m1, k1m2, k1m3, k1m4]
  instanceTypes := #[]
  staticTypes := #[]
  resolved := Array.replicate 46 none
  statics := none }

def pool2 : Array CpInfo := pool [(1, .class_ 2), (0, u "java/io/Serializable"), (0, .class_ 4), (0, u "java/lang/Object")] 2

/-- java/io/Serializable -/
def k2 : Class := { plain "java/io/Serializable" (some 0) with
  accessFlags := 1537
  interfaces := #[]
  cf := some (fileOf pool2 1 #[] #[] 1537 3 #[] #[])
  fields := #[]
  methods := #[]
  instanceTypes := #[]
  staticTypes := #[]
  resolved := Array.replicate 7 none
  statics := none }

def pool3 : Array CpInfo := pool [(1, .class_ 2), (0, u "java/lang/Comparable"), (0, .class_ 4), (0, u "java/lang/Object")] 7

/-- java/lang/Comparable -/
def k3 : Class := { plain "java/lang/Comparable" (some 0) with
  accessFlags := 1537
  interfaces := #[]
  cf := some (fileOf pool3 1 #[] #[] 1537 3 #[] #[])
  fields := #[]
  methods := #[]
  instanceTypes := #[]
  staticTypes := #[]
  resolved := Array.replicate 12 none
  statics := none }

def pool4 : Array CpInfo := pool [(2, .class_ 4), (1, u "java/lang/CharSequence"), (42, .class_ 48), (0, u "java/lang/CharSequence$1CodePointIterator"), (10, .class_ 60), (0, u "java/lang/CharSequence$1CharIterator"), (5, .class_ 67), (0, u "java/lang/Object"), (10, u "toString"), (0, u "()Ljava/lang/String;")] 51

def k4m0 : Method := { name := "toString", desc := "()Ljava/lang/String;", sig := { parameters := [], returnType := some (.object "java/lang/String") }, accessFlags := 1025, code := none }
/-- java/lang/CharSequence -/
def k4 : Class := { plain "java/lang/CharSequence" (some 0) with
  accessFlags := 1537
  interfaces := #[]
  cf := some (fileOf pool4 2 #[.nestMembers #[47, 59]] #[{ accessFlags := 1025, nameIndex := 78, descriptorIndex := 79, attributes := #[] }] 1537 66 #[] #[])
  fields := #[]
  methods := #[k4m0]
  instanceTypes := #[]
  staticTypes := #[]
  resolved := Array.replicate 131 none
  statics := none }

def pool5 : Array CpInfo := pool [(1, .class_ 2), (0, u "java/lang/constant/Constable"), (0, .class_ 4), (0, u "java/lang/Object")] 6

/-- java/lang/constant/Constable -/
def k5 : Class := { plain "java/lang/constant/Constable" (some 0) with
  accessFlags := 1537
  interfaces := #[]
  cf := some (fileOf pool5 1 #[] #[] 1537 3 #[] #[])
  fields := #[]
  methods := #[]
  instanceTypes := #[]
  staticTypes := #[]
  resolved := Array.replicate 11 none
  statics := none }

def pool6 : Array CpInfo := pool [(1, .class_ 2), (0, u "java/lang/constant/ConstantDesc"), (0, .class_ 4), (0, u "java/lang/Object")] 32

/-- java/lang/constant/ConstantDesc -/
def k6 : Class := { plain "java/lang/constant/ConstantDesc" (some 0) with
  accessFlags := 1537
  interfaces := #[]
  cf := some (fileOf pool6 1 #[] #[] 1537 3 #[] #[])
  fields := #[]
  methods := #[]
  instanceTypes := #[]
  staticTypes := #[]
  resolved := Array.replicate 37 none
  statics := none }

def pool7 : Array CpInfo := pool [(1, .methodref 2 3), (0, .class_ 4), (0, .nameAndType 5 6), (0, u "java/lang/Object"), (0, u "<init>"), (0, u "()V"), (0, .string 8), (0, u ""), (0, .fieldref 10 11), (0, .class_ 12), (0, .nameAndType 13 14), (0, u "java/lang/String"), (0, u "value"), (0, u "[B"), (0, .fieldref 10 16), (0, .nameAndType 17 18), (0, u "coder"), (0, u "B"), (2, u "hash"), (0, u "I"), (2, u "hashIsZero"), (0, u "Z"), (0, .methodref 10 28), (0, .nameAndType 5 29), (0, u "([CIILjava/lang/Void;)V"), (8, .fieldref 10 39), (0, .nameAndType 40 26), (0, u "COMPACT_STRINGS"), (1, .class_ 44), (1, u "java/lang/StringUTF16"), (0, u "compress"), (1, .methodref 42 48), (0, .nameAndType 49 50), (0, u "coderFromArrayLen"), (0, u "([BI)B"), (4, .class_ 57), (1, u "java/util/Arrays"), (2, .methodref 42 61), (0, .nameAndType 62 63), (0, u "newBytesFor"), (0, u "(I)[B"), (22, .fieldref 87 88), (0, .class_ 89), (0, .nameAndType 90 91), (0, u "sun/nio/cs/UTF_8"), (0, u "INSTANCE"), (0, u "Lsun/nio/cs/UTF_8;"), (1, .class_ 95), (1, u "java/lang/StringCoding"), (6, .methodref 55 103), (0, .nameAndType 104 105), (0, u "copyOf"), (0, u "([BI)[B"), (22, .methodref 93 129), (0, .nameAndType 130 131), (0, u "hasNegatives"), (0, u "([BII)Z"), (45, .methodref 42 178), (0, .nameAndType 45 179), (0, u "([CII)[B"), (72, .methodref 10 253), (0, .nameAndType 254 255), (0, u "encodeUTF8"), (0, u "(B[BZ)[B"), (23, .methodref 280 281), (0, .class_ 14), (0, .nameAndType 282 283), (0, u "clone"), (0, u "()Ljava/lang/Object;"), (33, u "encode"), (17, .methodref 10 336), (0, .nameAndType 17 337), (0, u "()B"), (22, .methodref 42 361), (0, .nameAndType 362 363), (0, u "getChar"), (0, u "([BI)C"), (0, .methodref 365 366), (0, .class_ 367), (0, .nameAndType 368 369), (0, u "java/lang/Character"), (0, u "isHighSurrogate"), (0, u "(C)Z"), (0, .methodref 365 371), (0, .nameAndType 372 369), (0, u "isLowSurrogate"), (31, .methodref 365 405), (0, .nameAndType 406 369), (0, u "isSurrogate"), (56, u "toString"), (0, u "()Ljava/lang/String;"), (8, .methodref 10 474), (0, .nameAndType 475 476), (0, u "encodeUTF8_UTF16"), (0, u "([BZ)[B"), (0, .methodref 365 478), (0, .nameAndType 479 480), (0, u "toCodePoint"), (0, u "(CC)I"), (51, u "getBytes"), (2, .methodref 10 536), (0, .nameAndType 317 537), (0, u "(Ljava/nio/charset/Charset;B[B)[B"), (37, .class_ 576), (0, u "java/lang/CharSequence"), (22, u "CASE_INSENSITIVE_ORDER"), (0, u "Ljava/util/Comparator;"), (409, u "([C)V"), (90, u "serialPersistentFields"), (0, u "[Ljava/io/ObjectStreamField;"), (0, .class_ 1104), (0, u "java/lang/String$CaseInsensitiveComparator"), (1, .class_ 1107), (0, u "java/io/Serializable"), (0, .class_ 1109), (0, u "java/lang/Comparable"), (0, .class_ 1111), (0, u "java/lang/constant/Constable"), (0, .class_ 1113), (0, u "java/lang/constant/ConstantDesc"), (2, u "serialVersionUID"), (0, u "J"), (3, u "REPL"), (0, u "C"), (2, u "LATIN1"), (1, u "UTF16"), (117, u "(Ljava/nio/charset/Charset;)[B")] 205

def k7m0 : Method := { name := "<init>", desc := "()V", sig := { parameters := [], returnType := none }, accessFlags := 1, code := none }
def k7c1 : Code := { maxStack := 5, maxLocals := 2, code := jdk_42_method_3_code, exceptionTable := #[], attributes := #[] }
def k7m1 : Method := { name := "<init>", desc := "([C)V", sig := { parameters := [(.array .char)], returnType := none }, accessFlags := 1, code := some k7c1 }
def k7c2 : Code := { maxStack := 4, maxLocals := 3, code := jdk_42_method_18_code, exceptionTable := #[], attributes := #[] }
def k7m2 : Method := { name := "encode", desc := "(Ljava/nio/charset/Charset;B[B)[B", sig := { parameters := [(.object "java/nio/charset/Charset"), .byte, (.array .byte)], returnType := some (.array .byte) }, accessFlags := 10, code := some k7c2 }
def k7c3 : Code := { maxStack := 5, maxLocals := 9, code := jdk_42_method_46_code, exceptionTable := #[], attributes := #[] }
def k7m3 : Method := { name := "encodeUTF8", desc := "(B[BZ)[B", sig := { parameters := [.byte, (.array .byte), .boolean], returnType := some (.array .byte) }, accessFlags := 10, code := some k7c3 }
def k7c4 : Code := { maxStack := 5, maxLocals := 9, code := jdk_42_method_47_code, exceptionTable := #[], attributes := #[] }
def k7m4 : Method := { name := "encodeUTF8_UTF16", desc := "([BZ)[B", sig := { parameters := [(.array .byte), .boolean], returnType := some (.array .byte) }, accessFlags := 10, code := some k7c4 }
def k7c5 : Code := { maxStack := 3, maxLocals := 2, code := jdk_42_method_64_code, exceptionTable := #[], attributes := #[] }
def k7m5 : Method := { name := "getBytes", desc := "(Ljava/nio/charset/Charset;)[B", sig := { parameters := [(.object "java/nio/charset/Charset")], returnType := some (.array .byte) }, accessFlags := 1, code := some k7c5 }
def k7c6 : Code := { maxStack := 1, maxLocals := 1, code := jdk_42_method_126_code, exceptionTable := #[], attributes := #[] }
def k7m6 : Method := { name := "toString", desc := "()Ljava/lang/String;", sig := { parameters := [], returnType := some (.object "java/lang/String") }, accessFlags := 1, code := some k7c6 }
def k7c7 : Code := { maxStack := 4, maxLocals := 6, code := jdk_42_method_149_code, exceptionTable := #[], attributes := #[] }
def k7m7 : Method := { name := "<init>", desc := "([CIILjava/lang/Void;)V", sig := { parameters := [(.array .char), .int, .int, (.object "java/lang/Void")], returnType := none }, accessFlags := 2, code := some k7c7 }
def k7c8 : Code := { maxStack := 1, maxLocals := 1, code := jdk_42_method_152_code, exceptionTable := #[], attributes := #[] }
def k7m8 : Method := { name := "coder", desc := "()B", sig := { parameters := [], returnType := some .byte }, accessFlags := 0, code := some k7c8 }
/-- java/lang/String -/
def k7 : Class := { plain "java/lang/String" (some 0) with
  accessFlags := 49
  interfaces := #[2, 3, 4, 5, 6]
  cf := some (fileOf pool7 10 #[.nestMembers #[1103]] #[{ accessFlags := 1, nameIndex := 5, descriptorIndex := 6, attributes := #[] }, { accessFlags := 1, nameIndex := 5, descriptorIndex := 1010, attributes := #[] }, { accessFlags := 10, nameIndex := 317, descriptorIndex := 537, attributes := #[] }, { accessFlags := 10, nameIndex := 254, descriptorIndex := 255, attributes := #[] }, { accessFlags := 10, nameIndex := 475, descriptorIndex := 476, attributes := #[] }, { accessFlags := 1, nameIndex := 532, descriptorIndex := 1245, attributes := #[] }, { accessFlags := 1, nameIndex := 463, descriptorIndex := 464, attributes := #[] }, { accessFlags := 2, nameIndex := 5, descriptorIndex := 29, attributes := #[] }, { accessFlags := 0, nameIndex := 17, descriptorIndex := 337, attributes := #[] }] 49 2 #[1106, 1108, 575, 1110, 1112] #[{ accessFlags := 18, nameIndex := 13, descriptorIndex := 14, attributes := #[] }, { accessFlags := 18, nameIndex := 17, descriptorIndex := 18, attributes := #[] }, { accessFlags := 2, nameIndex := 21, descriptorIndex := 22, attributes := #[] }, { accessFlags := 2, nameIndex := 25, descriptorIndex := 26, attributes := #[] }, { accessFlags := 26, nameIndex := 1116, descriptorIndex := 1117, attributes := #[] }, { accessFlags := 24, nameIndex := 40, descriptorIndex := 26, attributes := #[] }, { accessFlags := 26, nameIndex := 1101, descriptorIndex := 1102, attributes := #[] }, { accessFlags := 26, nameIndex := 1121, descriptorIndex := 1122, attributes := #[] }, { accessFlags := 25, nameIndex := 599, descriptorIndex := 600, attributes := #[] }, { accessFlags := 24, nameIndex := 1125, descriptorIndex := 18, attributes := #[] }, { accessFlags := 24, nameIndex := 1127, descriptorIndex := 18, attributes := #[] }])
  fields := #[{ name := "value", type := (.array .byte), accessFlags := 18, slot := 0, constantValue := 0 }, { name := "coder", type := .byte, accessFlags := 18, slot := 1, constantValue := 0 }, { name := "hash", type := .int, accessFlags := 2, slot := 2, constantValue := 0 }, { name := "hashIsZero", type := .boolean, accessFlags := 2, slot := 3, constantValue := 0 }, { name := "serialVersionUID", type := .long, accessFlags := 26, slot := 0, constantValue := 0 }, { name := "COMPACT_STRINGS", type := .boolean, accessFlags := 24, slot := 1, constantValue := 0 }, { name := "serialPersistentFields", type := (.array (.object "java/io/ObjectStreamField")), accessFlags := 26, slot := 2, constantValue := 0 }, { name := "REPL", type := .char, accessFlags := 26, slot := 3, constantValue := 0 }, { name := "CASE_INSENSITIVE_ORDER", type := (.object "java/util/Comparator"), accessFlags := 25, slot := 4, constantValue := 0 }, { name := "LATIN1", type := .byte, accessFlags := 24, slot := 5, constantValue := 0 }, { name := "UTF16", type := .byte, accessFlags := 24, slot := 6, constantValue := 0 }]
  methods := #[k7m0, k7m1, k7m2, k7m3, k7m4, k7m5, k7m6, k7m7, k7m8]
  instanceTypes := #[(.array .byte), .byte, .int, .boolean]
  staticTypes := #[.long, .boolean, (.array (.object "java/io/ObjectStreamField")), .char, (.object "java/util/Comparator"), .byte, .byte]
  resolved := Array.replicate 1451 none
  statics := some 0 }

def pool8 : Array CpInfo := pool [(2, .class_ 4), (1, u "java/lang/Object"), (0, u "<init>"), (0, u "()V"), (0, .string 8), (0, u "key"), (0, .methodref 10 11), (0, .class_ 12), (0, .nameAndType 13 14), (0, u "java/util/Objects"), (0, u "requireNonNull"), (0, u "(Ljava/lang/Object;Ljava/lang/String;)Ljava/lang/Object;"), (0, .interfaceMethodref 16 17), (0, .class_ 18), (0, .nameAndType 19 20), (0, u "java/lang/CharSequence"), (0, u "toString"), (0, u "()Ljava/lang/String;"), (0, .fieldref 22 23), (0, .class_ 24), (0, .nameAndType 25 26), (0, u "java/nio/charset/StandardCharsets"), (0, u "UTF_8"), (0, u "Ljava/nio/charset/Charset;"), (0, .methodref 28 29), (0, .class_ 30), (0, .nameAndType 31 32), (0, u "java/lang/String"), (0, u "getBytes"), (0, u "(Ljava/nio/charset/Charset;)[B"), (38, .class_ 72), (0, u "com/example/unseen/unseen/Keys"), (6, u "SEED"), (0, u "I"), (4, u "utf8"), (0, u "(Ljava/lang/CharSequence;)[B")] 10

def k8m0 : Method := { name := "<init>", desc := "()V", sig := { parameters := [], returnType := none }, accessFlags := 2, code := none }
def k8c1 : Code := { maxStack := 2, maxLocals := 1, code := prog_8_method_2_code, exceptionTable := #[], attributes := #[] }
def k8m1 : Method := { name := "utf8", desc := "(Ljava/lang/CharSequence;)[B", sig := { parameters := [(.object "java/lang/CharSequence")], returnType := some (.array .byte) }, accessFlags := 8, code := some k8c1 }
/-- com/example/unseen/unseen/Keys -/
def k8 : Class := { plain "com/example/unseen/unseen/Keys" (some 0) with
  accessFlags := 48
  interfaces := #[]
  cf := some (fileOf pool8 71 #[] #[{ accessFlags := 2, nameIndex := 5, descriptorIndex := 6, attributes := #[] }, { accessFlags := 8, nameIndex := 85, descriptorIndex := 86, attributes := #[] }] 48 2 #[] #[{ accessFlags := 26, nameIndex := 79, descriptorIndex := 80, attributes := #[] }])
  fields := #[{ name := "SEED", type := .int, accessFlags := 26, slot := 0, constantValue := 0 }]
  methods := #[k8m0, k8m1]
  instanceTypes := #[]
  staticTypes := #[.int]
  resolved := Array.replicate 97 none
  statics := none }

def pool9 : Array CpInfo := pool [(2, .class_ 4), (1, u "java/lang/Object"), (0, u "<init>"), (0, u "()V"), (35, .class_ 44), (1, u "java/util/Objects"), (0, u "requireNonNull"), (48, u "(Ljava/lang/Object;Ljava/lang/String;)Ljava/lang/Object;")] 89

def k9m0 : Method := { name := "<init>", desc := "()V", sig := { parameters := [], returnType := none }, accessFlags := 2, code := none }
def k9c1 : Code := { maxStack := 3, maxLocals := 2, code := jdk_31_method_11_code, exceptionTable := #[], attributes := #[] }
def k9m1 : Method := { name := "requireNonNull", desc := "(Ljava/lang/Object;Ljava/lang/String;)Ljava/lang/Object;", sig := { parameters := [(.object "java/lang/Object"), (.object "java/lang/String")], returnType := some (.object "java/lang/Object") }, accessFlags := 9, code := some k9c1 }
/-- java/util/Objects -/
def k9 : Class := { plain "java/util/Objects" (some 0) with
  accessFlags := 49
  interfaces := #[]
  cf := some (fileOf pool9 42 #[] #[{ accessFlags := 2, nameIndex := 5, descriptorIndex := 6, attributes := #[] }, { accessFlags := 9, nameIndex := 45, descriptorIndex := 94, attributes := #[] }] 49 2 #[] #[])
  fields := #[]
  methods := #[k9m0, k9m1]
  instanceTypes := #[]
  staticTypes := #[]
  resolved := Array.replicate 184 none
  statics := none }

def pool10 : Array CpInfo := pool [(2, .class_ 4), (1, u "java/lang/Object"), (0, u "<init>"), (0, u "()V"), (14, .class_ 23), (1, u "java/nio/charset/StandardCharsets"), (0, u "US_ASCII"), (0, u "Ljava/nio/charset/Charset;"), (7, u "ISO_8859_1"), (7, u "UTF_8"), (5, u "UTF_16BE"), (5, u "UTF_16LE"), (5, u "UTF_16")] 8

def k10m0 : Method := { name := "<init>", desc := "()V", sig := { parameters := [], returnType := none }, accessFlags := 2, code := none }
/-- java/nio/charset/StandardCharsets -/
def k10 : Class := { plain "java/nio/charset/StandardCharsets" (some 0) with
  accessFlags := 49
  interfaces := #[]
  cf := some (fileOf pool10 21 #[] #[{ accessFlags := 2, nameIndex := 5, descriptorIndex := 6, attributes := #[] }] 49 2 #[] #[{ accessFlags := 25, nameIndex := 24, descriptorIndex := 25, attributes := #[] }, { accessFlags := 25, nameIndex := 33, descriptorIndex := 25, attributes := #[] }, { accessFlags := 25, nameIndex := 41, descriptorIndex := 25, attributes := #[] }, { accessFlags := 25, nameIndex := 47, descriptorIndex := 25, attributes := #[] }, { accessFlags := 25, nameIndex := 53, descriptorIndex := 25, attributes := #[] }, { accessFlags := 25, nameIndex := 59, descriptorIndex := 25, attributes := #[] }])
  fields := #[{ name := "US_ASCII", type := (.object "java/nio/charset/Charset"), accessFlags := 25, slot := 0, constantValue := 0 }, { name := "ISO_8859_1", type := (.object "java/nio/charset/Charset"), accessFlags := 25, slot := 1, constantValue := 0 }, { name := "UTF_8", type := (.object "java/nio/charset/Charset"), accessFlags := 25, slot := 2, constantValue := 0 }, { name := "UTF_16BE", type := (.object "java/nio/charset/Charset"), accessFlags := 25, slot := 3, constantValue := 0 }, { name := "UTF_16LE", type := (.object "java/nio/charset/Charset"), accessFlags := 25, slot := 4, constantValue := 0 }, { name := "UTF_16", type := (.object "java/nio/charset/Charset"), accessFlags := 25, slot := 5, constantValue := 0 }]
  methods := #[k10m0]
  instanceTypes := #[]
  staticTypes := #[(.object "java/nio/charset/Charset"), (.object "java/nio/charset/Charset"), (.object "java/nio/charset/Charset"), (.object "java/nio/charset/Charset"), (.object "java/nio/charset/Charset"), (.object "java/nio/charset/Charset")]
  resolved := Array.replicate 68 none
  statics := some 1 }

def pool11 : Array CpInfo := pool [(18, .class_ 20), (1, u "java/nio/charset/Charset"), (0, u "cache1"), (0, u "[Ljava/lang/Object;"), (2, u "cache2"), (0, .class_ 27), (0, u "java/lang/Object"), (0, .class_ 29), (0, u "java/nio/charset/Charset$1"), (4, .class_ 36), (1, u "java/nio/charset/Charset$ThreadTrackHolder"), (21, .class_ 59), (0, u "java/nio/charset/Charset$2"), (11, .class_ 73), (1, u "java/nio/charset/Charset$ExtendedProviderHolder"), (22, u "standardProvider"), (0, u "Ljava/nio/charset/spi/CharsetProvider;"), (29, u "name"), (7, .class_ 136), (0, u "java/nio/charset/Charset$3"), (5, u "defaultCharset"), (0, u "Ljava/nio/charset/Charset;"), (14, u "zeroAliases"), (0, u "[Ljava/lang/String;"), (29, u "Ljava/lang/String;"), (2, u "aliases"), (2, u "aliasSet"), (0, u "Ljava/util/Set;"), (82, .class_ 280), (0, u "java/lang/Comparable"), (84, .class_ 366), (0, u "java/nio/charset/Charset$ExtendedProviderHolder$1")] 3

/-- java/nio/charset/Charset -/
def k11 : Class := { plain "java/nio/charset/Charset" (some 0) with
  accessFlags := 1057
  interfaces := #[3]
  cf := some (fileOf pool11 18 #[.nestMembers #[71, 365, 34, 135, 58, 28]] #[] 1057 26 #[279] #[{ accessFlags := 26, nameIndex := 96, descriptorIndex := 97, attributes := #[] }, { accessFlags := 26, nameIndex := 158, descriptorIndex := 159, attributes := #[] }, { accessFlags := 74, nameIndex := 21, descriptorIndex := 22, attributes := #[] }, { accessFlags := 74, nameIndex := 25, descriptorIndex := 22, attributes := #[] }, { accessFlags := 10, nameIndex := 142, descriptorIndex := 143, attributes := #[] }, { accessFlags := 18, nameIndex := 127, descriptorIndex := 189, attributes := #[] }, { accessFlags := 18, nameIndex := 192, descriptorIndex := 159, attributes := #[] }, { accessFlags := 2, nameIndex := 195, descriptorIndex := 196, attributes := #[] }])
  fields := #[{ name := "standardProvider", type := (.object "java/nio/charset/spi/CharsetProvider"), accessFlags := 26, slot := 0, constantValue := 0 }, { name := "zeroAliases", type := (.array (.object "java/lang/String")), accessFlags := 26, slot := 1, constantValue := 0 }, { name := "cache1", type := (.array (.object "java/lang/Object")), accessFlags := 74, slot := 2, constantValue := 0 }, { name := "cache2", type := (.array (.object "java/lang/Object")), accessFlags := 74, slot := 3, constantValue := 0 }, { name := "defaultCharset", type := (.object "java/nio/charset/Charset"), accessFlags := 10, slot := 4, constantValue := 0 }, { name := "name", type := (.object "java/lang/String"), accessFlags := 18, slot := 0, constantValue := 0 }, { name := "aliases", type := (.array (.object "java/lang/String")), accessFlags := 18, slot := 1, constantValue := 0 }, { name := "aliasSet", type := (.object "java/util/Set"), accessFlags := 2, slot := 2, constantValue := 0 }]
  methods := #[]
  instanceTypes := #[(.object "java/lang/String"), (.array (.object "java/lang/String")), (.object "java/util/Set")]
  staticTypes := #[(.object "java/nio/charset/spi/CharsetProvider"), (.array (.object "java/lang/String")), (.array (.object "java/lang/Object")), (.array (.object "java/lang/Object")), (.object "java/nio/charset/Charset")]
  resolved := Array.replicate 370 none
  statics := none }

def pool12 : Array CpInfo := pool [(1, .class_ 2), (0, u "sun/nio/cs/HistoricallyNamedCharset"), (0, .class_ 4), (0, u "java/lang/Object")] 4

/-- sun/nio/cs/HistoricallyNamedCharset -/
def k12 : Class := { plain "sun/nio/cs/HistoricallyNamedCharset" (some 0) with
  accessFlags := 1537
  interfaces := #[]
  cf := some (fileOf pool12 1 #[] #[] 1537 3 #[] #[])
  fields := #[]
  methods := #[]
  instanceTypes := #[]
  staticTypes := #[]
  resolved := Array.replicate 9 none
  statics := none }

def pool13 : Array CpInfo := pool [(2, .class_ 4), (1, u "java/nio/charset/Charset"), (130, .class_ 136), (0, u "sun/nio/cs/Unicode"), (0, .class_ 138), (0, u "sun/nio/cs/HistoricallyNamedCharset")] 15

/-- sun/nio/cs/Unicode -/
def k13 : Class := { plain "sun/nio/cs/Unicode" (some 11) with
  accessFlags := 1056
  interfaces := #[12]
  cf := some (fileOf pool13 135 #[] #[] 1056 2 #[137] #[])
  fields := #[]
  methods := #[]
  instanceTypes := #[(.object "java/lang/String"), (.array (.object "java/lang/String")), (.object "java/util/Set")]
  staticTypes := #[]
  resolved := Array.replicate 154 none
  statics := none }

def pool14 : Array CpInfo := pool [(10, .class_ 12), (1, u "sun/nio/cs/Unicode"), (0, u "<init>"), (3, .class_ 18), (0, u "sun/nio/cs/UTF_8$Decoder"), (3, .class_ 23), (0, u "sun/nio/cs/UTF_8$Encoder"), (15, .class_ 40), (0, u "sun/nio/cs/UTF_8"), (2, u "()V"), (2, u "INSTANCE"), (0, u "Lsun/nio/cs/UTF_8;"), (8, u "JLA"), (0, u "Ljdk/internal/access/JavaLangAccess;")] 26

def k14m0 : Method := { name := "<init>", desc := "()V", sig := { parameters := [], returnType := none }, accessFlags := 1, code := none }
/-- sun/nio/cs/UTF_8 -/
def k14 : Class := { plain "sun/nio/cs/UTF_8" (some 13) with
  accessFlags := 49
  interfaces := #[]
  cf := some (fileOf pool14 39 #[.nestMembers #[22, 17]] #[{ accessFlags := 1, nameIndex := 13, descriptorIndex := 43, attributes := #[] }] 49 10 #[] #[{ accessFlags := 25, nameIndex := 46, descriptorIndex := 47, attributes := #[] }, { accessFlags := 26, nameIndex := 56, descriptorIndex := 57, attributes := #[] }])
  fields := #[{ name := "INSTANCE", type := (.object "sun/nio/cs/UTF_8"), accessFlags := 25, slot := 0, constantValue := 0 }, { name := "JLA", type := (.object "jdk/internal/access/JavaLangAccess"), accessFlags := 26, slot := 1, constantValue := 0 }]
  methods := #[k14m0]
  instanceTypes := #[(.object "java/lang/String"), (.array (.object "java/lang/String")), (.object "java/util/Set")]
  staticTypes := #[(.object "sun/nio/cs/UTF_8"), (.object "jdk/internal/access/JavaLangAccess")]
  resolved := Array.replicate 84 none
  statics := some 2 }

def pool15 : Array CpInfo := pool [(2, .class_ 4), (1, u "java/lang/Object"), (0, u "<init>"), (0, u "()V"), (0, .methodref 8 9), (0, .class_ 10), (0, .nameAndType 11 12), (0, u "java/lang/StringCoding"), (0, u "countPositives"), (0, u "([BII)I"), (11, u "hasNegatives"), (0, u "([BII)Z")] 23

def k15m0 : Method := { name := "<init>", desc := "()V", sig := { parameters := [], returnType := none }, accessFlags := 2, code := none }
def k15c1 : Code := { maxStack := 3, maxLocals := 3, code := jdk_123_method_2_code, exceptionTable := #[], attributes := #[] }
def k15m1 : Method := { name := "hasNegatives", desc := "([BII)Z", sig := { parameters := [(.array .byte), .int, .int], returnType := some .boolean }, accessFlags := 9, code := some k15c1 }
def k15c2 : Code := { maxStack := 2, maxLocals := 5, code := jdk_123_method_3_code, exceptionTable := #[], attributes := #[] }
def k15m2 : Method := { name := "countPositives", desc := "([BII)I", sig := { parameters := [(.array .byte), .int, .int], returnType := some .int }, accessFlags := 9, code := some k15c2 }
/-- java/lang/StringCoding -/
def k15 : Class := { plain "java/lang/StringCoding" (some 0) with
  accessFlags := 32
  interfaces := #[]
  cf := some (fileOf pool15 8 #[] #[{ accessFlags := 2, nameIndex := 5, descriptorIndex := 6, attributes := #[] }, { accessFlags := 9, nameIndex := 24, descriptorIndex := 25, attributes := #[] }, { accessFlags := 9, nameIndex := 11, descriptorIndex := 12, attributes := #[] }] 32 2 #[] #[])
  fields := #[]
  methods := #[k15m0, k15m1, k15m2]
  instanceTypes := #[]
  staticTypes := #[]
  resolved := Array.replicate 49 none
  statics := none }

def pool16 : Array CpInfo := pool [(1, .class_ 2), (0, u "java/lang/Cloneable"), (0, .class_ 4), (0, u "java/lang/Object")] 2

/-- java/lang/Cloneable -/
def k16 : Class := { plain "java/lang/Cloneable" (some 0) with
  accessFlags := 1537
  interfaces := #[]
  cf := some (fileOf pool16 1 #[] #[] 1537 3 #[] #[])
  fields := #[]
  methods := #[]
  instanceTypes := #[]
  staticTypes := #[]
  resolved := Array.replicate 7 none
  statics := none }

def pool17 : Array CpInfo := pool [(6, .class_ 8), (1, u "java/lang/Object"), (0, u "<init>"), (0, u "()V"), (0, .methodref 12 13), (0, .class_ 14), (0, .nameAndType 15 16), (0, u "java/lang/StringUTF16"), (0, u "newBytesLength"), (0, u "(I)I"), (3, .integer 1073741823), (23, .fieldref 12 45), (0, .nameAndType 46 47), (0, u "$assertionsDisabled"), (0, u "Z"), (11, .fieldref 12 60), (0, .nameAndType 61 62), (0, u "HI_BYTE_SHIFT"), (0, u "I"), (0, .fieldref 12 64), (0, .nameAndType 65 62), (0, u "LO_BYTE_SHIFT"), (5, .methodref 12 72), (0, .nameAndType 73 74), (0, u "getChar"), (0, u "([BI)C"), (32, .methodref 12 108), (0, .nameAndType 109 110), (0, u "newBytesFor"), (0, u "(I)[B"), (0, .methodref 12 112), (0, .nameAndType 113 114), (0, u "putChar"), (0, u "([BII)V"), (0, .methodref 12 116), (0, .nameAndType 117 118), (0, u "compress"), (0, u "([CI[BII)I"), (0, .methodref 12 120), (0, .nameAndType 121 122), (0, u "toBytes"), (0, u "([CII)[B"), (138, u "coderFromArrayLen"), (0, u "([BI)B"), (106, .class_ 371), (1, u "java/lang/StringUTF16$LinesSpliterator"), (58, u "MAX_LENGTH"), (196, .class_ 628), (0, u "java/lang/StringUTF16$CodePointsSpliterator"), (0, .class_ 630), (0, u "java/lang/StringUTF16$CharsSpliterator")] 4

def k17m0 : Method := { name := "<init>", desc := "()V", sig := { parameters := [], returnType := none }, accessFlags := 0, code := none }
def k17c1 : Code := { maxStack := 1, maxLocals := 1, code := jdk_52_method_2_code, exceptionTable := #[], attributes := #[] }
def k17m1 : Method := { name := "newBytesFor", desc := "(I)[B", sig := { parameters := [.int], returnType := some (.array .byte) }, accessFlags := 9, code := some k17c1 }
def k17c2 : Code := { maxStack := 4, maxLocals := 1, code := jdk_52_method_3_code, exceptionTable := #[], attributes := #[] }
def k17m2 : Method := { name := "newBytesLength", desc := "(I)I", sig := { parameters := [.int], returnType := some .int }, accessFlags := 9, code := some k17c2 }
def k17c3 : Code := { maxStack := 4, maxLocals := 3, code := jdk_52_method_4_code, exceptionTable := #[], attributes := #[] }
def k17m3 : Method := { name := "putChar", desc := "([BII)V", sig := { parameters := [(.array .byte), .int, .int], returnType := none }, accessFlags := 8, code := some k17c3 }
def k17c4 : Code := { maxStack := 3, maxLocals := 2, code := jdk_52_method_5_code, exceptionTable := #[], attributes := #[] }
def k17m4 : Method := { name := "getChar", desc := "([BI)C", sig := { parameters := [(.array .byte), .int], returnType := some .char }, accessFlags := 8, code := some k17c4 }
def k17c5 : Code := { maxStack := 4, maxLocals := 5, code := jdk_52_method_14_code, exceptionTable := #[], attributes := #[] }
def k17m5 : Method := { name := "toBytes", desc := "([CII)[B", sig := { parameters := [(.array .char), .int, .int], returnType := some (.array .byte) }, accessFlags := 9, code := some k17c5 }
def k17c6 : Code := { maxStack := 2, maxLocals := 2, code := jdk_52_method_15_code, exceptionTable := #[], attributes := #[] }
def k17m6 : Method := { name := "coderFromArrayLen", desc := "([BI)B", sig := { parameters := [(.array .byte), .int], returnType := some .byte }, accessFlags := 8, code := some k17c6 }
def k17c7 : Code := { maxStack := 5, maxLocals := 6, code := jdk_52_method_16_code, exceptionTable := #[], attributes := #[] }
def k17m7 : Method := { name := "compress", desc := "([CII)[B", sig := { parameters := [(.array .char), .int, .int], returnType := some (.array .byte) }, accessFlags := 9, code := some k17c7 }
def k17c8 : Code := { maxStack := 3, maxLocals := 7, code := jdk_52_method_21_code, exceptionTable := #[], attributes := #[] }
def k17m8 : Method := { name := "compress", desc := "([CI[BII)I", sig := { parameters := [(.array .char), .int, (.array .byte), .int, .int], returnType := some .int }, accessFlags := 9, code := some k17c8 }
/-- java/lang/StringUTF16 -/
def k17 : Class := { plain "java/lang/StringUTF16" (some 0) with
  accessFlags := 48
  interfaces := #[]
  cf := some (fileOf pool17 12 #[.nestMembers #[627, 629, 369]] #[{ accessFlags := 0, nameIndex := 9, descriptorIndex := 10, attributes := #[] }, { accessFlags := 9, nameIndex := 109, descriptorIndex := 110, attributes := #[] }, { accessFlags := 9, nameIndex := 15, descriptorIndex := 16, attributes := #[] }, { accessFlags := 8, nameIndex := 113, descriptorIndex := 114, attributes := #[] }, { accessFlags := 8, nameIndex := 73, descriptorIndex := 74, attributes := #[] }, { accessFlags := 9, nameIndex := 121, descriptorIndex := 122, attributes := #[] }, { accessFlags := 8, nameIndex := 261, descriptorIndex := 262, attributes := #[] }, { accessFlags := 9, nameIndex := 117, descriptorIndex := 122, attributes := #[] }, { accessFlags := 9, nameIndex := 117, descriptorIndex := 118, attributes := #[] }] 48 6 #[] #[{ accessFlags := 26, nameIndex := 61, descriptorIndex := 62, attributes := #[] }, { accessFlags := 26, nameIndex := 65, descriptorIndex := 62, attributes := #[] }, { accessFlags := 24, nameIndex := 430, descriptorIndex := 62, attributes := #[] }, { accessFlags := 4120, nameIndex := 46, descriptorIndex := 47, attributes := #[] }])
  fields := #[{ name := "HI_BYTE_SHIFT", type := .int, accessFlags := 26, slot := 0, constantValue := 0 }, { name := "LO_BYTE_SHIFT", type := .int, accessFlags := 26, slot := 1, constantValue := 0 }, { name := "MAX_LENGTH", type := .int, accessFlags := 24, slot := 2, constantValue := 0 }, { name := "$assertionsDisabled", type := .boolean, accessFlags := 4120, slot := 3, constantValue := 0 }]
  methods := #[k17m0, k17m1, k17m2, k17m3, k17m4, k17m5, k17m6, k17m7, k17m8]
  instanceTypes := #[]
  staticTypes := #[.int, .int, .int, .boolean]
  resolved := Array.replicate 635 none
  statics := some 3 }

def pool18 : Array CpInfo := pool [(1, .class_ 2), (0, u "java/lang/Character"), (18, u "value"), (0, u "C"), (19, .class_ 44), (1, u "java/lang/Object"), (3, .class_ 50), (1, u "java/lang/Character$CharacterCache"), (24, .integer 55296), (0, .integer 56320), (0, .integer 57344), (2, u "isHighSurrogate"), (0, u "(C)Z"), (2, u "isLowSurrogate"), (0, .integer 4238353408), (12, u "toCodePoint"), (0, u "(CC)I"), (184, u "$assertionsDisabled"), (0, u "Z"), (21, .class_ 309), (1, u "java/lang/Character$UnicodeBlock"), (73, u "TYPE"), (0, u "Ljava/lang/Class;"), (0, .class_ 386), (0, u "java/io/Serializable"), (0, .class_ 388), (0, u "java/lang/Comparable"), (0, .class_ 390), (0, u "java/lang/constant/Constable"), (0, u "MIN_RADIX"), (0, u "I"), (2, u "MAX_RADIX"), (1, u "MIN_VALUE"), (1, u "MAX_VALUE"), (3, u "UNASSIGNED"), (0, u "B"), (0, u "UPPERCASE_LETTER"), (1, u "LOWERCASE_LETTER"), (0, u "TITLECASE_LETTER"), (1, u "MODIFIER_LETTER"), (1, u "OTHER_LETTER"), (1, u "NON_SPACING_MARK"), (1, u "ENCLOSING_MARK"), (1, u "COMBINING_SPACING_MARK"), (1, u "DECIMAL_DIGIT_NUMBER"), (1, u "LETTER_NUMBER"), (1, u "OTHER_NUMBER"), (1, u "SPACE_SEPARATOR"), (1, u "LINE_SEPARATOR"), (1, u "PARAGRAPH_SEPARATOR"), (1, u "CONTROL"), (1, u "FORMAT"), (1, u "PRIVATE_USE"), (1, u "SURROGATE"), (1, u "DASH_PUNCTUATION"), (1, u "START_PUNCTUATION"), (1, u "END_PUNCTUATION"), (1, u "CONNECTOR_PUNCTUATION"), (1, u "OTHER_PUNCTUATION"), (1, u "MATH_SYMBOL"), (1, u "CURRENCY_SYMBOL"), (1, u "MODIFIER_SYMBOL"), (1, u "OTHER_SYMBOL"), (1, u "INITIAL_QUOTE_PUNCTUATION"), (1, u "FINAL_QUOTE_PUNCTUATION"), (1, u "ERROR"), (1, u "DIRECTIONALITY_UNDEFINED"), (0, u "DIRECTIONALITY_LEFT_TO_RIGHT"), (0, u "DIRECTIONALITY_RIGHT_TO_LEFT"), (0, u "DIRECTIONALITY_RIGHT_TO_LEFT_ARABIC"), (0, u "DIRECTIONALITY_EUROPEAN_NUMBER"), (0, u "DIRECTIONALITY_EUROPEAN_NUMBER_SEPARATOR"), (0, u "DIRECTIONALITY_EUROPEAN_NUMBER_TERMINATOR"), (0, u "DIRECTIONALITY_ARABIC_NUMBER"), (0, u "DIRECTIONALITY_COMMON_NUMBER_SEPARATOR"), (0, u "DIRECTIONALITY_NONSPACING_MARK"), (0, u "DIRECTIONALITY_BOUNDARY_NEUTRAL"), (0, u "DIRECTIONALITY_PARAGRAPH_SEPARATOR"), (0, u "DIRECTIONALITY_SEGMENT_SEPARATOR"), (0, u "DIRECTIONALITY_WHITESPACE"), (0, u "DIRECTIONALITY_OTHER_NEUTRALS"), (0, u "DIRECTIONALITY_LEFT_TO_RIGHT_EMBEDDING"), (0, u "DIRECTIONALITY_LEFT_TO_RIGHT_OVERRIDE"), (0, u "DIRECTIONALITY_RIGHT_TO_LEFT_EMBEDDING"), (0, u "DIRECTIONALITY_RIGHT_TO_LEFT_OVERRIDE"), (1, u "DIRECTIONALITY_POP_DIRECTIONAL_FORMAT"), (0, u "DIRECTIONALITY_LEFT_TO_RIGHT_ISOLATE"), (0, u "DIRECTIONALITY_RIGHT_TO_LEFT_ISOLATE"), (0, u "DIRECTIONALITY_FIRST_STRONG_ISOLATE"), (0, u "DIRECTIONALITY_POP_DIRECTIONAL_ISOLATE"), (0, u "MIN_HIGH_SURROGATE"), (0, u "MAX_HIGH_SURROGATE"), (1, u "MIN_LOW_SURROGATE"), (0, u "MAX_LOW_SURROGATE"), (1, u "MIN_SURROGATE"), (0, u "MAX_SURROGATE"), (0, u "MIN_SUPPLEMENTARY_CODE_POINT"), (0, u "MIN_CODE_POINT"), (0, u "MAX_CODE_POINT"), (1, u "serialVersionUID"), (0, u "J"), (2, u "SIZE"), (0, u "BYTES"), (24, u "isSurrogate"), (63, .class_ 596), (0, u "java/lang/Character$UnicodeScript"), (0, .class_ 598), (0, u "java/lang/Character$Subset")] 5

def k18c0 : Code := { maxStack := 2, maxLocals := 1, code := jdk_89_method_14_code, exceptionTable := #[], attributes := #[] }
def k18m0 : Method := { name := "isHighSurrogate", desc := "(C)Z", sig := { parameters := [.char], returnType := some .boolean }, accessFlags := 9, code := some k18c0 }
def k18c1 : Code := { maxStack := 2, maxLocals := 1, code := jdk_89_method_15_code, exceptionTable := #[], attributes := #[] }
def k18m1 : Method := { name := "isLowSurrogate", desc := "(C)Z", sig := { parameters := [.char], returnType := some .boolean }, accessFlags := 9, code := some k18c1 }
def k18c2 : Code := { maxStack := 2, maxLocals := 1, code := jdk_89_method_16_code, exceptionTable := #[], attributes := #[] }
def k18m2 : Method := { name := "isSurrogate", desc := "(C)Z", sig := { parameters := [.char], returnType := some .boolean }, accessFlags := 9, code := some k18c2 }
def k18c3 : Code := { maxStack := 2, maxLocals := 2, code := jdk_89_method_19_code, exceptionTable := #[], attributes := #[] }
def k18m3 : Method := { name := "toCodePoint", desc := "(CC)I", sig := { parameters := [.char, .char], returnType := some .int }, accessFlags := 9, code := some k18c3 }
/-- java/lang/Character -/
def k18 : Class := { plain "java/lang/Character" (some 0) with
  accessFlags := 49
  interfaces := #[2, 3, 5]
  cf := some (fileOf pool18 1 #[.nestMembers #[48, 595, 307, 597]] #[{ accessFlags := 9, nameIndex := 80, descriptorIndex := 81, attributes := #[] }, { accessFlags := 9, nameIndex := 84, descriptorIndex := 81, attributes := #[] }, { accessFlags := 9, nameIndex := 531, descriptorIndex := 81, attributes := #[] }, { accessFlags := 9, nameIndex := 98, descriptorIndex := 99, attributes := #[] }] 49 42 #[385, 387, 389] #[{ accessFlags := 25, nameIndex := 391, descriptorIndex := 392, attributes := #[] }, { accessFlags := 25, nameIndex := 395, descriptorIndex := 392, attributes := #[] }, { accessFlags := 25, nameIndex := 397, descriptorIndex := 22, attributes := #[] }, { accessFlags := 25, nameIndex := 399, descriptorIndex := 22, attributes := #[] }, { accessFlags := 25, nameIndex := 383, descriptorIndex := 384, attributes := #[] }, { accessFlags := 25, nameIndex := 403, descriptorIndex := 404, attributes := #[] }, { accessFlags := 25, nameIndex := 405, descriptorIndex := 404, attributes := #[] }, { accessFlags := 25, nameIndex := 407, descriptorIndex := 404, attributes := #[] }, { accessFlags := 25, nameIndex := 408, descriptorIndex := 404, attributes := #[] }, { accessFlags := 25, nameIndex := 410, descriptorIndex := 404, attributes := #[] }, { accessFlags := 25, nameIndex := 412, descriptorIndex := 404, attributes := #[] }, { accessFlags := 25, nameIndex := 414, descriptorIndex := 404, attributes := #[] }, { accessFlags := 25, nameIndex := 416, descriptorIndex := 404, attributes := #[] }, { accessFlags := 25, nameIndex := 418, descriptorIndex := 404, attributes := #[] }, { accessFlags := 25, nameIndex := 420, descriptorIndex := 404, attributes := #[] }, { accessFlags := 25, nameIndex := 422, descriptorIndex := 404, attributes := #[] }, { accessFlags := 25, nameIndex := 424, descriptorIndex := 404, attributes := #[] }, { accessFlags := 25, nameIndex := 426, descriptorIndex := 404, attributes := #[] }, { accessFlags := 25, nameIndex := 428, descriptorIndex := 404, attributes := #[] }, { accessFlags := 25, nameIndex := 430, descriptorIndex := 404, attributes := #[] }, { accessFlags := 25, nameIndex := 432, descriptorIndex := 404, attributes := #[] }, { accessFlags := 25, nameIndex := 434, descriptorIndex := 404, attributes := #[] }, { accessFlags := 25, nameIndex := 436, descriptorIndex := 404, attributes := #[] }, { accessFlags := 25, nameIndex := 438, descriptorIndex := 404, attributes := #[] }, { accessFlags := 25, nameIndex := 440, descriptorIndex := 404, attributes := #[] }, { accessFlags := 25, nameIndex := 442, descriptorIndex := 404, attributes := #[] }, { accessFlags := 25, nameIndex := 444, descriptorIndex := 404, attributes := #[] }, { accessFlags := 25, nameIndex := 446, descriptorIndex := 404, attributes := #[] }, { accessFlags := 25, nameIndex := 448, descriptorIndex := 404, attributes := #[] }, { accessFlags := 25, nameIndex := 450, descriptorIndex := 404, attributes := #[] }, { accessFlags := 25, nameIndex := 452, descriptorIndex := 404, attributes := #[] }, { accessFlags := 25, nameIndex := 454, descriptorIndex := 404, attributes := #[] }, { accessFlags := 25, nameIndex := 456, descriptorIndex := 404, attributes := #[] }, { accessFlags := 25, nameIndex := 458, descriptorIndex := 404, attributes := #[] }, { accessFlags := 25, nameIndex := 460, descriptorIndex := 404, attributes := #[] }, { accessFlags := 24, nameIndex := 462, descriptorIndex := 392, attributes := #[] }, { accessFlags := 25, nameIndex := 464, descriptorIndex := 404, attributes := #[] }, { accessFlags := 25, nameIndex := 465, descriptorIndex := 404, attributes := #[] }, { accessFlags := 25, nameIndex := 466, descriptorIndex := 404, attributes := #[] }, { accessFlags := 25, nameIndex := 467, descriptorIndex := 404, attributes := #[] }, { accessFlags := 25, nameIndex := 468, descriptorIndex := 404, attributes := #[] }, { accessFlags := 25, nameIndex := 469, descriptorIndex := 404, attributes := #[] }, { accessFlags := 25, nameIndex := 470, descriptorIndex := 404, attributes := #[] }, { accessFlags := 25, nameIndex := 471, descriptorIndex := 404, attributes := #[] }, { accessFlags := 25, nameIndex := 472, descriptorIndex := 404, attributes := #[] }, { accessFlags := 25, nameIndex := 473, descriptorIndex := 404, attributes := #[] }, { accessFlags := 25, nameIndex := 474, descriptorIndex := 404, attributes := #[] }, { accessFlags := 25, nameIndex := 475, descriptorIndex := 404, attributes := #[] }, { accessFlags := 25, nameIndex := 476, descriptorIndex := 404, attributes := #[] }, { accessFlags := 25, nameIndex := 477, descriptorIndex := 404, attributes := #[] }, { accessFlags := 25, nameIndex := 478, descriptorIndex := 404, attributes := #[] }, { accessFlags := 25, nameIndex := 479, descriptorIndex := 404, attributes := #[] }, { accessFlags := 25, nameIndex := 480, descriptorIndex := 404, attributes := #[] }, { accessFlags := 25, nameIndex := 481, descriptorIndex := 404, attributes := #[] }, { accessFlags := 25, nameIndex := 482, descriptorIndex := 404, attributes := #[] }, { accessFlags := 25, nameIndex := 484, descriptorIndex := 404, attributes := #[] }, { accessFlags := 25, nameIndex := 485, descriptorIndex := 404, attributes := #[] }, { accessFlags := 25, nameIndex := 486, descriptorIndex := 404, attributes := #[] }, { accessFlags := 25, nameIndex := 487, descriptorIndex := 404, attributes := #[] }, { accessFlags := 25, nameIndex := 488, descriptorIndex := 404, attributes := #[] }, { accessFlags := 25, nameIndex := 489, descriptorIndex := 22, attributes := #[] }, { accessFlags := 25, nameIndex := 490, descriptorIndex := 22, attributes := #[] }, { accessFlags := 25, nameIndex := 492, descriptorIndex := 22, attributes := #[] }, { accessFlags := 25, nameIndex := 493, descriptorIndex := 22, attributes := #[] }, { accessFlags := 25, nameIndex := 495, descriptorIndex := 22, attributes := #[] }, { accessFlags := 25, nameIndex := 496, descriptorIndex := 22, attributes := #[] }, { accessFlags := 25, nameIndex := 497, descriptorIndex := 392, attributes := #[] }, { accessFlags := 25, nameIndex := 498, descriptorIndex := 392, attributes := #[] }, { accessFlags := 25, nameIndex := 499, descriptorIndex := 392, attributes := #[] }, { accessFlags := 18, nameIndex := 21, descriptorIndex := 22, attributes := #[] }, { accessFlags := 26, nameIndex := 501, descriptorIndex := 502, attributes := #[] }, { accessFlags := 25, nameIndex := 505, descriptorIndex := 392, attributes := #[] }, { accessFlags := 25, nameIndex := 506, descriptorIndex := 392, attributes := #[] }, { accessFlags := 4120, nameIndex := 284, descriptorIndex := 285, attributes := #[] }])
  fields := #[{ name := "MIN_RADIX", type := .int, accessFlags := 25, slot := 0, constantValue := 0 }, { name := "MAX_RADIX", type := .int, accessFlags := 25, slot := 1, constantValue := 0 }, { name := "MIN_VALUE", type := .char, accessFlags := 25, slot := 2, constantValue := 0 }, { name := "MAX_VALUE", type := .char, accessFlags := 25, slot := 3, constantValue := 0 }, { name := "TYPE", type := (.object "java/lang/Class"), accessFlags := 25, slot := 4, constantValue := 0 }, { name := "UNASSIGNED", type := .byte, accessFlags := 25, slot := 5, constantValue := 0 }, { name := "UPPERCASE_LETTER", type := .byte, accessFlags := 25, slot := 6, constantValue := 0 }, { name := "LOWERCASE_LETTER", type := .byte, accessFlags := 25, slot := 7, constantValue := 0 }, { name := "TITLECASE_LETTER", type := .byte, accessFlags := 25, slot := 8, constantValue := 0 }, { name := "MODIFIER_LETTER", type := .byte, accessFlags := 25, slot := 9, constantValue := 0 }, { name := "OTHER_LETTER", type := .byte, accessFlags := 25, slot := 10, constantValue := 0 }, { name := "NON_SPACING_MARK", type := .byte, accessFlags := 25, slot := 11, constantValue := 0 }, { name := "ENCLOSING_MARK", type := .byte, accessFlags := 25, slot := 12, constantValue := 0 }, { name := "COMBINING_SPACING_MARK", type := .byte, accessFlags := 25, slot := 13, constantValue := 0 }, { name := "DECIMAL_DIGIT_NUMBER", type := .byte, accessFlags := 25, slot := 14, constantValue := 0 }, { name := "LETTER_NUMBER", type := .byte, accessFlags := 25, slot := 15, constantValue := 0 }, { name := "OTHER_NUMBER", type := .byte, accessFlags := 25, slot := 16, constantValue := 0 }, { name := "SPACE_SEPARATOR", type := .byte, accessFlags := 25, slot := 17, constantValue := 0 }, { name := "LINE_SEPARATOR", type := .byte, accessFlags := 25, slot := 18, constantValue := 0 }, { name := "PARAGRAPH_SEPARATOR", type := .byte, accessFlags := 25, slot := 19, constantValue := 0 }, { name := "CONTROL", type := .byte, accessFlags := 25, slot := 20, constantValue := 0 }, { name := "FORMAT", type := .byte, accessFlags := 25, slot := 21, constantValue := 0 }, { name := "PRIVATE_USE", type := .byte, accessFlags := 25, slot := 22, constantValue := 0 }, { name := "SURROGATE", type := .byte, accessFlags := 25, slot := 23, constantValue := 0 }, { name := "DASH_PUNCTUATION", type := .byte, accessFlags := 25, slot := 24, constantValue := 0 }, { name := "START_PUNCTUATION", type := .byte, accessFlags := 25, slot := 25, constantValue := 0 }, { name := "END_PUNCTUATION", type := .byte, accessFlags := 25, slot := 26, constantValue := 0 }, { name := "CONNECTOR_PUNCTUATION", type := .byte, accessFlags := 25, slot := 27, constantValue := 0 }, { name := "OTHER_PUNCTUATION", type := .byte, accessFlags := 25, slot := 28, constantValue := 0 }, { name := "MATH_SYMBOL", type := .byte, accessFlags := 25, slot := 29, constantValue := 0 }, { name := "CURRENCY_SYMBOL", type := .byte, accessFlags := 25, slot := 30, constantValue := 0 }, { name := "MODIFIER_SYMBOL", type := .byte, accessFlags := 25, slot := 31, constantValue := 0 }, { name := "OTHER_SYMBOL", type := .byte, accessFlags := 25, slot := 32, constantValue := 0 }, { name := "INITIAL_QUOTE_PUNCTUATION", type := .byte, accessFlags := 25, slot := 33, constantValue := 0 }, { name := "FINAL_QUOTE_PUNCTUATION", type := .byte, accessFlags := 25, slot := 34, constantValue := 0 }, { name := "ERROR", type := .int, accessFlags := 24, slot := 35, constantValue := 0 }, { name := "DIRECTIONALITY_UNDEFINED", type := .byte, accessFlags := 25, slot := 36, constantValue := 0 }, { name := "DIRECTIONALITY_LEFT_TO_RIGHT", type := .byte, accessFlags := 25, slot := 37, constantValue := 0 }, { name := "DIRECTIONALITY_RIGHT_TO_LEFT", type := .byte, accessFlags := 25, slot := 38, constantValue := 0 }, { name := "DIRECTIONALITY_RIGHT_TO_LEFT_ARABIC", type := .byte, accessFlags := 25, slot := 39, constantValue := 0 }, { name := "DIRECTIONALITY_EUROPEAN_NUMBER", type := .byte, accessFlags := 25, slot := 40, constantValue := 0 }, { name := "DIRECTIONALITY_EUROPEAN_NUMBER_SEPARATOR", type := .byte, accessFlags := 25, slot := 41, constantValue := 0 }, { name := "DIRECTIONALITY_EUROPEAN_NUMBER_TERMINATOR", type := .byte, accessFlags := 25, slot := 42, constantValue := 0 }, { name := "DIRECTIONALITY_ARABIC_NUMBER", type := .byte, accessFlags := 25, slot := 43, constantValue := 0 }, { name := "DIRECTIONALITY_COMMON_NUMBER_SEPARATOR", type := .byte, accessFlags := 25, slot := 44, constantValue := 0 }, { name := "DIRECTIONALITY_NONSPACING_MARK", type := .byte, accessFlags := 25, slot := 45, constantValue := 0 }, { name := "DIRECTIONALITY_BOUNDARY_NEUTRAL", type := .byte, accessFlags := 25, slot := 46, constantValue := 0 }, { name := "DIRECTIONALITY_PARAGRAPH_SEPARATOR", type := .byte, accessFlags := 25, slot := 47, constantValue := 0 }, { name := "DIRECTIONALITY_SEGMENT_SEPARATOR", type := .byte, accessFlags := 25, slot := 48, constantValue := 0 }, { name := "DIRECTIONALITY_WHITESPACE", type := .byte, accessFlags := 25, slot := 49, constantValue := 0 }, { name := "DIRECTIONALITY_OTHER_NEUTRALS", type := .byte, accessFlags := 25, slot := 50, constantValue := 0 }, { name := "DIRECTIONALITY_LEFT_TO_RIGHT_EMBEDDING", type := .byte, accessFlags := 25, slot := 51, constantValue := 0 }, { name := "DIRECTIONALITY_LEFT_TO_RIGHT_OVERRIDE", type := .byte, accessFlags := 25, slot := 52, constantValue := 0 }, { name := "DIRECTIONALITY_RIGHT_TO_LEFT_EMBEDDING", type := .byte, accessFlags := 25, slot := 53, constantValue := 0 }, { name := "DIRECTIONALITY_RIGHT_TO_LEFT_OVERRIDE", type := .byte, accessFlags := 25, slot := 54, constantValue := 0 }, { name := "DIRECTIONALITY_POP_DIRECTIONAL_FORMAT", type := .byte, accessFlags := 25, slot := 55, constantValue := 0 }, { name := "DIRECTIONALITY_LEFT_TO_RIGHT_ISOLATE", type := .byte, accessFlags := 25, slot := 56, constantValue := 0 }, { name := "DIRECTIONALITY_RIGHT_TO_LEFT_ISOLATE", type := .byte, accessFlags := 25, slot := 57, constantValue := 0 }, { name := "DIRECTIONALITY_FIRST_STRONG_ISOLATE", type := .byte, accessFlags := 25, slot := 58, constantValue := 0 }, { name := "DIRECTIONALITY_POP_DIRECTIONAL_ISOLATE", type := .byte, accessFlags := 25, slot := 59, constantValue := 0 }, { name := "MIN_HIGH_SURROGATE", type := .char, accessFlags := 25, slot := 60, constantValue := 0 }, { name := "MAX_HIGH_SURROGATE", type := .char, accessFlags := 25, slot := 61, constantValue := 0 }, { name := "MIN_LOW_SURROGATE", type := .char, accessFlags := 25, slot := 62, constantValue := 0 }, { name := "MAX_LOW_SURROGATE", type := .char, accessFlags := 25, slot := 63, constantValue := 0 }, { name := "MIN_SURROGATE", type := .char, accessFlags := 25, slot := 64, constantValue := 0 }, { name := "MAX_SURROGATE", type := .char, accessFlags := 25, slot := 65, constantValue := 0 }, { name := "MIN_SUPPLEMENTARY_CODE_POINT", type := .int, accessFlags := 25, slot := 66, constantValue := 0 }, { name := "MIN_CODE_POINT", type := .int, accessFlags := 25, slot := 67, constantValue := 0 }, { name := "MAX_CODE_POINT", type := .int, accessFlags := 25, slot := 68, constantValue := 0 }, { name := "value", type := .char, accessFlags := 18, slot := 0, constantValue := 0 }, { name := "serialVersionUID", type := .long, accessFlags := 26, slot := 69, constantValue := 0 }, { name := "SIZE", type := .int, accessFlags := 25, slot := 70, constantValue := 0 }, { name := "BYTES", type := .int, accessFlags := 25, slot := 71, constantValue := 0 }, { name := "$assertionsDisabled", type := .boolean, accessFlags := 4120, slot := 72, constantValue := 0 }]
  methods := #[k18m0, k18m1, k18m2, k18m3]
  instanceTypes := #[.char]
  staticTypes := #[.int, .int, .char, .char, (.object "java/lang/Class"), .byte, .byte, .byte, .byte, .byte, .byte, .byte, .byte, .byte, .byte, .byte, .byte, .byte, .byte, .byte, .byte, .byte, .byte, .byte, .byte, .byte, .byte, .byte, .byte, .byte, .byte, .byte, .byte, .byte, .byte, .int, .byte, .byte, .byte, .byte, .byte, .byte, .byte, .byte, .byte, .byte, .byte, .byte, .byte, .byte, .byte, .byte, .byte, .byte, .byte, .byte, .byte, .byte, .byte, .byte, .char, .char, .char, .char, .char, .char, .int, .int, .int, .long, .int, .int, .boolean]
  resolved := Array.replicate 604 none
  statics := none }

def pool19 : Array CpInfo := pool [(2, .class_ 4), (1, u "java/lang/Object"), (0, u "<init>"), (0, u "()V"), (7, .class_ 16), (1, u "java/util/Arrays"), (57, .class_ 76), (1, u "java/util/Arrays$NaturalOrder"), (36, .class_ 115), (1, u "java/util/Arrays$LegacyMergeSort"), (1, u "Z"), (32, .methodref 151 152), (0, .class_ 153), (0, .nameAndType 154 155), (0, u "java/lang/System"), (0, u "arraycopy"), (0, u "(Ljava/lang/Object;ILjava/lang/Object;II)V"), (146, u "copyOf"), (1, .methodref 305 306), (0, .class_ 307), (0, .nameAndType 308 309), (0, u "java/lang/Math"), (0, u "min"), (0, u "(II)I"), (65, .class_ 376), (0, u "java/util/Arrays$ArrayList"), (68, u "$assertionsDisabled"), (269, u "MIN_ARRAY_SORT_GRAN"), (0, u "I"), (2, u "INSERTIONSORT_THRESHOLD"), (149, u "([BI)[B"), (105, .class_ 976), (0, u "java/util/Arrays$ArrayItr")] 52

def k19m0 : Method := { name := "<init>", desc := "()V", sig := { parameters := [], returnType := none }, accessFlags := 2, code := none }
def k19c1 : Code := { maxStack := 6, maxLocals := 3, code := jdk_65_method_121_code, exceptionTable := #[], attributes := #[] }
def k19m1 : Method := { name := "copyOf", desc := "([BI)[B", sig := { parameters := [(.array .byte), .int], returnType := some (.array .byte) }, accessFlags := 9, code := some k19c1 }
/-- java/util/Arrays -/
def k19 : Class := { plain "java/util/Arrays" (some 0) with
  accessFlags := 49
  interfaces := #[]
  cf := some (fileOf pool19 14 #[.nestMembers #[975, 375, 113, 74]] #[{ accessFlags := 2, nameIndex := 5, descriptorIndex := 6, attributes := #[] }, { accessFlags := 9, nameIndex := 302, descriptorIndex := 869, attributes := #[] }] 49 2 #[] #[{ accessFlags := 26, nameIndex := 715, descriptorIndex := 716, attributes := #[] }, { accessFlags := 26, nameIndex := 719, descriptorIndex := 716, attributes := #[] }, { accessFlags := 4120, nameIndex := 445, descriptorIndex := 117, attributes := #[] }])
  fields := #[{ name := "MIN_ARRAY_SORT_GRAN", type := .int, accessFlags := 26, slot := 0, constantValue := 0 }, { name := "INSERTIONSORT_THRESHOLD", type := .int, accessFlags := 26, slot := 1, constantValue := 0 }, { name := "$assertionsDisabled", type := .boolean, accessFlags := 4120, slot := 2, constantValue := 0 }]
  methods := #[k19m0, k19m1]
  instanceTypes := #[]
  staticTypes := #[.int, .int, .boolean]
  resolved := Array.replicate 1029 none
  statics := none }

def pool20 : Array CpInfo := pool [(1, .class_ 2), (0, u "java/lang/Math"), (1, .class_ 6), (1, u "java/lang/Object"), (0, u "<init>"), (0, u "()V"), (89, .class_ 100), (1, u "java/lang/Math$RandomNumberGeneratorHolder"), (71, u "negativeZeroFloatBits"), (0, u "J"), (2, u "negativeZeroDoubleBits"), (24, u "min"), (43, u "$assertionsDisabled"), (0, u "Z"), (88, u "(II)I"), (2, u "twoToTheDoubleScaleDown"), (0, u "D"), (4, u "twoToTheDoubleScaleUp"), (9, u "E"), (3, u "PI"), (2, u "TAU"), (2, u "DEGREES_TO_RADIANS"), (0, u "RADIANS_TO_DEGREES")] 94

def k20m0 : Method := { name := "<init>", desc := "()V", sig := { parameters := [], returnType := none }, accessFlags := 2, code := none }
def k20c1 : Code := { maxStack := 2, maxLocals := 2, code := jdk_29_method_69_code, exceptionTable := #[], attributes := #[] }
def k20m1 : Method := { name := "min", desc := "(II)I", sig := { parameters := [.int, .int], returnType := some .int }, accessFlags := 9, code := some k20c1 }
/-- java/lang/Math -/
def k20 : Class := { plain "java/lang/Math" (some 0) with
  accessFlags := 49
  interfaces := #[]
  cf := some (fileOf pool20 1 #[.nestMembers #[98]] #[{ accessFlags := 2, nameIndex := 7, descriptorIndex := 8, attributes := #[] }, { accessFlags := 9, nameIndex := 201, descriptorIndex := 335, attributes := #[] }] 49 4 #[] #[{ accessFlags := 25, nameIndex := 354, descriptorIndex := 339, attributes := #[] }, { accessFlags := 25, nameIndex := 358, descriptorIndex := 339, attributes := #[] }, { accessFlags := 25, nameIndex := 361, descriptorIndex := 339, attributes := #[] }, { accessFlags := 26, nameIndex := 364, descriptorIndex := 339, attributes := #[] }, { accessFlags := 26, nameIndex := 365, descriptorIndex := 339, attributes := #[] }, { accessFlags := 26, nameIndex := 172, descriptorIndex := 173, attributes := #[] }, { accessFlags := 26, nameIndex := 176, descriptorIndex := 173, attributes := #[] }, { accessFlags := 8, nameIndex := 344, descriptorIndex := 339, attributes := #[] }, { accessFlags := 8, nameIndex := 338, descriptorIndex := 339, attributes := #[] }, { accessFlags := 4120, nameIndex := 245, descriptorIndex := 246, attributes := #[] }])
  fields := #[{ name := "E", type := .double, accessFlags := 25, slot := 0, constantValue := 0 }, { name := "PI", type := .double, accessFlags := 25, slot := 1, constantValue := 0 }, { name := "TAU", type := .double, accessFlags := 25, slot := 2, constantValue := 0 }, { name := "DEGREES_TO_RADIANS", type := .double, accessFlags := 26, slot := 3, constantValue := 0 }, { name := "RADIANS_TO_DEGREES", type := .double, accessFlags := 26, slot := 4, constantValue := 0 }, { name := "negativeZeroFloatBits", type := .long, accessFlags := 26, slot := 5, constantValue := 0 }, { name := "negativeZeroDoubleBits", type := .long, accessFlags := 26, slot := 6, constantValue := 0 }, { name := "twoToTheDoubleScaleUp", type := .double, accessFlags := 8, slot := 7, constantValue := 0 }, { name := "twoToTheDoubleScaleDown", type := .double, accessFlags := 8, slot := 8, constantValue := 0 }, { name := "$assertionsDisabled", type := .boolean, accessFlags := 4120, slot := 9, constantValue := 0 }]
  methods := #[k20m0, k20m1]
  instanceTypes := #[]
  staticTypes := #[.double, .double, .double, .double, .double, .long, .long, .double, .double, .boolean]
  resolved := Array.replicate 460 none
  statics := none }

def pool21 : Array CpInfo := pool [(2, .class_ 4), (1, u "java/lang/Object"), (0, u "<init>"), (0, u "()V"), (1, .class_ 10), (1, u "java/lang/System"), (0, u "allowSecurityManager"), (0, u "I"), (16, u "cons"), (0, u "Ljava/io/Console;"), (77, .class_ 110), (1, u "java/lang/System$CallersHolder"), (43, u "initialErrStream"), (0, u "Ljava/io/PrintStream;"), (19, u "security"), (0, u "Ljava/lang/SecurityManager;"), (31, .class_ 209), (0, u "java/lang/System$1"), (7, u "props"), (0, u "Ljava/util/Properties;"), (2, u "lineSeparator"), (0, u "Ljava/lang/String;"), (96, .class_ 321), (1, u "java/lang/System$LoggerFinder"), (5, .class_ 328), (0, u "java/lang/System$Logger"), (67, u "err"), (2, u "out"), (91, u "notSupportedJnuEncoding"), (15, u "in"), (17, u "initialIn"), (0, u "Ljava/io/InputStream;"), (35, u "bootLayer"), (0, u "Ljava/lang/ModuleLayer;"), (99, .class_ 664), (0, u "java/lang/System$2"), (9, u "NEVER"), (2, u "MAYBE"), (49, u "arraycopy"), (0, u "(Ljava/lang/Object;ILjava/lang/Object;II)V"), (72, .class_ 802), (0, u "java/lang/System$Logger$Level")] 31

def k21m0 : Method := { name := "<init>", desc := "()V", sig := { parameters := [], returnType := none }, accessFlags := 2, code := none }
def k21m1 : Method := { name := "arraycopy", desc := "(Ljava/lang/Object;ILjava/lang/Object;II)V", sig := { parameters := [(.object "java/lang/Object"), .int, (.object "java/lang/Object"), .int, .int], returnType := none }, accessFlags := 265, code := none }
/-- java/lang/System -/
def k21 : Class := { plain "java/lang/System" (some 0) with
  accessFlags := 49
  interfaces := #[]
  cf := some (fileOf pool21 8 #[.nestMembers #[319, 327, 801, 108, 663, 208]] #[{ accessFlags := 2, nameIndex := 5, descriptorIndex := 6, attributes := #[] }, { accessFlags := 265, nameIndex := 727, descriptorIndex := 728, attributes := #[] }] 49 2 #[] #[{ accessFlags := 25, nameIndex := 507, descriptorIndex := 526, attributes := #[] }, { accessFlags := 25, nameIndex := 399, descriptorIndex := 155, attributes := #[] }, { accessFlags := 25, nameIndex := 396, descriptorIndex := 155, attributes := #[] }, { accessFlags := 10, nameIndex := 525, descriptorIndex := 526, attributes := #[] }, { accessFlags := 26, nameIndex := 674, descriptorIndex := 12, attributes := #[] }, { accessFlags := 26, nameIndex := 677, descriptorIndex := 12, attributes := #[] }, { accessFlags := 10, nameIndex := 11, descriptorIndex := 12, attributes := #[] }, { accessFlags := 74, nameIndex := 175, descriptorIndex := 176, attributes := #[] }, { accessFlags := 10, nameIndex := 491, descriptorIndex := 222, attributes := #[] }, { accessFlags := 74, nameIndex := 29, descriptorIndex := 30, attributes := #[] }, { accessFlags := 74, nameIndex := 154, descriptorIndex := 155, attributes := #[] }, { accessFlags := 10, nameIndex := 217, descriptorIndex := 218, attributes := #[] }, { accessFlags := 10, nameIndex := 221, descriptorIndex := 222, attributes := #[] }, { accessFlags := 8, nameIndex := 562, descriptorIndex := 563, attributes := #[] }])
  fields := #[{ name := "in", type := (.object "java/io/InputStream"), accessFlags := 25, slot := 0, constantValue := 0 }, { name := "out", type := (.object "java/io/PrintStream"), accessFlags := 25, slot := 1, constantValue := 0 }, { name := "err", type := (.object "java/io/PrintStream"), accessFlags := 25, slot := 2, constantValue := 0 }, { name := "initialIn", type := (.object "java/io/InputStream"), accessFlags := 10, slot := 3, constantValue := 0 }, { name := "NEVER", type := .int, accessFlags := 26, slot := 4, constantValue := 0 }, { name := "MAYBE", type := .int, accessFlags := 26, slot := 5, constantValue := 0 }, { name := "allowSecurityManager", type := .int, accessFlags := 10, slot := 6, constantValue := 0 }, { name := "security", type := (.object "java/lang/SecurityManager"), accessFlags := 74, slot := 7, constantValue := 0 }, { name := "notSupportedJnuEncoding", type := (.object "java/lang/String"), accessFlags := 10, slot := 8, constantValue := 0 }, { name := "cons", type := (.object "java/io/Console"), accessFlags := 74, slot := 9, constantValue := 0 }, { name := "initialErrStream", type := (.object "java/io/PrintStream"), accessFlags := 74, slot := 10, constantValue := 0 }, { name := "props", type := (.object "java/util/Properties"), accessFlags := 10, slot := 11, constantValue := 0 }, { name := "lineSeparator", type := (.object "java/lang/String"), accessFlags := 10, slot := 12, constantValue := 0 }, { name := "bootLayer", type := (.object "java/lang/ModuleLayer"), accessFlags := 8, slot := 13, constantValue := 0 }]
  methods := #[k21m0, k21m1]
  instanceTypes := #[]
  staticTypes := #[(.object "java/io/InputStream"), (.object "java/io/PrintStream"), (.object "java/io/PrintStream"), (.object "java/io/InputStream"), .int, .int, .int, (.object "java/lang/SecurityManager"), (.object "java/lang/String"), (.object "java/io/Console"), (.object "java/io/PrintStream"), (.object "java/util/Properties"), (.object "java/lang/String"), (.object "java/lang/ModuleLayer")]
  resolved := Array.replicate 834 none
  statics := none }

def pool22 : Array CpInfo := pool [(4, .class_ 6), (1, u "java/lang/Object"), (0, u "<init>"), (0, u "()V"), (5, .class_ 16), (1, u "java/lang/StringLatin1"), (104, u "$assertionsDisabled"), (0, u "Z"), (98, .class_ 223), (1, u "java/lang/StringLatin1$LinesSpliterator"), (166, .class_ 391), (0, u "java/lang/StringLatin1$CharsSpliterator")] 3

def k22m0 : Method := { name := "<init>", desc := "()V", sig := { parameters := [], returnType := none }, accessFlags := 0, code := none }
/-- java/lang/StringLatin1 -/
def k22 : Class := { plain "java/lang/StringLatin1" (some 0) with
  accessFlags := 48
  interfaces := #[]
  cf := some (fileOf pool22 14 #[.nestMembers #[390, 221]] #[{ accessFlags := 0, nameIndex := 7, descriptorIndex := 8, attributes := #[] }] 48 4 #[] #[{ accessFlags := 4120, nameIndex := 121, descriptorIndex := 122, attributes := #[] }])
  fields := #[{ name := "$assertionsDisabled", type := .boolean, accessFlags := 4120, slot := 0, constantValue := 0 }]
  methods := #[k22m0]
  instanceTypes := #[]
  staticTypes := #[.boolean]
  resolved := Array.replicate 395 none
  statics := none }

def pool23 : Array CpInfo := pool [(2, .class_ 4), (1, u "java/lang/Object"), (0, u "<init>"), (0, u "()V"), (17, .class_ 26), (1, u "jdk/internal/util/Preconditions"), (28, .class_ 56), (0, u "jdk/internal/util/Preconditions$4"), (57, .class_ 115), (0, u "jdk/internal/util/Preconditions$1"), (7, u "SIOOBE_FORMATTER"), (0, u "Ljava/util/function/BiFunction;"), (0, .class_ 126), (0, u "jdk/internal/util/Preconditions$2"), (3, u "AIOOBE_FORMATTER"), (0, .class_ 132), (0, u "jdk/internal/util/Preconditions$3"), (3, u "IOOBE_FORMATTER")] 57

def k23m0 : Method := { name := "<init>", desc := "()V", sig := { parameters := [], returnType := none }, accessFlags := 1, code := none }
/-- jdk/internal/util/Preconditions -/
def k23 : Class := { plain "jdk/internal/util/Preconditions" (some 0) with
  accessFlags := 33
  interfaces := #[]
  cf := some (fileOf pool23 24 #[.nestMembers #[55, 131, 125, 114]] #[{ accessFlags := 1, nameIndex := 5, descriptorIndex := 6, attributes := #[] }] 33 2 #[] #[{ accessFlags := 25, nameIndex := 123, descriptorIndex := 124, attributes := #[] }, { accessFlags := 25, nameIndex := 130, descriptorIndex := 124, attributes := #[] }, { accessFlags := 25, nameIndex := 136, descriptorIndex := 124, attributes := #[] }])
  fields := #[{ name := "SIOOBE_FORMATTER", type := (.object "java/util/function/BiFunction"), accessFlags := 25, slot := 0, constantValue := 0 }, { name := "AIOOBE_FORMATTER", type := (.object "java/util/function/BiFunction"), accessFlags := 25, slot := 1, constantValue := 0 }, { name := "IOOBE_FORMATTER", type := (.object "java/util/function/BiFunction"), accessFlags := 25, slot := 2, constantValue := 0 }]
  methods := #[k23m0]
  instanceTypes := #[]
  staticTypes := #[(.object "java/util/function/BiFunction"), (.object "java/util/function/BiFunction"), (.object "java/util/function/BiFunction")]
  resolved := Array.replicate 194 none
  statics := some 4 }

def pool24 : Array CpInfo := pool [(9, u "<init>"), (6, .class_ 18), (1, u "java/lang/Object"), (0, u "()V"), (1, .class_ 23), (1, u "jdk/internal/util/ArraysSupport"), (0, u "LOG2_ARRAY_LONG_INDEX_SCALE"), (0, u "I"), (2, u "U"), (0, u "Ljdk/internal/misc/Unsafe;"), (8, u "BIG_ENDIAN"), (0, u "Z"), (8, u "LOG2_BYTE_BIT_SIZE"), (4, u "LOG2_ARRAY_INT_INDEX_SCALE"), (54, u "JLA"), (0, u "Ljdk/internal/access/JavaLangAccess;"), (11, u "LOG2_ARRAY_BOOLEAN_INDEX_SCALE"), (9, u "LOG2_ARRAY_BYTE_INDEX_SCALE"), (5, u "LOG2_ARRAY_CHAR_INDEX_SCALE"), (5, u "LOG2_ARRAY_SHORT_INDEX_SCALE"), (18, u "LOG2_ARRAY_FLOAT_INDEX_SCALE"), (24, u "LOG2_ARRAY_DOUBLE_INDEX_SCALE"), (89, u "T_BOOLEAN"), (2, u "T_CHAR"), (1, u "T_FLOAT"), (1, u "T_DOUBLE"), (1, u "T_BYTE"), (1, u "T_SHORT"), (1, u "T_INT"), (1, u "T_LONG"), (1, u "SOFT_MAX_ARRAY_LENGTH")] 83

def k24m0 : Method := { name := "<init>", desc := "()V", sig := { parameters := [], returnType := none }, accessFlags := 2, code := none }
/-- jdk/internal/util/ArraysSupport -/
def k24 : Class := { plain "jdk/internal/util/ArraysSupport" (some 0) with
  accessFlags := 33
  interfaces := #[]
  cf := some (fileOf pool24 21 #[] #[{ accessFlags := 2, nameIndex := 9, descriptorIndex := 19, attributes := #[] }] 33 16 #[] #[{ accessFlags := 24, nameIndex := 28, descriptorIndex := 29, attributes := #[] }, { accessFlags := 26, nameIndex := 38, descriptorIndex := 39, attributes := #[] }, { accessFlags := 25, nameIndex := 121, descriptorIndex := 25, attributes := #[] }, { accessFlags := 25, nameIndex := 131, descriptorIndex := 25, attributes := #[] }, { accessFlags := 25, nameIndex := 137, descriptorIndex := 25, attributes := #[] }, { accessFlags := 25, nameIndex := 143, descriptorIndex := 25, attributes := #[] }, { accessFlags := 25, nameIndex := 53, descriptorIndex := 25, attributes := #[] }, { accessFlags := 25, nameIndex := 24, descriptorIndex := 25, attributes := #[] }, { accessFlags := 25, nameIndex := 162, descriptorIndex := 25, attributes := #[] }, { accessFlags := 25, nameIndex := 187, descriptorIndex := 25, attributes := #[] }, { accessFlags := 26, nameIndex := 48, descriptorIndex := 25, attributes := #[] }, { accessFlags := 25, nameIndex := 277, descriptorIndex := 25, attributes := #[] }, { accessFlags := 25, nameIndex := 280, descriptorIndex := 25, attributes := #[] }, { accessFlags := 25, nameIndex := 282, descriptorIndex := 25, attributes := #[] }, { accessFlags := 25, nameIndex := 284, descriptorIndex := 25, attributes := #[] }, { accessFlags := 25, nameIndex := 286, descriptorIndex := 25, attributes := #[] }, { accessFlags := 25, nameIndex := 288, descriptorIndex := 25, attributes := #[] }, { accessFlags := 25, nameIndex := 290, descriptorIndex := 25, attributes := #[] }, { accessFlags := 25, nameIndex := 292, descriptorIndex := 25, attributes := #[] }, { accessFlags := 26, nameIndex := 108, descriptorIndex := 109, attributes := #[] }, { accessFlags := 25, nameIndex := 294, descriptorIndex := 25, attributes := #[] }])
  fields := #[{ name := "U", type := (.object "jdk/internal/misc/Unsafe"), accessFlags := 24, slot := 0, constantValue := 0 }, { name := "BIG_ENDIAN", type := .boolean, accessFlags := 26, slot := 1, constantValue := 0 }, { name := "LOG2_ARRAY_BOOLEAN_INDEX_SCALE", type := .int, accessFlags := 25, slot := 2, constantValue := 0 }, { name := "LOG2_ARRAY_BYTE_INDEX_SCALE", type := .int, accessFlags := 25, slot := 3, constantValue := 0 }, { name := "LOG2_ARRAY_CHAR_INDEX_SCALE", type := .int, accessFlags := 25, slot := 4, constantValue := 0 }, { name := "LOG2_ARRAY_SHORT_INDEX_SCALE", type := .int, accessFlags := 25, slot := 5, constantValue := 0 }, { name := "LOG2_ARRAY_INT_INDEX_SCALE", type := .int, accessFlags := 25, slot := 6, constantValue := 0 }, { name := "LOG2_ARRAY_LONG_INDEX_SCALE", type := .int, accessFlags := 25, slot := 7, constantValue := 0 }, { name := "LOG2_ARRAY_FLOAT_INDEX_SCALE", type := .int, accessFlags := 25, slot := 8, constantValue := 0 }, { name := "LOG2_ARRAY_DOUBLE_INDEX_SCALE", type := .int, accessFlags := 25, slot := 9, constantValue := 0 }, { name := "LOG2_BYTE_BIT_SIZE", type := .int, accessFlags := 26, slot := 10, constantValue := 0 }, { name := "T_BOOLEAN", type := .int, accessFlags := 25, slot := 11, constantValue := 0 }, { name := "T_CHAR", type := .int, accessFlags := 25, slot := 12, constantValue := 0 }, { name := "T_FLOAT", type := .int, accessFlags := 25, slot := 13, constantValue := 0 }, { name := "T_DOUBLE", type := .int, accessFlags := 25, slot := 14, constantValue := 0 }, { name := "T_BYTE", type := .int, accessFlags := 25, slot := 15, constantValue := 0 }, { name := "T_SHORT", type := .int, accessFlags := 25, slot := 16, constantValue := 0 }, { name := "T_INT", type := .int, accessFlags := 25, slot := 17, constantValue := 0 }, { name := "T_LONG", type := .int, accessFlags := 25, slot := 18, constantValue := 0 }, { name := "JLA", type := (.object "jdk/internal/access/JavaLangAccess"), accessFlags := 26, slot := 19, constantValue := 0 }, { name := "SOFT_MAX_ARRAY_LENGTH", type := .int, accessFlags := 25, slot := 20, constantValue := 0 }]
  methods := #[k24m0]
  instanceTypes := #[]
  staticTypes := #[(.object "jdk/internal/misc/Unsafe"), .boolean, .int, .int, .int, .int, .int, .int, .int, .int, .int, .int, .int, .int, .int, .int, .int, .int, .int, (.object "jdk/internal/access/JavaLangAccess"), .int]
  resolved := Array.replicate 378 none
  statics := none }

/-- the primitive byte -/
def k25 : Class := { plain "byte" none with kind := .primitive 'B', accessFlags := 0x411 }
/-- [B -/
def k26 : Class := { plain "[B" (some 0) with kind := .array 25 .byte, interfaces := #[16, 2], accessFlags := 1041 }

/-- the primitive char -/
def k27 : Class := { plain "char" none with kind := .primitive 'C', accessFlags := 0x411 }
/-- [C -/
def k28 : Class := { plain "[C" (some 0) with kind := .array 27 .char, interfaces := #[16, 2], accessFlags := 1041 }

/-- the primitive int -/
def k29 : Class := { plain "int" none with kind := .primitive 'I', accessFlags := 0x411 }
/-- [I -/
def k30 : Class := { plain "[I" (some 0) with kind := .array 29 .int, interfaces := #[16, 2], accessFlags := 1041 }

def heap : Heap := #[{ cls := 7, slots := #[.long 0, .int 1, .null, .int 0, .null, .int 0, .int 0], vm := .statics 7 },
  { cls := 10, slots := #[.null, .null, .ref 5, .null, .null, .null], vm := .statics 10 },
  { cls := 14, slots := #[.ref 5, .null], vm := .statics 14 },
  { cls := 17, slots := #[.int 0, .int 8, .int 0, .int 1], vm := .statics 17 },
  { cls := 23, slots := #[.null, .null, .null], vm := .statics 23 },
  { cls := 14, slots := #[.null, .null, .null], vm := .none }]
def classes : Array Class := #[k0, k1, k2, k3, k4, k5, k6, k7, k8, k9, k10, k11, k12, k13, k14, k15, k16, k17, k18, k19, k20, k21, k22, k23, k24, k25, k26, k27, k28, k29, k30]
def interned : List (Array UInt16 × Addr) := []
def slotsUsed : Nat := 25
def theMethod : MethodId := ⟨1, 1⟩
def args0 : Array Value := #[.int 5, .int 3, .int 7]
def aboutOver (below : List Frame) : State where
  vm := { classes := classes, interned := interned.toArray }
  heap := heap
  slotsUsed := slotsUsed
  threads := #[{ frames := .invoking theMethod args0 :: below }]
def below0 : List Frame := [.native { method := ⟨0, 0⟩, args := #[] }]
def about1 : State := aboutOver below0
def p0 : Program := .bare "" "" ""
def e0 : Env := launch0.env 0 0 0
theorem w_frames : about1.frames = Frame.invoking theMethod args0 :: below0 := rfl
set_option maxRecDepth 65536 in
theorem w_args : argsFit about1.vm theMethod args0 = true := by decide +kernel
set_option maxRecDepth 65536 in
theorem w_heap : heapFits about1 = true := by decide +kernel
set_option maxRecDepth 65536 in
theorem w_runnable : about1.curStatus? = some .runnable := by decide +kernel
set_option maxRecDepth 65536 in
theorem w_alone : about1.alone = true := by decide +kernel
set_option maxRecDepth 65536 in
theorem w_named : about1.methodNamed? x = some theMethod := by decide +kernel
set_option maxRecDepth 65536 in
theorem w_hears : about1.hears theMethod below0 = true := by decide +kernel
set_option maxRecDepth 65536 in
theorem w_ripe : about1.ripe theMethod args0 below0 = true := by decide +kernel
theorem w_running : about1.status = .running := rfl
set_option maxRecDepth 65536 in
theorem w_room : about1.hasRoom e0.platform room_1 = true :=
  launch0.hasRoom_least _ room_1 (by decide +kernel) (by decide +kernel) (by decide +kernel) (by decide +kernel) (by decide +kernel) (by decide +kernel)
theorem allAtoms_all (ts : List Jvm.Cond) (a : Array Jvm.Value) (st : Jvm.State) : (allAtoms ts).before a st = ts.all (fun c => c.before a st) := by
  induction ts with
  | nil => rfl
  | cons c t ih =>
    show (Jvm.Cond.and c (allAtoms t)).before a st = _
    rw [Jvm.Cond.before_and, ih, List.all_cons]
def words1 : List Jvm.Cond := Jvm.Cond.code x code maxLocals ret :: tables_1
/-- a 'code' word, met by the world's own term for the bytes: nothing is compared byte by byte -/
theorem code_word {y : MethodName} {bytes : ByteArray} {mx : Nat} {rt : Option FieldType} {a : Array Value} {s : State} {m : MethodId} {meth : Method} {c : Code} (h1 : s.methodNamed? y = some m) (h2 : s.vm.method? m = some meth) (h3 : meth.code = some c) (h4 : c.code = bytes)
    (h5 : (c.maxLocals == mx && c.exceptionTable.isEmpty && decide (c.maxStack ≤ mostOperands) && decide (meth.sig.returnType = rt) && !meth.locks && decide (parseMethodDescriptor y.desc = some meth.sig)) = true) : (Jvm.Cond.code y bytes mx rt).before a s = true := by
  simp only [Bool.and_eq_true, beq_iff_eq, Bool.not_eq_true', decide_eq_true_eq] at h5
  obtain ⟨⟨⟨⟨⟨g1, g2⟩, g3⟩, g4⟩, g5⟩, g6⟩ := h5
  simp [Cond.before, Cond.holds, Cond.value, h1, h2, h3, h4, g1, g2, g3, g4, g5, g6]
def isCode : Jvm.Cond → Bool
  | .code _ _ _ _ => true
  | _ => false
theorem all_split {L : List Jvm.Cond} {P : Jvm.Cond → Bool} (h1 : L.all (fun c => isCode c || P c) = true) (h2 : ∀ c ∈ L.filter isCode, P c = true) : L.all P = true := by
  refine List.all_eq_true.mpr fun c hc => ?_
  have h := List.all_eq_true.mp h1 c hc
  rcases Bool.eq_false_or_eq_true (isCode c) with hi | hi
  · exact h2 c (List.mem_filter.mpr ⟨hc, hi⟩)
  · simpa [hi] using h
set_option maxRecDepth 65536 in
theorem w_c0 : (Jvm.Cond.code x code maxLocals ret).before args0 about1 = true := code_word (m := ⟨1, 1⟩) (meth := k1m1) (c := k1c1) (by decide +kernel) rfl rfl rfl (by decide +kernel)
set_option maxRecDepth 65536 in
theorem w_c1 : (Jvm.Cond.code ({ cls := "com/example/unseen/unseen/KeysUtf8PinLaw", name := "pick", desc := "(II)C" } : Jvm.MethodName) method_3_code (2 : Nat) (Option.some Jvm.ClassFile.FieldType.char)).before args0 about1 = true := code_word (m := ⟨1, 2⟩) (meth := k1m2) (c := k1c2) (by decide +kernel) rfl rfl rfl (by decide +kernel)
set_option maxRecDepth 65536 in
theorem w_c2 : (Jvm.Cond.code ({ cls := "java/lang/String", name := "<init>", desc := "([C)V" } : Jvm.MethodName) jdk_42_method_3_code (2 : Nat) (Option.none : Option Jvm.ClassFile.FieldType)).before args0 about1 = true := code_word (m := ⟨7, 1⟩) (meth := k7m1) (c := k7c1) (by decide +kernel) rfl rfl rfl (by decide +kernel)
set_option maxRecDepth 65536 in
theorem w_c3 : (Jvm.Cond.code ({ cls := "java/lang/String", name := "<init>", desc := "([CIILjava/lang/Void;)V" } : Jvm.MethodName) jdk_42_method_149_code (6 : Nat) (Option.none : Option Jvm.ClassFile.FieldType)).before args0 about1 = true := code_word (m := ⟨7, 7⟩) (meth := k7m7) (c := k7c7) (by decide +kernel) rfl rfl rfl (by decide +kernel)
set_option maxRecDepth 65536 in
theorem w_c4 : (Jvm.Cond.code ({ cls := "java/lang/Object", name := "<init>", desc := "()V" } : Jvm.MethodName) object_method_1_code (1 : Nat) (Option.none : Option Jvm.ClassFile.FieldType)).before args0 about1 = true := code_word (m := ⟨0, 0⟩) (meth := k0m0) (c := k0c0) (by decide +kernel) rfl rfl rfl (by decide +kernel)
set_option maxRecDepth 65536 in
theorem w_c5 : (Jvm.Cond.code ({ cls := "com/example/unseen/unseen/Keys", name := "utf8", desc := "(Ljava/lang/CharSequence;)[B" } : Jvm.MethodName) prog_8_method_2_code (1 : Nat) (Option.some (Jvm.ClassFile.FieldType.array Jvm.ClassFile.FieldType.byte))).before args0 about1 = true := code_word (m := ⟨8, 1⟩) (meth := k8m1) (c := k8c1) (by decide +kernel) rfl rfl rfl (by decide +kernel)
set_option maxRecDepth 65536 in
theorem w_c6 : (Jvm.Cond.code ({ cls := "java/util/Objects", name := "requireNonNull", desc := "(Ljava/lang/Object;Ljava/lang/String;)Ljava/lang/Object;" } : Jvm.MethodName) jdk_31_method_11_code (2 : Nat) (Option.some (Jvm.ClassFile.FieldType.object "java/lang/Object"))).before args0 about1 = true := code_word (m := ⟨9, 1⟩) (meth := k9m1) (c := k9c1) (by decide +kernel) rfl rfl rfl (by decide +kernel)
set_option maxRecDepth 65536 in
theorem w_c7 : (Jvm.Cond.code ({ cls := "java/lang/String", name := "toString", desc := "()Ljava/lang/String;" } : Jvm.MethodName) jdk_42_method_126_code (1 : Nat) (Option.some (Jvm.ClassFile.FieldType.object "java/lang/String"))).before args0 about1 = true := code_word (m := ⟨7, 6⟩) (meth := k7m6) (c := k7c6) (by decide +kernel) rfl rfl rfl (by decide +kernel)
set_option maxRecDepth 65536 in
theorem w_c8 : (Jvm.Cond.code ({ cls := "java/lang/String", name := "getBytes", desc := "(Ljava/nio/charset/Charset;)[B" } : Jvm.MethodName) jdk_42_method_64_code (2 : Nat) (Option.some (Jvm.ClassFile.FieldType.array Jvm.ClassFile.FieldType.byte))).before args0 about1 = true := code_word (m := ⟨7, 5⟩) (meth := k7m5) (c := k7c5) (by decide +kernel) rfl rfl rfl (by decide +kernel)
set_option maxRecDepth 65536 in
theorem w_c9 : (Jvm.Cond.code ({ cls := "java/lang/String", name := "coder", desc := "()B" } : Jvm.MethodName) jdk_42_method_152_code (1 : Nat) (Option.some Jvm.ClassFile.FieldType.byte)).before args0 about1 = true := code_word (m := ⟨7, 8⟩) (meth := k7m8) (c := k7c8) (by decide +kernel) rfl rfl rfl (by decide +kernel)
set_option maxRecDepth 65536 in
theorem w_c10 : (Jvm.Cond.code ({ cls := "java/lang/String", name := "encode", desc := "(Ljava/nio/charset/Charset;B[B)[B" } : Jvm.MethodName) jdk_42_method_18_code (3 : Nat) (Option.some (Jvm.ClassFile.FieldType.array Jvm.ClassFile.FieldType.byte))).before args0 about1 = true := code_word (m := ⟨7, 2⟩) (meth := k7m2) (c := k7c2) (by decide +kernel) rfl rfl rfl (by decide +kernel)
set_option maxRecDepth 65536 in
theorem w_c11 : (Jvm.Cond.code ({ cls := "java/lang/String", name := "encodeUTF8", desc := "(B[BZ)[B" } : Jvm.MethodName) jdk_42_method_46_code (9 : Nat) (Option.some (Jvm.ClassFile.FieldType.array Jvm.ClassFile.FieldType.byte))).before args0 about1 = true := code_word (m := ⟨7, 3⟩) (meth := k7m3) (c := k7c3) (by decide +kernel) rfl rfl rfl (by decide +kernel)
set_option maxRecDepth 65536 in
theorem w_c12 : (Jvm.Cond.code ({ cls := "java/lang/StringCoding", name := "hasNegatives", desc := "([BII)Z" } : Jvm.MethodName) jdk_123_method_2_code (3 : Nat) (Option.some Jvm.ClassFile.FieldType.boolean)).before args0 about1 = true := code_word (m := ⟨15, 1⟩) (meth := k15m1) (c := k15c1) (by decide +kernel) rfl rfl rfl (by decide +kernel)
set_option maxRecDepth 65536 in
theorem w_c13 : (Jvm.Cond.code ({ cls := "java/lang/StringCoding", name := "countPositives", desc := "([BII)I" } : Jvm.MethodName) jdk_123_method_3_code (5 : Nat) (Option.some Jvm.ClassFile.FieldType.int)).before args0 about1 = true := code_word (m := ⟨15, 2⟩) (meth := k15m2) (c := k15c2) (by decide +kernel) rfl rfl rfl (by decide +kernel)
set_option maxRecDepth 65536 in
theorem w_c14 : (Jvm.Cond.code ({ cls := "com/example/unseen/unseen/KeysUtf8PinLaw", name := "eq", desc := "([B[BII)Z" } : Jvm.MethodName) method_5_code (4 : Nat) (Option.some Jvm.ClassFile.FieldType.boolean)).before args0 about1 = true := code_word (m := ⟨1, 4⟩) (meth := k1m4) (c := k1c4) (by decide +kernel) rfl rfl rfl (by decide +kernel)
set_option maxRecDepth 65536 in
theorem w_c15 : (Jvm.Cond.code ({ cls := "java/lang/StringUTF16", name := "compress", desc := "([CII)[B" } : Jvm.MethodName) jdk_52_method_16_code (6 : Nat) (Option.some (Jvm.ClassFile.FieldType.array Jvm.ClassFile.FieldType.byte))).before args0 about1 = true := code_word (m := ⟨17, 7⟩) (meth := k17m7) (c := k17c7) (by decide +kernel) rfl rfl rfl (by decide +kernel)
set_option maxRecDepth 65536 in
theorem w_c16 : (Jvm.Cond.code ({ cls := "java/lang/StringUTF16", name := "compress", desc := "([CI[BII)I" } : Jvm.MethodName) jdk_52_method_21_code (7 : Nat) (Option.some Jvm.ClassFile.FieldType.int)).before args0 about1 = true := code_word (m := ⟨17, 8⟩) (meth := k17m8) (c := k17c8) (by decide +kernel) rfl rfl rfl (by decide +kernel)
set_option maxRecDepth 65536 in
theorem w_c17 : (Jvm.Cond.code ({ cls := "java/lang/StringUTF16", name := "toBytes", desc := "([CII)[B" } : Jvm.MethodName) jdk_52_method_14_code (5 : Nat) (Option.some (Jvm.ClassFile.FieldType.array Jvm.ClassFile.FieldType.byte))).before args0 about1 = true := code_word (m := ⟨17, 5⟩) (meth := k17m5) (c := k17c5) (by decide +kernel) rfl rfl rfl (by decide +kernel)
set_option maxRecDepth 65536 in
theorem w_c18 : (Jvm.Cond.code ({ cls := "java/lang/StringUTF16", name := "newBytesFor", desc := "(I)[B" } : Jvm.MethodName) jdk_52_method_2_code (1 : Nat) (Option.some (Jvm.ClassFile.FieldType.array Jvm.ClassFile.FieldType.byte))).before args0 about1 = true := code_word (m := ⟨17, 1⟩) (meth := k17m1) (c := k17c1) (by decide +kernel) rfl rfl rfl (by decide +kernel)
set_option maxRecDepth 65536 in
theorem w_c19 : (Jvm.Cond.code ({ cls := "java/lang/StringUTF16", name := "newBytesLength", desc := "(I)I" } : Jvm.MethodName) jdk_52_method_3_code (1 : Nat) (Option.some Jvm.ClassFile.FieldType.int)).before args0 about1 = true := code_word (m := ⟨17, 2⟩) (meth := k17m2) (c := k17c2) (by decide +kernel) rfl rfl rfl (by decide +kernel)
set_option maxRecDepth 65536 in
theorem w_c20 : (Jvm.Cond.code ({ cls := "java/lang/StringUTF16", name := "putChar", desc := "([BII)V" } : Jvm.MethodName) jdk_52_method_4_code (3 : Nat) (Option.none : Option Jvm.ClassFile.FieldType)).before args0 about1 = true := code_word (m := ⟨17, 3⟩) (meth := k17m3) (c := k17c3) (by decide +kernel) rfl rfl rfl (by decide +kernel)
set_option maxRecDepth 65536 in
theorem w_c21 : (Jvm.Cond.code ({ cls := "java/lang/StringUTF16", name := "getChar", desc := "([BI)C" } : Jvm.MethodName) jdk_52_method_5_code (2 : Nat) (Option.some Jvm.ClassFile.FieldType.char)).before args0 about1 = true := code_word (m := ⟨17, 4⟩) (meth := k17m4) (c := k17c4) (by decide +kernel) rfl rfl rfl (by decide +kernel)
set_option maxRecDepth 65536 in
theorem w_c22 : (Jvm.Cond.code ({ cls := "java/lang/StringUTF16", name := "coderFromArrayLen", desc := "([BI)B" } : Jvm.MethodName) jdk_52_method_15_code (2 : Nat) (Option.some Jvm.ClassFile.FieldType.byte)).before args0 about1 = true := code_word (m := ⟨17, 6⟩) (meth := k17m6) (c := k17c6) (by decide +kernel) rfl rfl rfl (by decide +kernel)
set_option maxRecDepth 65536 in
theorem w_c23 : (Jvm.Cond.code ({ cls := "java/lang/String", name := "encodeUTF8_UTF16", desc := "([BZ)[B" } : Jvm.MethodName) jdk_42_method_47_code (9 : Nat) (Option.some (Jvm.ClassFile.FieldType.array Jvm.ClassFile.FieldType.byte))).before args0 about1 = true := code_word (m := ⟨7, 4⟩) (meth := k7m4) (c := k7c4) (by decide +kernel) rfl rfl rfl (by decide +kernel)
set_option maxRecDepth 65536 in
theorem w_c24 : (Jvm.Cond.code ({ cls := "java/lang/Character", name := "isSurrogate", desc := "(C)Z" } : Jvm.MethodName) jdk_89_method_16_code (1 : Nat) (Option.some Jvm.ClassFile.FieldType.boolean)).before args0 about1 = true := code_word (m := ⟨18, 2⟩) (meth := k18m2) (c := k18c2) (by decide +kernel) rfl rfl rfl (by decide +kernel)
set_option maxRecDepth 65536 in
theorem w_c25 : (Jvm.Cond.code ({ cls := "java/lang/Character", name := "isHighSurrogate", desc := "(C)Z" } : Jvm.MethodName) jdk_89_method_14_code (1 : Nat) (Option.some Jvm.ClassFile.FieldType.boolean)).before args0 about1 = true := code_word (m := ⟨18, 0⟩) (meth := k18m0) (c := k18c0) (by decide +kernel) rfl rfl rfl (by decide +kernel)
set_option maxRecDepth 65536 in
theorem w_c26 : (Jvm.Cond.code ({ cls := "java/lang/Character", name := "isLowSurrogate", desc := "(C)Z" } : Jvm.MethodName) jdk_89_method_15_code (1 : Nat) (Option.some Jvm.ClassFile.FieldType.boolean)).before args0 about1 = true := code_word (m := ⟨18, 1⟩) (meth := k18m1) (c := k18c1) (by decide +kernel) rfl rfl rfl (by decide +kernel)
set_option maxRecDepth 65536 in
theorem w_c27 : (Jvm.Cond.code ({ cls := "java/util/Arrays", name := "copyOf", desc := "([BI)[B" } : Jvm.MethodName) jdk_65_method_121_code (3 : Nat) (Option.some (Jvm.ClassFile.FieldType.array Jvm.ClassFile.FieldType.byte))).before args0 about1 = true := code_word (m := ⟨19, 1⟩) (meth := k19m1) (c := k19c1) (by decide +kernel) rfl rfl rfl (by decide +kernel)
set_option maxRecDepth 65536 in
theorem w_c28 : (Jvm.Cond.code ({ cls := "java/lang/Math", name := "min", desc := "(II)I" } : Jvm.MethodName) jdk_29_method_69_code (2 : Nat) (Option.some Jvm.ClassFile.FieldType.int)).before args0 about1 = true := code_word (m := ⟨20, 1⟩) (meth := k20m1) (c := k20c1) (by decide +kernel) rfl rfl rfl (by decide +kernel)
set_option maxRecDepth 65536 in
theorem w_c29 : (Jvm.Cond.code ({ cls := "com/example/unseen/unseen/KeysUtf8PinLaw", name := "put", desc := "([BII)I" } : Jvm.MethodName) method_4_code (3 : Nat) (Option.some Jvm.ClassFile.FieldType.int)).before args0 about1 = true := code_word (m := ⟨1, 3⟩) (meth := k1m3) (c := k1c3) (by decide +kernel) rfl rfl rfl (by decide +kernel)
set_option maxRecDepth 65536 in
theorem w_c30 : (Jvm.Cond.code ({ cls := "java/lang/Character", name := "toCodePoint", desc := "(CC)I" } : Jvm.MethodName) jdk_89_method_19_code (2 : Nat) (Option.some Jvm.ClassFile.FieldType.int)).before args0 about1 = true := code_word (m := ⟨18, 3⟩) (meth := k18m3) (c := k18c3) (by decide +kernel) rfl rfl rfl (by decide +kernel)
def codes1 : List Jvm.Cond := [Jvm.Cond.code x code maxLocals ret, Jvm.Cond.code ({ cls := "com/example/unseen/unseen/KeysUtf8PinLaw", name := "pick", desc := "(II)C" } : Jvm.MethodName) method_3_code (2 : Nat) (Option.some Jvm.ClassFile.FieldType.char), Jvm.Cond.code ({ cls := "java/lang/String", name := "<init>", desc := "([C)V" } : Jvm.MethodName) jdk_42_method_3_code (2 : Nat) (Option.none : Option Jvm.ClassFile.FieldType), Jvm.Cond.code ({ cls := "java/lang/String", name := "<init>", desc := "([CIILjava/lang/Void;)V" } : Jvm.MethodName) jdk_42_method_149_code (6 : Nat) (Option.none : Option Jvm.ClassFile.FieldType), Jvm.Cond.code ({ cls := "java/lang/Object", name := "<init>", desc := "()V" } : Jvm.MethodName) object_method_1_code (1 : Nat) (Option.none : Option Jvm.ClassFile.FieldType), Jvm.Cond.code ({ cls := "com/example/unseen/unseen/Keys", name := "utf8", desc := "(Ljava/lang/CharSequence;)[B" } : Jvm.MethodName) prog_8_method_2_code (1 : Nat) (Option.some (Jvm.ClassFile.FieldType.array Jvm.ClassFile.FieldType.byte)), Jvm.Cond.code ({ cls := "java/util/Objects", name := "requireNonNull", desc := "(Ljava/lang/Object;Ljava/lang/String;)Ljava/lang/Object;" } : Jvm.MethodName) jdk_31_method_11_code (2 : Nat) (Option.some (Jvm.ClassFile.FieldType.object "java/lang/Object")), Jvm.Cond.code ({ cls := "java/lang/String", name := "toString", desc := "()Ljava/lang/String;" } : Jvm.MethodName) jdk_42_method_126_code (1 : Nat) (Option.some (Jvm.ClassFile.FieldType.object "java/lang/String")), Jvm.Cond.code ({ cls := "java/lang/String", name := "getBytes", desc := "(Ljava/nio/charset/Charset;)[B" } : Jvm.MethodName) jdk_42_method_64_code (2 : Nat) (Option.some (Jvm.ClassFile.FieldType.array Jvm.ClassFile.FieldType.byte)), Jvm.Cond.code ({ cls := "java/lang/String", name := "coder", desc := "()B" } : Jvm.MethodName) jdk_42_method_152_code (1 : Nat) (Option.some Jvm.ClassFile.FieldType.byte), Jvm.Cond.code ({ cls := "java/lang/String", name := "encode", desc := "(Ljava/nio/charset/Charset;B[B)[B" } : Jvm.MethodName) jdk_42_method_18_code (3 : Nat) (Option.some (Jvm.ClassFile.FieldType.array Jvm.ClassFile.FieldType.byte)), Jvm.Cond.code ({ cls := "java/lang/String", name := "encodeUTF8", desc := "(B[BZ)[B" } : Jvm.MethodName) jdk_42_method_46_code (9 : Nat) (Option.some (Jvm.ClassFile.FieldType.array Jvm.ClassFile.FieldType.byte)), Jvm.Cond.code ({ cls := "java/lang/StringCoding", name := "hasNegatives", desc := "([BII)Z" } : Jvm.MethodName) jdk_123_method_2_code (3 : Nat) (Option.some Jvm.ClassFile.FieldType.boolean), Jvm.Cond.code ({ cls := "java/lang/StringCoding", name := "countPositives", desc := "([BII)I" } : Jvm.MethodName) jdk_123_method_3_code (5 : Nat) (Option.some Jvm.ClassFile.FieldType.int), Jvm.Cond.code ({ cls := "com/example/unseen/unseen/KeysUtf8PinLaw", name := "eq", desc := "([B[BII)Z" } : Jvm.MethodName) method_5_code (4 : Nat) (Option.some Jvm.ClassFile.FieldType.boolean), Jvm.Cond.code ({ cls := "java/lang/StringUTF16", name := "compress", desc := "([CII)[B" } : Jvm.MethodName) jdk_52_method_16_code (6 : Nat) (Option.some (Jvm.ClassFile.FieldType.array Jvm.ClassFile.FieldType.byte)), Jvm.Cond.code ({ cls := "java/lang/StringUTF16", name := "compress", desc := "([CI[BII)I" } : Jvm.MethodName) jdk_52_method_21_code (7 : Nat) (Option.some Jvm.ClassFile.FieldType.int), Jvm.Cond.code ({ cls := "java/lang/StringUTF16", name := "toBytes", desc := "([CII)[B" } : Jvm.MethodName) jdk_52_method_14_code (5 : Nat) (Option.some (Jvm.ClassFile.FieldType.array Jvm.ClassFile.FieldType.byte)), Jvm.Cond.code ({ cls := "java/lang/StringUTF16", name := "newBytesFor", desc := "(I)[B" } : Jvm.MethodName) jdk_52_method_2_code (1 : Nat) (Option.some (Jvm.ClassFile.FieldType.array Jvm.ClassFile.FieldType.byte)), Jvm.Cond.code ({ cls := "java/lang/StringUTF16", name := "newBytesLength", desc := "(I)I" } : Jvm.MethodName) jdk_52_method_3_code (1 : Nat) (Option.some Jvm.ClassFile.FieldType.int), Jvm.Cond.code ({ cls := "java/lang/StringUTF16", name := "putChar", desc := "([BII)V" } : Jvm.MethodName) jdk_52_method_4_code (3 : Nat) (Option.none : Option Jvm.ClassFile.FieldType), Jvm.Cond.code ({ cls := "java/lang/StringUTF16", name := "getChar", desc := "([BI)C" } : Jvm.MethodName) jdk_52_method_5_code (2 : Nat) (Option.some Jvm.ClassFile.FieldType.char), Jvm.Cond.code ({ cls := "java/lang/StringUTF16", name := "coderFromArrayLen", desc := "([BI)B" } : Jvm.MethodName) jdk_52_method_15_code (2 : Nat) (Option.some Jvm.ClassFile.FieldType.byte), Jvm.Cond.code ({ cls := "java/lang/String", name := "encodeUTF8_UTF16", desc := "([BZ)[B" } : Jvm.MethodName) jdk_42_method_47_code (9 : Nat) (Option.some (Jvm.ClassFile.FieldType.array Jvm.ClassFile.FieldType.byte)), Jvm.Cond.code ({ cls := "java/lang/Character", name := "isSurrogate", desc := "(C)Z" } : Jvm.MethodName) jdk_89_method_16_code (1 : Nat) (Option.some Jvm.ClassFile.FieldType.boolean), Jvm.Cond.code ({ cls := "java/lang/Character", name := "isHighSurrogate", desc := "(C)Z" } : Jvm.MethodName) jdk_89_method_14_code (1 : Nat) (Option.some Jvm.ClassFile.FieldType.boolean), Jvm.Cond.code ({ cls := "java/lang/Character", name := "isLowSurrogate", desc := "(C)Z" } : Jvm.MethodName) jdk_89_method_15_code (1 : Nat) (Option.some Jvm.ClassFile.FieldType.boolean), Jvm.Cond.code ({ cls := "java/util/Arrays", name := "copyOf", desc := "([BI)[B" } : Jvm.MethodName) jdk_65_method_121_code (3 : Nat) (Option.some (Jvm.ClassFile.FieldType.array Jvm.ClassFile.FieldType.byte)), Jvm.Cond.code ({ cls := "java/lang/Math", name := "min", desc := "(II)I" } : Jvm.MethodName) jdk_29_method_69_code (2 : Nat) (Option.some Jvm.ClassFile.FieldType.int), Jvm.Cond.code ({ cls := "com/example/unseen/unseen/KeysUtf8PinLaw", name := "put", desc := "([BII)I" } : Jvm.MethodName) method_4_code (3 : Nat) (Option.some Jvm.ClassFile.FieldType.int), Jvm.Cond.code ({ cls := "java/lang/Character", name := "toCodePoint", desc := "(CC)I" } : Jvm.MethodName) jdk_89_method_19_code (2 : Nat) (Option.some Jvm.ClassFile.FieldType.int)]
set_option maxRecDepth 65536 in
theorem codes_eq : words1.filter isCode = codes1 := rfl
theorem w_codes : ∀ c ∈ words1.filter isCode, c.before args0 about1 = true := by
  rw [codes_eq]
  intro c hc
  simp only [codes1, List.mem_cons, List.not_mem_nil, or_false] at hc
  rcases hc with rfl | rfl | rfl | rfl | rfl | rfl | rfl | rfl | rfl | rfl | rfl | rfl | rfl | rfl | rfl | rfl | rfl | rfl | rfl | rfl | rfl | rfl | rfl | rfl | rfl | rfl | rfl | rfl | rfl | rfl | rfl
  · exact w_c0
  · exact w_c1
  · exact w_c2
  · exact w_c3
  · exact w_c4
  · exact w_c5
  · exact w_c6
  · exact w_c7
  · exact w_c8
  · exact w_c9
  · exact w_c10
  · exact w_c11
  · exact w_c12
  · exact w_c13
  · exact w_c14
  · exact w_c15
  · exact w_c16
  · exact w_c17
  · exact w_c18
  · exact w_c19
  · exact w_c20
  · exact w_c21
  · exact w_c22
  · exact w_c23
  · exact w_c24
  · exact w_c25
  · exact w_c26
  · exact w_c27
  · exact w_c28
  · exact w_c29
  · exact w_c30
set_option maxRecDepth 65536 in
theorem w_t1 : (words1.take 24).all (fun c => isCode c || c.before args0 about1) = true := by decide +kernel
set_option maxRecDepth 65536 in
theorem w_t2 : ((words1.drop 24).take 24).all (fun c => isCode c || c.before args0 about1) = true := by decide +kernel
set_option maxRecDepth 65536 in
theorem w_t3 : (((words1.drop 24).drop 24).take 24).all (fun c => isCode c || c.before args0 about1) = true := by decide +kernel
set_option maxRecDepth 65536 in
theorem w_t4 : ((((words1.drop 24).drop 24).drop 24).take 24).all (fun c => isCode c || c.before args0 about1) = true := by decide +kernel
set_option maxRecDepth 65536 in
theorem w_t5 : (((((words1.drop 24).drop 24).drop 24).drop 24).take 24).all (fun c => isCode c || c.before args0 about1) = true := by decide +kernel
set_option maxRecDepth 65536 in
theorem w_t6 : ((((((words1.drop 24).drop 24).drop 24).drop 24).drop 24).take 24).all (fun c => isCode c || c.before args0 about1) = true := by decide +kernel
set_option maxRecDepth 65536 in
theorem w_t7 : ((((((words1.drop 24).drop 24).drop 24).drop 24).drop 24).drop 24).all (fun c => isCode c || c.before args0 about1) = true := by decide +kernel
theorem w_tables : (allAtoms (Jvm.Cond.code x code maxLocals ret :: tables_1)).before args0 about1 = true := by
  rw [allAtoms_all]
  show words1.all (fun c => c.before args0 about1) = true
  refine all_split ?_ w_codes
  rw [← List.take_append_drop 24 words1, List.all_append, w_t1, ← List.take_append_drop 24 (words1.drop 24), List.all_append, w_t2, ← List.take_append_drop 24 ((words1.drop 24).drop 24), List.all_append, w_t3, ← List.take_append_drop 24 (((words1.drop 24).drop 24).drop 24), List.all_append, w_t4, ← List.take_append_drop 24 ((((words1.drop 24).drop 24).drop 24).drop 24), List.all_append, w_t5, ← List.take_append_drop 24 (((((words1.drop 24).drop 24).drop 24).drop 24).drop 24), List.all_append, w_t6, w_t7]
  rfl
set_option maxRecDepth 65536 in
theorem w_rest : rest_1_c.before args0 about1 = true := by decide +kernel
set_option maxRecDepth 65536 in
theorem w_case : (Jvm.Cond.and given_1 narrow_1).before args0 about1 = true := by decide +kernel
set_option maxRecDepth 65536 in
theorem w_consts : constsHeld consts_1 about1 := Jvm.Lit.constsHeldB_iff.mp (by decide +kernel)
theorem w_applies : (headSpec (Jvm.Cond.code x code maxLocals ret :: tables_1) room_1).applies x e0.platform about1 = true :=
  (Spec.applies_iff w_frames).mpr ⟨w_running, w_runnable, w_alone, w_named, w_hears, w_ripe, w_room, w_tables⟩
theorem atStart : AtStart classFile x code maxLocals ret World_1 tables_1 room_1 Calls_1 rest_1 Pre_1 launch0 p0 e0 about1 theMethod args0 below0 :=
  ⟨lists_1, trivial, launch0.admits_env _ _ _, launch0.least_env, fairChoices_fair.cas, fairChoices_fair.clock, w_frames, w_args, w_heap, w_applies, ⟨w_consts, trivial⟩, w_rest, w_case⟩
end start1
theorem witness_1 : WitnessClaimed_1 := ⟨start1.p0, start1.e0, start1.about1, start1.theMethod, start1.args0, start1.below0, start1.atStart⟩
end Jvm.Pilot.@@N@@
