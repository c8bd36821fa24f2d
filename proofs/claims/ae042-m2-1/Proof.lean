import JvmDerived
import JvmDerived.Pilot.@@N@@Statement
import JvmDerived.Pilot.@@N@@Code
set_option linter.unusedVariables false
set_option linter.unusedSimpArgs false
namespace Jvm.RoadKit
open Sem ClassFile Op Lib Jvm.Stand Jvm.Free Jvm.LawKit
section New
variable {p : Program} {l : Launch} {e : Env} {R : Room} {s : State} {m : MethodId} {args : Array Value} {below : List Frame} {meth : Method} {c : Code} {T : State} {locs : List Loc} {cells slots : Nat}
theorem retI (X : Stand p l e R s m args below meth c T locs cells slots) (hx : p.tables.exec = Jvm.exec) {pc : Nat} {Ls : Array Slot} {z : Int32} {rest : List Value} (hret : meth.sig.returnType = some .int) (hd : decode c.code pc = .ok (.ireturn, 1)) {fs : List Frame}
    (hl : ∀ (f : JFrame) (acts : List Action), f.method = m → f.locked = none → f.entered = [] → (doReturn e (T.setTop f) acts (some (.int z))).1 = T.setFrames fs) : Steps p.tables e below (T.setTop (mkF m pc Ls (.int z :: rest))) (T.setFrames fs) := by
  have hm' : T.vm.method? m = some meth := X.method'
  have hn : narrow .int (.int z) = .int z := rfl
  show Steps p.tables e below (T.setTop { method := m, pc := pc, locals := Ls, stack := _ :: rest, locked := none }) _
  jvm_step X.here [X.here.top, hx, hd, hm', hret, hn]
  first | (intro acts; rw [hl _ acts rfl rfl rfl]) | rw [hl _ _ rfl rfl rfl]
  exact Steps.refl _
end New
end Jvm.RoadKit
namespace Jvm.Pilot.@@N@@
open Jvm Jvm.ClassFile Sem Op Lib Jvm.Free Jvm.Stand Jvm.LawKit Jvm.RoadKit Bundle Jvm.Pilot.@@N@@.Jvm.D
set_option maxRecDepth 65536
set_option maxHeartbeats 40000000
abbrev HW (a0 : Array Value) (Z : State) : Prop := ∀ d ∈ tables_1, d.before a0 Z = true
abbrev MF (l : Launch) (Z : State) (y : MethodName) (b : ByteArray) (n : Nat) (t : Option FieldType) (ws : List Jvm.Cond) (R : Room) (A : Array Value) (h0 : Heap) (Q : Option Value → Heap → List Loc → Prop) : Prop := MetFree l y (head1 (Jvm.Cond.code y b n t :: ws) R) (fun a U => a = A ∧ Z.Warmed39 U.vm ∧ U.heap = h0) (fun _ _ _ _ _ => True) (fun _ U o U' => ∃ v L, o = .returned v ∧ Q v U'.heap L ∧ FrameEnd U o U' L R.cells R.slots)
abbrev MW (l : Launch) (Z : State) (y : MethodName) (b : ByteArray) (n : Nat) (t : Option FieldType) (ws : List Jvm.Cond) (R : Room) (A : Array Value) (h0 : Heap) (Q : Option Value → Heap → List Loc → Prop) : Prop := MetFree l y (head1 (Jvm.Cond.code y b n t :: ws) R) (fun a U => a = A ∧ Z.Warmed39 U.vm ∧ U.heap = h0) (fun _ _ _ _ _ => True) (fun _ U o U' => ∃ v L, o = .returned v ∧ Q v U'.heap L ∧ ReturnedEndW U o U' L R.cells R.slots)
theorem o_iload {tb : Tables} [Ours tb] {e : Env} {below : List Frame} {T target : State} {m : MethodId} {c : Code} {pc : Nat} {ls : Array Slot} {st : List Value} {k : Nat} {v : Int32} (j : At T m c below ∧ tb.exec = Jvm.exec) (hd : decode c.code pc = .ok (.iload k, 2)) (hl : ls[k]? = some (.val (.int v))) (hr : Steps tb e below (T.setTop (mkF m (pc + 2) ls (.int v :: st))) target) : Steps tb e below (T.setTop (mkF m pc ls st)) target := XS.iload (g := mkF m pc ls st) j.1 j.2 rfl hd hl hr
theorem o_iloadN {tb : Tables} [Ours tb] {e : Env} {below : List Frame} {T target : State} {m : MethodId} {c : Code} {pc : Nat} {ls : Array Slot} {st : List Value} {k : Fin 4} {v : Int32} (j : At T m c below ∧ tb.exec = Jvm.exec) (hd : decode c.code pc = .ok (.iload_n k, 1)) (hl : ls[k.val]? = some (.val (.int v))) (hr : Steps tb e below (T.setTop (mkF m (pc + 1) ls (.int v :: st))) target) : Steps tb e below (T.setTop (mkF m pc ls st)) target := XS.iloadN (g := mkF m pc ls st) j.1 j.2 rfl hd hl hr
theorem o_dload {tb : Tables} [Ours tb] {e : Env} {below : List Frame} {T target : State} {m : MethodId} {c : Code} {pc : Nat} {ls : Array Slot} {st : List Value} {k : Nat} {v : UInt64} (j : At T m c below ∧ tb.exec = Jvm.exec) (hd : decode c.code pc = .ok (.dload k, 2)) (hl : ls[k]? = some (.val (.double v))) (hr : Steps tb e below (T.setTop (mkF m (pc + 2) ls (.double v :: st))) target) : Steps tb e below (T.setTop (mkF m pc ls st)) target := XS.dload (g := mkF m pc ls st) j.1 j.2 rfl hd hl hr
theorem o_istore {tb : Tables} [Ours tb] {e : Env} {below : List Frame} {T target : State} {m : MethodId} {c : Code} {pc : Nat} {ls : Array Slot} {st : List Value} {k : Nat} {x : Int32} {l' : Array Slot} (j : At T m c below ∧ tb.exec = Jvm.exec) (hd : decode c.code pc = .ok (.istore k, 2)) (hl : storeLocals ls k (.int x) = some l') (hr : Steps tb e below (T.setTop (mkF m (pc + 2) l' st)) target) : Steps tb e below (T.setTop (mkF m pc ls (.int x :: st))) target := XS.istore (g := mkF m pc ls (.int x :: st)) j.1 j.2 rfl hd rfl hl hr
theorem o_istoreN {tb : Tables} [Ours tb] {e : Env} {below : List Frame} {T target : State} {m : MethodId} {c : Code} {pc : Nat} {ls : Array Slot} {st : List Value} {k : Fin 4} {x : Int32} {l' : Array Slot} (j : At T m c below ∧ tb.exec = Jvm.exec) (hd : decode c.code pc = .ok (.istore_n k, 1)) (hl : storeLocals ls k.val (.int x) = some l') (hr : Steps tb e below (T.setTop (mkF m (pc + 1) l' st)) target) : Steps tb e below (T.setTop (mkF m pc ls (.int x :: st))) target := XS.istoreN (g := mkF m pc ls (.int x :: st)) j.1 j.2 rfl hd rfl hl hr
theorem o_dstore {tb : Tables} [Ours tb] {e : Env} {below : List Frame} {T target : State} {m : MethodId} {c : Code} {pc : Nat} {ls : Array Slot} {st : List Value} {k : Nat} {x : UInt64} {l' : Array Slot} (j : At T m c below ∧ tb.exec = Jvm.exec) (hd : decode c.code pc = .ok (.dstore k, 2)) (hl : storeLocals ls k (.double x) = some l') (hr : Steps tb e below (T.setTop (mkF m (pc + 2) l' st)) target) : Steps tb e below (T.setTop (mkF m pc ls (.double x :: st))) target := XS.dstore (g := mkF m pc ls (.double x :: st)) j.1 j.2 rfl hd rfl hl hr
theorem o_aload {tb : Tables} [Ours tb] {e : Env} {below : List Frame} {T target : State} {m : MethodId} {c : Code} {pc : Nat} {ls : Array Slot} {st : List Value} {k : Nat} {v : Value} (j : At T m c below ∧ tb.exec = Jvm.exec) (hd : decode c.code pc = .ok (.aload k, 2)) (hl : ls[k]? = some (.val v)) (hv : v.isRef = true) (hr : Steps tb e below (T.setTop (mkF m (pc + 2) ls (v :: st))) target) : Steps tb e below (T.setTop (mkF m pc ls st)) target := XS.aload (g := mkF m pc ls st) j.1 j.2 rfl hd hl hv hr
theorem o_aloadN {tb : Tables} [Ours tb] {e : Env} {below : List Frame} {T target : State} {m : MethodId} {c : Code} {pc : Nat} {ls : Array Slot} {st : List Value} {k : Fin 4} {v : Value} (j : At T m c below ∧ tb.exec = Jvm.exec) (hd : decode c.code pc = .ok (.aload_n k, 1)) (hl : ls[k.val]? = some (.val v)) (hv : v.isRef = true) (hr : Steps tb e below (T.setTop (mkF m (pc + 1) ls (v :: st))) target) : Steps tb e below (T.setTop (mkF m pc ls st)) target := XS.aloadN (g := mkF m pc ls st) j.1 j.2 rfl hd hl hv hr
theorem o_astore {tb : Tables} [Ours tb] {e : Env} {below : List Frame} {T target : State} {m : MethodId} {c : Code} {pc : Nat} {ls : Array Slot} {st : List Value} {k : Nat} {x : Value} {l' : Array Slot} (j : At T m c below ∧ tb.exec = Jvm.exec) (hd : decode c.code pc = .ok (.astore k, 2)) (hv : x.isRef = true) (hl : storeLocals ls k x = some l') (hr : Steps tb e below (T.setTop (mkF m (pc + 2) l' st)) target) : Steps tb e below (T.setTop (mkF m pc ls (x :: st))) target := XS.astore (g := mkF m pc ls (x :: st)) j.1 j.2 rfl hd rfl hv hl hr
theorem o_iconstV {tb : Tables} [Ours tb] {e : Env} {below : List Frame} {T target : State} {m : MethodId} {c : Code} {pc : Nat} {ls : Array Slot} {st : List Value} {i : Int} (j : At T m c below ∧ tb.exec = Jvm.exec) (v : Int32) (hd : decode c.code pc = .ok (.iconst i, 1)) (hv : Int32.ofInt i = v) (hr : Steps tb e below (T.setTop (mkF m (pc + 1) ls (.int v :: st))) target) : Steps tb e below (T.setTop (mkF m pc ls st)) target := XT.iconstV (g := mkF m pc ls st) j.1 j.2 rfl v hd hv hr
theorem o_bipushV {tb : Tables} [Ours tb] {e : Env} {below : List Frame} {T target : State} {m : MethodId} {c : Code} {pc : Nat} {ls : Array Slot} {st : List Value} {i : Int} (j : At T m c below ∧ tb.exec = Jvm.exec) (v : Int32) (hd : decode c.code pc = .ok (.bipush i, 2)) (hv : (Int8.ofInt i).toInt32 = v) (hr : Steps tb e below (T.setTop (mkF m (pc + 2) ls (.int v :: st))) target) : Steps tb e below (T.setTop (mkF m pc ls st)) target := XT.bipushV (g := mkF m pc ls st) j.1 j.2 rfl v hd hv hr
theorem o_isub {tb : Tables} [Ours tb] {e : Env} {below : List Frame} {T target : State} {m : MethodId} {c : Code} {pc : Nat} {ls : Array Slot} {st : List Value} {x y : Int32} (j : At T m c below ∧ tb.exec = Jvm.exec) (hd : decode c.code pc = .ok (.isub, 1)) (hr : Steps tb e below (T.setTop (mkF m (pc + 1) ls (.int (x - y) :: st))) target) : Steps tb e below (T.setTop (mkF m pc ls (.int y :: .int x :: st))) target := XS.isub (g := mkF m pc ls (.int y :: .int x :: st)) j.1 j.2 rfl hd rfl hr
theorem o_imul {tb : Tables} [Ours tb] {e : Env} {below : List Frame} {T target : State} {m : MethodId} {c : Code} {pc : Nat} {ls : Array Slot} {st : List Value} {x y : Int32} (j : At T m c below ∧ tb.exec = Jvm.exec) (hd : decode c.code pc = .ok (.imul, 1)) (hr : Steps tb e below (T.setTop (mkF m (pc + 1) ls (.int (x * y) :: st))) target) : Steps tb e below (T.setTop (mkF m pc ls (.int y :: .int x :: st))) target := XS.imul (g := mkF m pc ls (.int y :: .int x :: st)) j.1 j.2 rfl hd rfl hr
theorem o_iand {tb : Tables} [Ours tb] {e : Env} {below : List Frame} {T target : State} {m : MethodId} {c : Code} {pc : Nat} {ls : Array Slot} {st : List Value} {x y : Int32} (j : At T m c below ∧ tb.exec = Jvm.exec) (hd : decode c.code pc = .ok (.iand, 1)) (hr : Steps tb e below (T.setTop (mkF m (pc + 1) ls (.int (x &&& y) :: st))) target) : Steps tb e below (T.setTop (mkF m pc ls (.int y :: .int x :: st))) target := XS.iand (g := mkF m pc ls (.int y :: .int x :: st)) j.1 j.2 rfl hd rfl hr
theorem o_iushr {tb : Tables} [Ours tb] {e : Env} {below : List Frame} {T target : State} {m : MethodId} {c : Code} {pc : Nat} {ls : Array Slot} {st : List Value} {x y : Int32} (j : At T m c below ∧ tb.exec = Jvm.exec) (hd : decode c.code pc = .ok (.iushr, 1)) (hr : Steps tb e below (T.setTop (mkF m (pc + 1) ls (.int (XT.ushr x y) :: st))) target) : Steps tb e below (T.setTop (mkF m pc ls (.int y :: .int x :: st))) target := XT.iushr (g := mkF m pc ls (.int y :: .int x :: st)) j.1 j.2 rfl hd rfl hr
theorem o_ineg {tb : Tables} [Ours tb] {e : Env} {below : List Frame} {T target : State} {m : MethodId} {c : Code} {pc : Nat} {ls : Array Slot} {st : List Value} {x : Int32} (j : At T m c below ∧ tb.exec = Jvm.exec) (hd : decode c.code pc = .ok (.ineg, 1)) (hr : Steps tb e below (T.setTop (mkF m (pc + 1) ls (.int (-x) :: st))) target) : Steps tb e below (T.setTop (mkF m pc ls (.int x :: st))) target := XS.ineg (g := mkF m pc ls (.int x :: st)) j.1 j.2 rfl hd rfl hr
theorem o_iincV {tb : Tables} [Ours tb] {e : Env} {below : List Frame} {T target : State} {m : MethodId} {c : Code} {pc : Nat} {ls : Array Slot} {st : List Value} {k : Nat} {cst : Int} {x : Int32} {l' : Array Slot} (j : At T m c below ∧ tb.exec = Jvm.exec) (v : Int32) (hd : decode c.code pc = .ok (.iinc k cst, 3)) (hv : Int32.ofInt cst = v) (hl : ls[k]? = some (.val (.int x))) (hl' : storeLocals ls k (.int (x + v)) = some l') (hr : Steps tb e below (T.setTop (mkF m (pc + 3) l' st)) target) : Steps tb e below (T.setTop (mkF m pc ls st)) target := XT.iincV (g := mkF m pc ls st) j.1 j.2 rfl v hd hv hl hl' hr
theorem o_i2dS {tb : Tables} [Ours tb] {e : Env} {below : List Frame} {T target : State} {m : MethodId} {c : Code} {pc : Nat} {ls : Array Slot} {st : List Value} {x : Int32} {v : UInt64} (j : At T m c below ∧ tb.exec = Jvm.exec) (hd : decode c.code pc = .ok (.i2d, 1)) (hv : FP.i2d x = v) (hr : Steps tb e below (T.setTop (mkF m (pc + 1) ls (.double v :: st))) target) : Steps tb e below (T.setTop (mkF m pc ls (.int x :: st))) target := XS.i2dS (g := mkF m pc ls (.int x :: st)) j.1 j.2 rfl hd rfl hv hr
theorem o_dnegS {tb : Tables} [Ours tb] {e : Env} {below : List Frame} {T target : State} {m : MethodId} {c : Code} {pc : Nat} {ls : Array Slot} {st : List Value} {x : UInt64} {v : UInt64} (j : At T m c below ∧ tb.exec = Jvm.exec) (hd : decode c.code pc = .ok (.dneg, 1)) (hv : FP.dneg x = v) (hr : Steps tb e below (T.setTop (mkF m (pc + 1) ls (.double v :: st))) target) : Steps tb e below (T.setTop (mkF m pc ls (.double x :: st))) target := XS.dnegS (g := mkF m pc ls (.double x :: st)) j.1 j.2 rfl hd rfl hv hr
theorem o_dcmpS {tb : Tables} [Ours tb] {e : Env} {below : List Frame} {T target : State} {m : MethodId} {c : Code} {pc : Nat} {ls : Array Slot} {st : List Value} {o : CmpOp} {x y : UInt64} {v : Int32} (j : At T m c below ∧ tb.exec = Jvm.exec) (hd : decode c.code pc = .ok (.dcmp o, 1)) (hv : cmpValue (FP.dcmp x y) o = v) (hr : Steps tb e below (T.setTop (mkF m (pc + 1) ls (.int v :: st))) target) : Steps tb e below (T.setTop (mkF m pc ls (.double y :: .double x :: st))) target := XS.dcmpS (g := mkF m pc ls (.double y :: .double x :: st)) j.1 j.2 rfl hd rfl hv hr
theorem o_goto {tb : Tables} [Ours tb] {e : Env} {below : List Frame} {T target : State} {m : MethodId} {c : Code} {pc : Nat} {ls : Array Slot} {st : List Value} {o : Int} {pc' : Nat}  (j : At T m c below ∧ tb.exec = Jvm.exec) (hd : decode c.code pc = .ok (.goto o, 3)) (hr : Steps tb e below (T.setTop (mkF m pc' ls st)) target) (ho : 0 ≤ (pc : Int) + o := by decide) (hp : ((pc : Int) + o).toNat = pc' := by decide) : Steps tb e below (T.setTop (mkF m pc ls st)) target := XS.goto (g := mkF m pc ls st) j.1 j.2 rfl rfl hd ho hp hr
theorem o_ifYes {tb : Tables} [Ours tb] {e : Env} {below : List Frame} {T target : State} {m : MethodId} {c : Code} {pc : Nat} {ls : Array Slot} {st : List Value} {o : Int} {pc' : Nat} {cd : ClassFile.Cond} {x : Int32} (j : At T m c below ∧ tb.exec = Jvm.exec) (hd : decode c.code pc = .ok (.ifCond cd o, 3)) (hc : ifCond.holds cd x = true) (hr : Steps tb e below (T.setTop (mkF m pc' ls st)) target) (ho : 0 ≤ (pc : Int) + o := by decide) (hp : ((pc : Int) + o).toNat = pc' := by decide) : Steps tb e below (T.setTop (mkF m pc ls (.int x :: st))) target := XS.ifYes (g := mkF m pc ls (.int x :: st)) j.1 j.2 rfl rfl hd rfl hc ho hp hr
theorem o_ifNo {tb : Tables} [Ours tb] {e : Env} {below : List Frame} {T target : State} {m : MethodId} {c : Code} {pc : Nat} {ls : Array Slot} {st : List Value} {o : Int} {cd : ClassFile.Cond} {x : Int32} (j : At T m c below ∧ tb.exec = Jvm.exec) (hd : decode c.code pc = .ok (.ifCond cd o, 3)) (hc : ifCond.holds cd x = false) (hr : Steps tb e below (T.setTop (mkF m (pc + 3) ls st)) target) : Steps tb e below (T.setTop (mkF m pc ls (.int x :: st))) target := XS.ifNo (g := mkF m pc ls (.int x :: st)) j.1 j.2 rfl hd rfl hc hr
theorem o_icmpYes {tb : Tables} [Ours tb] {e : Env} {below : List Frame} {T target : State} {m : MethodId} {c : Code} {pc : Nat} {ls : Array Slot} {st : List Value} {o : Int} {pc' : Nat} {cd : ClassFile.Cond} {x y : Int32} (j : At T m c below ∧ tb.exec = Jvm.exec) (hd : decode c.code pc = .ok (.if_icmp cd o, 3)) (hc : if_icmp.holds cd x y = true) (hr : Steps tb e below (T.setTop (mkF m pc' ls st)) target) (ho : 0 ≤ (pc : Int) + o := by decide) (hp : ((pc : Int) + o).toNat = pc' := by decide) : Steps tb e below (T.setTop (mkF m pc ls (.int y :: .int x :: st))) target := XS.icmpYes (g := mkF m pc ls (.int y :: .int x :: st)) j.1 j.2 rfl rfl hd rfl hc ho hp hr
theorem o_icmpNo {tb : Tables} [Ours tb] {e : Env} {below : List Frame} {T target : State} {m : MethodId} {c : Code} {pc : Nat} {ls : Array Slot} {st : List Value} {o : Int} {cd : ClassFile.Cond} {x y : Int32} (j : At T m c below ∧ tb.exec = Jvm.exec) (hd : decode c.code pc = .ok (.if_icmp cd o, 3)) (hc : if_icmp.holds cd x y = false) (hr : Steps tb e below (T.setTop (mkF m (pc + 3) ls st)) target) : Steps tb e below (T.setTop (mkF m pc ls (.int y :: .int x :: st))) target := XS.icmpNo (g := mkF m pc ls (.int y :: .int x :: st)) j.1 j.2 rfl hd rfl hc hr
def own_b (x : Int32) : Int32 := x.toInt8.toInt32
def own_i2c (x : Int32) : Int32 := x.toUInt32.toUInt16.toUInt32.toInt32

section Og
variable {p : Program} {l : Launch} {e : Env} {R : Room} {s : State} {m : MethodId} {args : Array Value} {below : List Frame} {meth : Method} {c : Code} {T : State} {locs : List Loc} {cells slots : Nat} {Z : State} {a0 : Array Value} {h : Heap} {own : String} {index pc : Nat} {ls : Array Slot} {stk rest argsL : List Value} {P : Outcome → State → Prop}
  {y z : MethodName} {bytes : ByteArray} {maxL : Nat} {ret r : Option FieldType} {ps : List FieldType} {rm : Room} {Q : Option Value → Heap → List Loc → Prop} {W : Nat} {a : Addr} {vm0 : Vm} {k0 : Nat}
def OG (tb : Tables) (e : Env) (below : List Frame) (P : Outcome → State → Prop) (A : State) : Prop := ∃ s₂ o, Steps tb e below A s₂ ∧ s₂.status = .running ∧ Ended s₂ below o ∧ P o s₂
theorem og {tb : Tables} {A B : State} (h : ∀ t, Steps tb e below B t → Steps tb e below A t) (k : OG tb e below P B) : OG tb e below P A := by
  obtain ⟨s2, o, h1, h2⟩ := k
  exact ⟨s2, o, h _ h1, h2⟩
theorem wd (hw : ∀ d ∈ tables_1, d.before a0 Z = true) (i : Nat) {d : Jvm.Cond} (q : tables_1[i]? = some d) : d.before a0 Z = true := hw _ (List.mem_of_getElem? q)
theorem og_start {ws : List Jvm.Cond} {A : Array Value} {h0 : Heap} {Q : Array Value → State → Outcome → State → Prop} (hpl : plainFor y = true)
    (body : ∀ p e s m below meth c s₁, BodyLoose p l y (head1 (Cond.code y bytes maxL ret :: ws) R) bytes maxL ret e s m A below meth c s₁ → p.tables.exec = Jvm.exec → c.code = bytes → c.maxLocals = maxL → Z.Warmed39 s.vm → s.vm.findClass y.cls = some m.cls → meth.name = y.name → Stand p l e R s m A below meth c s₁ [] 0 0 → s₁.heap = h0 → OG p.tables e below (fun o u => Q A s o u) (s₁.setTop (entryFrame m A maxL))) :
    MetFree l y (head1 (Cond.code y bytes maxL ret :: ws) R) (fun a U => a = A ∧ Z.Warmed39 U.vm ∧ U.heap = h0) (fun _ _ _ _ _ => True) Q := by
  refine MetFree.of_bodySF hpl hisR ?_
  intro p e s m args below meth c s₁ Bd hml0 hP hK
  obtain ⟨rfl, hZ, hh⟩ := hP
  exact body p e s m below meth c s₁ Bd Bd.exec Bd.bytes hml0 hZ (findClass_of_methodNamed Bd.named) (name_of_methodNamed Bd.named Bd.method).1 (Stand.of_body Bd) (by rw [← hh, Bd.state]; rfl)
theorem og_startW {ws : List Jvm.Cond} {A : Array Value} {h0 : Heap} {Q : Array Value → State → Outcome → State → Prop} (hpl : plainFor y = true)
    (body : ∀ p e s m below meth c s₁, BodyLoose p l y (head1 (Cond.code y bytes maxL ret :: ws) R) bytes maxL ret e s m A below meth c s₁ → p.tables.exec = Jvm.exec → c.code = bytes → c.maxLocals = maxL → Z.Warmed39 (s.setVm s.vm).vm → (s.setVm s.vm).vm.findClass y.cls = some m.cls → meth.name = y.name → Stand p l e R (s.setVm s.vm) m A below meth c s₁ [] 0 0 → s₁.heap = h0 → s.Since s.vm h0.size → h0.size ≤ h0.size → OG p.tables e below (fun o u => Q A s o u) (s₁.setTop (entryFrame m A maxL))) :
    MetFree l y (head1 (Cond.code y bytes maxL ret :: ws) R) (fun a U => a = A ∧ Z.Warmed39 U.vm ∧ U.heap = h0) (fun _ _ _ _ _ => True) Q := by
  refine MetFree.of_bodySF hpl hisR ?_
  intro p e s m args below meth c s₁ Bd hml0 hP hK
  obtain ⟨rfl, hZ, hh⟩ := hP
  exact body p e s m below meth c s₁ Bd Bd.exec Bd.bytes hml0 hZ (findClass_of_methodNamed Bd.named) (name_of_methodNamed Bd.named Bd.method).1 (Stand.of_body Bd) (by rw [← hh, Bd.state]; rfl) ((State.WarmedH.refl s).since _) (Nat.le_refl _)
theorem og_startH {EL : List (String × Nat)} {ws : List Jvm.Cond} {A : Array Value} {h0 : Heap} {Q : Array Value → State → Outcome → State → Prop} (hpl : plainFor y = true)
    (body : ∀ p e s m below meth c s₁, BodyLoose p l y (head1 (Cond.code y bytes maxL ret :: ws) R) bytes maxL ret e s m A below meth c s₁ → p.tables.exec = Jvm.exec → c.code = bytes → c.maxLocals = maxL → Z.Warmed39 (s.setVm s.vm).vm → (s.setVm s.vm).vm.findClass y.cls = some m.cls → meth.name = y.name → Stand p l e R (s.setVm s.vm) m A below meth c s₁ [] 0 0 → s₁.heap = h0 → s.Since s.vm h0.size → h0.size ≤ h0.size → CHv Z EL s.vm h0 → OG p.tables e below (fun o u => Q A s o u) (s₁.setTop (entryFrame m A maxL))) :
    MetFree l y (head1 (Cond.code y bytes maxL ret :: ws) R) (fun a U => a = A ∧ Z.Warmed39 U.vm ∧ U.heap = h0 ∧ CHv Z EL U.vm h0) (fun _ _ _ _ _ => True) Q := by
  refine MetFree.of_bodySF hpl hisR ?_
  intro p e s m args below meth c s₁ Bd hml0 hP hK
  obtain ⟨rfl, hZ, hh, hC⟩ := hP
  exact body p e s m below meth c s₁ Bd Bd.exec Bd.bytes hml0 hZ (findClass_of_methodNamed Bd.named) (name_of_methodNamed Bd.named Bd.method).1 (Stand.of_body Bd) (by rw [← hh, Bd.state]; rfl) ((State.WarmedH.refl s).since _) (Nat.le_refl _) hC
theorem g_getF {R0 n d : String} {v : Value} (X : Stand p l e R s m args below meth c T locs cells slots) (hx : p.tables.exec = Jvm.exec) (hZ : Z.Warmed39 s.vm) (hown : s.vm.findClass own = some m.cls) (w : (Cond.fieldLink own index R0 n d).before a0 Z = true) (eT : T.heap = h) (F : Fld Z h a R0 n d v) (hd : decode c.code pc = .ok (.getfield index, 3))
    (k : ∀ T', Stand p l e R s m args below meth c T' locs cells slots → T'.heap = h → OG p.tables e below P (T'.setTop (mkF m (pc + 3) ls (v :: rest)))) : OG p.tables e below P (T.setTop (mkF m pc ls (.ref a :: rest))) := by
  obtain ⟨T', X', e', st⟩ := getF (host := "") X hx hZ hown (Or.inl w) Via.refl eT F (g := mkF m pc ls (.ref a :: rest)) rfl rfl hd
  exact og st (k T' X' e')
theorem g_putF {R0 n d C : String} {kk : Nat} {ty : FieldType} {v old : Value} (X : Stand p l e R s m args below meth c T locs cells slots) (hx : p.tables.exec = Jvm.exec) (hZ : Z.Warmed39 s.vm) (hown : s.vm.findClass own = some m.cls) (w : (Cond.fieldLink own index R0 n d).before a0 Z = true) (eT : T.heap = h) (F : Fld Z h a R0 n d old) (E : Exa Z h a C)
    (L : (Cond.lays C R0 n d).before a0 Z = true ∨ ((Cond.laysFinal C R0 n d).before a0 Z = true ∧ own = R0 ∧ meth.name = "<init>")) (wi : (Cond.instantiable C kk).before a0 Z = true) (hty : parseFieldDescriptor d = some ty) (hn : narrow ty v = v) (hf : fits ty v = true) (hd : decode c.code pc = .ok (.putfield index, 3))
    (k : ∀ T' h', Stand p l e R s m args below meth c T' (locs ++ [⟨a, Jvm.RoadKit.slotOf Z R0 n d⟩]) cells slots → T'.heap = h' → Wr h h' a (Jvm.RoadKit.slotOf Z R0 n d) v → OG p.tables e below P (T'.setTop (mkF m (pc + 3) ls rest))) : OG p.tables e below P (T.setTop (mkF m pc ls (v :: .ref a :: rest))) := by
  obtain ⟨T', h', X', e', W', st⟩ := putF (host := "") X hx hZ hown (Or.inl w) Via.refl eT F E L wi hty hn hf (g := mkF m pc ls (v :: .ref a :: rest)) rfl rfl hd
  exact og st (k T' h' X' e' W')
theorem g_getS {R0 n d : String} {v : Value} (X : Stand p l e R s m args below meth c T locs cells slots) (hx : p.tables.exec = Jvm.exec) (hZ : Z.Warmed39 s.vm) (hown : s.vm.findClass own = some m.cls) (w : (Cond.fieldLink own index R0 n d).before a0 Z = true) (eT : T.heap = h) (F : Sta Z h R0 n d v) (hd : decode c.code pc = .ok (.getstatic index, 3))
    (k : ∀ T', Stand p l e R s m args below meth c T' locs cells slots → T'.heap = h → OG p.tables e below P (T'.setTop (mkF m (pc + 3) ls (v :: stk)))) : OG p.tables e below P (T.setTop (mkF m pc ls stk)) := by
  obtain ⟨T', X', e', st⟩ := getS2 (host := "") X hx hZ hown (Or.inl w) Via.refl eT F (g := mkF m pc ls stk) rfl hd
  exact og st (k T' X' e')
theorem g_newO {C : String} {n : Nat} (X : Stand p l e R s m args below meth c T locs cells slots) (hx : p.tables.exec = Jvm.exec) (hZ : Z.Warmed39 s.vm) (hown : s.vm.findClass own = some m.cls) (w : (Cond.classLink own index C).before a0 Z = true) (wi : (Cond.instantiable C n).before a0 Z = true) (wz : (Cond.initialized C).before a0 Z = true) (eT : T.heap = h) (hd : decode c.code pc = .ok (.new index, 3)) (hc : cells + 1 ≤ R.cells) (hl : slots + n ≤ R.slots)
    (k : ∀ T' h' a, a = h.size → Stand p l e R s m args below meth c T' locs (cells + 1) (slots + n) → T'.heap = h' → Ext h h' → Exa Z h' a C → (∀ {O nm d : String} {ty : FieldType}, Laid Z a0 C O nm d → parseFieldDescriptor d = some ty → Fld Z h' a O nm d (defaultValue ty)) → OG p.tables e below P (T'.setTop (mkF m (pc + 3) ls (.ref a :: stk)))) : OG p.tables e below P (T.setTop (mkF m pc ls stk)) := by
  obtain ⟨T', h', X', e', E, A, D, -, st⟩ := newO X hx hZ hown w wi wz eT (g := mkF m pc ls stk) rfl hd hc hl
  exact og st (k T' h' _ rfl X' e' E A D)
theorem g_newP {aty : ArrayType} {n : Int32} {cap : Nat} {ad : String} {ty : FieldType} (X : Stand p l e R s m args below meth c T locs cells slots) (hx : p.tables.exec = Jvm.exec) (hZ : Z.Warmed39 s.vm) (hty : newarray.typeOf aty = ty) (w : (Cond.arrayClass ty).before a0 Z = true) (eT : T.heap = h) (hd : decode c.code pc = .ok (.newarray aty, 2)) (hn : ¬ n < 0) (hcap : n.toNatClampNeg ≤ cap) (hb : cap * 8 ≤ 536870912) (hc : cells + 1 ≤ R.cells) (hl : slots + cap ≤ R.slots) (had : "[" ++ ty.toString = ad)
    (k : ∀ T' h' a q, a = h.size → Stand p l e R s m args below meth c T' locs (cells + 1) (slots + cap) → T'.heap = h' → Ext h h' → Arv Z h' a q ty n [] (defaultValue ty) → Exa Z h' a ad → OG p.tables e below P (T'.setTop (mkF m (pc + 2) ls (.ref a :: rest)))) : OG p.tables e below P (T.setTop (mkF m pc ls (.int n :: rest))) := by
  subst hty
  obtain ⟨T', h', q, X', e', E, A, D, st⟩ := newPE X hx hZ w eT (g := mkF m pc ls (.int n :: rest)) rfl hd rfl hn hcap hb hc hl had
  exact og st (k T' h' _ q rfl X' e' E (Arv.new A hn) D)
theorem g_initO (X : Stand p l e R s m args below meth c T locs cells slots) (hx : p.tables.exec = Jvm.exec) (hZ : Z.Warmed39 s.vm) (hown : s.vm.findClass own = some m.cls) (w1 : (Cond.methodLink own index Lib.objectInit).before a0 Z = true) (w2 : (Cond.instanceMethod Lib.objectInit).before a0 Z = true) (w3 : (Cond.code Lib.objectInit ⟨#[0xb1]⟩ 1 none).before a0 Z = true) (eT : T.heap = h) (hml : ls.size = c.maxLocals) (hd : decode c.code pc = .ok (.invokespecial index, 3)) (hf : 1 ≤ R.frames) (hW : (rest.map fun v => v.category).sum = W) (hl : W + 12 ≤ R.locals)
    (k : ∀ T', Stand p l e R s m args below meth c T' locs cells slots → T'.heap = h → OG p.tables e below P (T'.setTop (mkF m (pc + 3) ls rest))) : OG p.tables e below P (T.setTop (mkF m pc ls (.ref a :: rest))) := by
  obtain ⟨T', X', e', st⟩ := initO X hx hZ hown w1 w2 w3 eT (g := mkF m pc ls (.ref a :: rest)) rfl hml rfl hd hf (W := W) (by rw [← hW]; exact Nat.le_of_eq (Nat.zero_add _)) hl
  exact og st (k T' X' e')
theorem g_callS (X : Stand p l e R s m args below meth c T locs cells slots) (hx : p.tables.exec = Jvm.exec) (hZ : Z.Warmed39 s.vm) (hown : s.vm.findClass own = some m.cls) (w1 : (Cond.methodLink own index y).before a0 Z = true) (w2 : (Cond.static y).before a0 Z = true) (w3 : (Cond.initialized y.cls).before a0 Z = true) (w4 : (Cond.code y bytes maxL ret).before a0 Z = true) (hy : y.cls ≠ "java/lang/invoke/MethodHandle" ∧ y.cls ≠ "java/lang/invoke/VarHandle")
    (hM : MetFree l y (head1 [Cond.code y bytes maxL ret] rm) (fun a U => a = argsL.toArray ∧ Z.Warmed39 U.vm ∧ U.heap = h) (fun _ _ _ _ _ => True) (fun _ U o U' => ∃ v L, o = .returned v ∧ Q v U'.heap L ∧ FrameEnd U o U' L rm.cells rm.slots)) (eT : T.heap = h) (hml : ls.size = c.maxLocals) (hps : parseMethodDescriptor y.desc = some ⟨ps, r⟩) (hlen : argsL.length = ps.length) (hst : stk = argsL.reverse ++ rest) (hW : (rest.map fun v => v.category).sum = W) (hd : decode c.code pc = .ok (.invokestatic index, 3))
    (hf : rm.frames + 1 ≤ R.frames) (hl : W + (maxL + 11) + rm.locals ≤ R.locals) (hc : cells + rm.cells ≤ R.cells) (hs : slots + rm.slots ≤ R.slots)
    (k : ∀ v T' L, Q v T'.heap L → Stand p l e R s m args below meth c T' (locs ++ L) (cells + rm.cells) (slots + rm.slots) → OG p.tables e below P (T'.setTop (mkF m (pc + 3) ls (v.toList ++ rest)))) : OG p.tables e below P (T.setTop (mkF m pc ls stk)) := by
  obtain ⟨v, _, ⟨T', L', c', n'⟩, -, X', ⟨L, hQ, l1, y1, z1⟩, st⟩ := Jvm.LawKit.callS X hx (y := y) hown (mvT hZ w1) (mvT hZ w2) (mvT hZ w3) (mvT hZ w4) hy (backOf (W := W) hM hZ w4 w3 hf hl) (g := mkF m pc ls stk) rfl hml (argsL := argsL) (rest := rest) (lenOf hps hlen) hst (by rw [← hW]; exact Nat.le_of_eq (Nat.zero_add _)) hd (fun _ _ => ⟨rfl, eT, hc, hs⟩)
  dsimp only [Pt.U, Pt.locs, Pt.cells, Pt.slots] at X' l1 y1 z1 st hQ
  subst l1 y1 z1
  exact og st (k v T' L hQ X')
theorem g_callI (X : Stand p l e R s m args below meth c T locs cells slots) (hx : p.tables.exec = Jvm.exec) (hZ : Z.Warmed39 s.vm) (hown : s.vm.findClass own = some m.cls) (hy1 : y.name = "<init>") (w1 : (Cond.methodLink own index y).before a0 Z = true) (w2 : (Cond.instanceMethod y).before a0 Z = true) (w3 : (Cond.initialized y.cls).before a0 Z = true) (w4 : (Cond.code y bytes maxL none).before a0 Z = true) (hy : y.cls ≠ "java/lang/invoke/MethodHandle" ∧ y.cls ≠ "java/lang/invoke/VarHandle")
    (hM : MetFree l y (head1 [Cond.code y bytes maxL none] rm) (fun b U => b = (.ref a :: argsL).toArray ∧ Z.Warmed39 U.vm ∧ U.heap = h) (fun _ _ _ _ _ => True) (fun _ U o U' => ∃ v L, o = .returned v ∧ Q v U'.heap L ∧ FrameEnd U o U' L rm.cells rm.slots)) (eT : T.heap = h) (hml : ls.size = c.maxLocals) (hps : parseMethodDescriptor y.desc = some ⟨ps, r⟩) (hlen : argsL.length = ps.length) (hst : stk = argsL.reverse ++ .ref a :: rest) (hW : (rest.map fun v => v.category).sum = W) (hd : decode c.code pc = .ok (.invokespecial index, 3))
    (hf : rm.frames + 1 ≤ R.frames) (hl : W + (maxL + 11) + rm.locals ≤ R.locals) (hc : cells + rm.cells ≤ R.cells) (hs : slots + rm.slots ≤ R.slots)
    (k : ∀ v T' L, Q v T'.heap L → Stand p l e R s m args below meth c T' (locs ++ L) (cells + rm.cells) (slots + rm.slots) → OG p.tables e below P (T'.setTop (mkF m (pc + 3) ls (v.toList ++ rest)))) : OG p.tables e below P (T.setTop (mkF m pc ls stk)) := by
  obtain ⟨v, _, ⟨T', L', c', n'⟩, -, X', ⟨L, hQ, l1, y1, z1⟩, st⟩ := X.specialBack hx (y := y) hy1 hown (mvT hZ w1) (mvT hZ w2) (mvT hZ w4) hy (backOf (W := W) hM hZ w4 w3 hf hl) (g := mkF m pc ls stk) rfl hml (Steps.refl _) (a := a) (argsL := argsL) (rest := rest) (lenOf hps hlen) hst (by rw [← hW]; exact Nat.le_of_eq (Nat.zero_add _)) hd (fun _ _ => ⟨rfl, eT, hc, hs⟩)
  dsimp only [Pt.U, Pt.locs, Pt.cells, Pt.slots] at X' l1 y1 z1 st hQ
  subst l1 y1 z1
  exact og (fun _ q => st.trans q) (k v T' L hQ X')
theorem g_callV {C : String} (X : Stand p l e R s m args below meth c T locs cells slots) (hx : p.tables.exec = Jvm.exec) (hZ : Z.Warmed39 s.vm) (hown : s.vm.findClass own = some m.cls) (w1 : (Cond.methodLink own index y).before a0 Z = true) (w2 : (Cond.declares y).before a0 Z = true) (w5 : (Cond.selects C y y).before a0 Z = true) (w6 : (Cond.instanceMethod y).before a0 Z = true) (w3 : (Cond.initialized y.cls).before a0 Z = true) (w4 : (Cond.code y bytes maxL ret).before a0 Z = true) (hy : y.cls ≠ "java/lang/invoke/MethodHandle" ∧ y.cls ≠ "java/lang/invoke/VarHandle")
    (hM : MetFree l y (head1 [Cond.code y bytes maxL ret] rm) (fun b U => b = (.ref a :: argsL).toArray ∧ Z.Warmed39 U.vm ∧ U.heap = h) (fun _ _ _ _ _ => True) (fun _ U o U' => ∃ v L, o = .returned v ∧ Q v U'.heap L ∧ FrameEnd U o U' L rm.cells rm.slots)) (eT : T.heap = h) (E : Exa Z h a C) (hml : ls.size = c.maxLocals) (hps : parseMethodDescriptor y.desc = some ⟨ps, r⟩) (hlen : argsL.length = ps.length) (hst : stk = argsL.reverse ++ .ref a :: rest) (hW : (rest.map fun v => v.category).sum = W) (hd : decode c.code pc = .ok (.invokevirtual index, 3))
    (hf : rm.frames + 1 ≤ R.frames) (hl : W + (maxL + 11) + rm.locals ≤ R.locals) (hc : cells + rm.cells ≤ R.cells) (hs : slots + rm.slots ≤ R.slots)
    (k : ∀ v T' L, Q v T'.heap L → Stand p l e R s m args below meth c T' (locs ++ L) (cells + rm.cells) (slots + rm.slots) → OG p.tables e below P (T'.setTop (mkF m (pc + 3) ls (v.toList ++ rest)))) : OG p.tables e below P (T.setTop (mkF m pc ls stk)) := by
  obtain ⟨cq, kq, qa, qb, qc⟩ := isOf hZ eT E
  obtain ⟨v, _, ⟨T', L', c', n'⟩, -, X', ⟨L, hQ, l1, y1, z1⟩, st⟩ := X.virtualBack hx (y := y) (z := y) hown (mvT hZ w1) (mvT hZ w2) (notFace_of_selects (args := #[]) (mvT hZ w5)) (mvT hZ w5) (mvT hZ w6) hy (backOf (W := W) hM hZ w4 w3 hf hl) qa qc (g := mkF m pc ls stk) rfl hml (Steps.refl _) (argsL := argsL) (rest := rest) (lenOf hps hlen) hst (by rw [← hW]; exact Nat.le_of_eq (Nat.zero_add _)) hd (fun _ _ => ⟨rfl, eT, hc, hs⟩)
  dsimp only [Pt.U, Pt.locs, Pt.cells, Pt.slots] at X' l1 y1 z1 st hQ
  subst l1 y1 z1
  exact og (fun _ q => st.trans q) (k v T' L hQ X')
theorem g_callF {C : String} {count : Nat} (X : Stand p l e R s m args below meth c T locs cells slots) (hx : p.tables.exec = Jvm.exec) (hZ : Z.Warmed39 s.vm) (hown : s.vm.findClass own = some m.cls) (w1 : (Cond.methodLink own index y).before args s = true) (w2 : (Cond.declares y).before args s = true) (w7 : (Cond.interfaceMethod y.cls y.cls y.name y.desc).before args s = true) (w5 : (Cond.selects C y z).before args s = true) (w6 : (Cond.instanceMethod z).before args s = true) (w8 : (Cond.publicMethod z).before args s = true) (w9 : (Cond.unhidden C y.name y.desc).before args s = true) (wc : (Cond.castable C y.cls).before args s = true)
    (w3 : (Cond.initialized z.cls).before a0 Z = true) (w4 : (Cond.code z bytes maxL ret).before a0 Z = true) (hy : y.cls ≠ "java/lang/invoke/MethodHandle" ∧ y.cls ≠ "java/lang/invoke/VarHandle")
    (hM : MetFree l z (head1 [Cond.code z bytes maxL ret] rm) (fun b U => b = (.ref a :: argsL).toArray ∧ Z.Warmed39 U.vm ∧ U.heap = h) (fun _ _ _ _ _ => True) (fun _ U o U' => ∃ v L, o = .returned v ∧ Q v U'.heap L ∧ FrameEnd U o U' L rm.cells rm.slots)) (eT : T.heap = h) (E : Exa Z h a C) (hml : ls.size = c.maxLocals) (hps : parseMethodDescriptor y.desc = some ⟨ps, r⟩) (hlen : argsL.length = ps.length) (hst : stk = argsL.reverse ++ .ref a :: rest) (hW : (rest.map fun v => v.category).sum = W) (hd : decode c.code pc = .ok (.invokeinterface index count, 5))
    (hf : rm.frames + 1 ≤ R.frames) (hl : W + (maxL + 11) + rm.locals ≤ R.locals) (hc : cells + rm.cells ≤ R.cells) (hs : slots + rm.slots ≤ R.slots)
    (k : ∀ v T' L, Q v T'.heap L → Stand p l e R s m args below meth c T' (locs ++ L) (cells + rm.cells) (slots + rm.slots) → OG p.tables e below P (T'.setTop (mkF m (pc + 5) ls (v.toList ++ rest)))) : OG p.tables e below P (T.setTop (mkF m pc ls stk)) := by
  obtain ⟨cq, kq, qa, qb, qc⟩ := isOf hZ eT E
  obtain ⟨v, _, ⟨T', L', c', n'⟩, -, X', ⟨L, hQ, l1, y1, z1⟩, st⟩ := X.interfaceBack hx (xi := y) (y := z) hown w1 w2 w7 w5 w6 w8 w9 wc hy (backOf (W := W) hM hZ w4 w3 hf hl) qa qb qc (g := mkF m pc ls stk) rfl hml (Steps.refl _) (argsL := argsL) (rest := rest) (lenOf hps hlen) hst (by rw [← hW]; exact Nat.le_of_eq (Nat.zero_add _)) hd (fun _ _ => ⟨rfl, eT, hc, hs⟩)
  dsimp only [Pt.U, Pt.locs, Pt.cells, Pt.slots] at X' l1 y1 z1 st hQ
  subst l1 y1 z1
  exact og (fun _ q => st.trans q) (k v T' L hQ X')
theorem g_callSS (X : Stand p l e R (s.setVm vm0) m args below meth c T locs cells slots) (hx : p.tables.exec = Jvm.exec) (hZ : Z.Warmed39 (s.setVm vm0).vm) (hown : (s.setVm vm0).vm.findClass own = some m.cls) (hS : s.Since vm0 k0) (hk : k0 ≤ h.size) (w1 : (Cond.methodLink own index y).before a0 Z = true) (w2 : (Cond.static y).before a0 Z = true) (w3 : (Cond.initialized y.cls).before a0 Z = true) (w4 : (Cond.code y bytes maxL ret).before a0 Z = true) (hy : y.cls ≠ "java/lang/invoke/MethodHandle" ∧ y.cls ≠ "java/lang/invoke/VarHandle")
    (hM : MetFree l y (head1 [Cond.code y bytes maxL ret] rm) (fun a U => a = argsL.toArray ∧ Z.Warmed39 U.vm ∧ U.heap = h) (fun _ _ _ _ _ => True) (fun _ U o U' => ∃ v L, o = .returned v ∧ Q v U'.heap L ∧ ReturnedEndW U o U' L rm.cells rm.slots)) (eT : T.heap = h) (hml : ls.size = c.maxLocals) (hps : parseMethodDescriptor y.desc = some ⟨ps, r⟩) (hlen : argsL.length = ps.length) (hst : stk = argsL.reverse ++ rest) (hW : (rest.map fun v => v.category).sum = W) (hd : decode c.code pc = .ok (.invokestatic index, 3))
    (hf : rm.frames + 1 ≤ R.frames) (hl : W + (maxL + 11) + rm.locals ≤ R.locals) (hc : cells + rm.cells ≤ R.cells) (hs : slots + rm.slots ≤ R.slots)
    (k : ∀ v T' L, Q v T'.heap L → Stand p l e R (s.setVm T'.vm) m args below meth c T' (locs ++ L) (cells + rm.cells) (slots + rm.slots) → s.Since T'.vm T'.heap.size → Z.Warmed39 (s.setVm T'.vm).vm → (s.setVm T'.vm).vm.findClass own = some m.cls → OG p.tables e below P (T'.setTop (mkF m (pc + 3) ls (v.toList ++ rest)))) : OG p.tables e below P (T.setTop (mkF m pc ls stk)) := by
  obtain ⟨v, _, ⟨T', L', c', n'⟩, -, X', h2, gr, ⟨L, hQ, l1, y1, z1⟩, st⟩ := callSS X hx (y := y) hown (mvT hZ w1) (mvT hZ w2) (mvT hZ w3) (mvT hZ w4) hy (backOfS (W := W) hM hZ w4 w3 hf hl) (g := mkF m pc ls stk) rfl hml (argsL := argsL) (rest := rest) (lenOf hps hlen) hst (by rw [← hW]; exact Nat.le_of_eq (Nat.zero_add _)) hd (fun _ _ => ⟨rfl, eT, hc, hs⟩)
  dsimp only [Pt.U, Pt.locs, Pt.cells, Pt.slots] at X' h2 gr l1 y1 z1 st hQ
  obtain ⟨X2, hS2, hZ2, hown2⟩ := rebS hS (by rw [eT]; exact hk) X' h2 gr hZ hown
  subst l1 y1 z1
  exact og (fun _ q => st.trans q) (k v T' L hQ X2 hS2 hZ2 hown2)
theorem g_callIS (X : Stand p l e R (s.setVm vm0) m args below meth c T locs cells slots) (hx : p.tables.exec = Jvm.exec) (hZ : Z.Warmed39 (s.setVm vm0).vm) (hown : (s.setVm vm0).vm.findClass own = some m.cls) (hS : s.Since vm0 k0) (hk : k0 ≤ h.size) (hy1 : y.name = "<init>") (w1 : (Cond.methodLink own index y).before a0 Z = true) (w2 : (Cond.instanceMethod y).before a0 Z = true) (w4 : (Cond.code y bytes maxL none).before a0 Z = true) (hy : y.cls ≠ "java/lang/invoke/MethodHandle" ∧ y.cls ≠ "java/lang/invoke/VarHandle")
    (hB : BackS l R p e below (s.setVm vm0) args y 3 W (fun A b => b = (.ref a :: argsL).toArray ∧ A.U.heap = h ∧ A.cells + rm.cells ≤ R.cells ∧ A.slots + rm.slots ≤ R.slots) (fun A _ v B => ∃ L, Q v B.U.heap L ∧ B.locs = A.locs ++ L ∧ B.cells = A.cells + rm.cells ∧ B.slots = A.slots + rm.slots))
    (eT : T.heap = h) (hml : ls.size = c.maxLocals) (hps : parseMethodDescriptor y.desc = some ⟨ps, r⟩) (hlen : argsL.length = ps.length) (hst : stk = argsL.reverse ++ .ref a :: rest) (hW : (rest.map fun v => v.category).sum = W) (hd : decode c.code pc = .ok (.invokespecial index, 3)) (hc : cells + rm.cells ≤ R.cells) (hs : slots + rm.slots ≤ R.slots)
    (k : ∀ v T' L, Q v T'.heap L → Stand p l e R (s.setVm T'.vm) m args below meth c T' (locs ++ L) (cells + rm.cells) (slots + rm.slots) → s.Since T'.vm T'.heap.size → Z.Warmed39 (s.setVm T'.vm).vm → (s.setVm T'.vm).vm.findClass own = some m.cls → OG p.tables e below P (T'.setTop (mkF m (pc + 3) ls (v.toList ++ rest)))) : OG p.tables e below P (T.setTop (mkF m pc ls stk)) := by
  obtain ⟨v, _, ⟨T', L', c', n'⟩, -, X', h2, gr, ⟨L, hQ, l1, y1, z1⟩, st⟩ := X.specialBackS hx (y := y) hy1 hown (mvT hZ w1) (mvT hZ w2) (mvT hZ w4) hy hB (g := mkF m pc ls stk) rfl hml (Steps.refl _) (a := a) (argsL := argsL) (rest := rest) (lenOf hps hlen) hst (by rw [← hW]; exact Nat.le_of_eq (Nat.zero_add _)) hd (fun _ _ => ⟨rfl, eT, hc, hs⟩)
  dsimp only [Pt.U, Pt.locs, Pt.cells, Pt.slots] at X' h2 gr l1 y1 z1 st hQ
  obtain ⟨X2, hS2, hZ2, hown2⟩ := rebS hS (by rw [eT]; exact hk) X' h2 gr hZ hown
  subst l1 y1 z1
  exact og (fun _ q => st.trans q) (k v T' L hQ X2 hS2 hZ2 hown2)
theorem o_i2bO {tb : Tables} [Ours tb] {target : State} {x : Int32} (j : At T m c below ∧ tb.exec = Jvm.exec) (hd : decode c.code pc = .ok (.i2b, 1)) (hr : Steps tb e below (T.setTop (mkF m (pc + 1) ls (.int (own_b x) :: stk))) target) : Steps tb e below (T.setTop (mkF m pc ls (.int x :: stk))) target := XT.i2b (g := mkF m pc ls (.int x :: stk)) j.1 j.2 rfl hd rfl hr
theorem o_i2cO {tb : Tables} [Ours tb] {target : State} {x : Int32} (j : At T m c below ∧ tb.exec = Jvm.exec) (hd : decode c.code pc = .ok (.i2c, 1)) (hr : Steps tb e below (T.setTop (mkF m (pc + 1) ls (.int (own_i2c x) :: stk))) target) : Steps tb e below (T.setTop (mkF m pc ls (.int x :: stk))) target := XT.i2c (g := mkF m pc ls (.int x :: stk)) j.1 j.2 rfl hd rfl hr
theorem o_iincL {tb : Tables} [Ours tb] {target : State} {k : Nat} {cst : Int} {x : Int32} {l' : Array Slot} (j : At T m c below ∧ tb.exec = Jvm.exec) (v : Int32) (hd : decode c.code pc = .ok (.iinc k cst, 3)) (hv : Int32.ofInt cst = v) (w : Int32) (hw : x + v = w) (hl : ls[k]? = some (.val (.int x))) (hl' : storeLocals ls k (.int w) = some l') (hr : Steps tb e below (T.setTop (mkF m (pc + 3) l' stk)) target) : Steps tb e below (T.setTop (mkF m pc ls stk)) target := by
  subst hw
  exact o_iincV j v hd hv hl hl' hr
theorem o_ldcI {target : State} {v : Int32} (X : Stand p l e R s m args below meth c T locs cells slots) (hx : p.tables.exec = Jvm.exec) (hZ : Z.Warmed39 s.vm) (hown : s.vm.findClass own = some m.cls) (w : (Cond.constant own index v).before a0 Z = true) (hd : decode c.code pc = .ok (.ldc index, 2)) (hr : Steps p.tables e below (T.setTop (mkF m (pc + 2) ls (.int v :: stk))) target) : Steps p.tables e below (T.setTop (mkF m pc ls stk)) target := X.ldcI hx hown (mvT hZ w) (g := mkF m pc ls stk) rfl hd hr
theorem o_baload {target : State} {j : Int32} {v : Value} {q : ClassId} {n : Int32} {vs : List Value} {dv : Value} (X : Stand p l e R s m args below meth c T locs cells slots) (hx : p.tables.exec = Jvm.exec) (hZ : Z.Warmed39 s.vm) (eT : T.heap = h) (F : Arv Z h a q .byte n vs dv) (hj : ¬ j < 0 ∧ j < n) (hv : vs.getD j.toNatClampNeg dv = v) (hd : decode c.code pc = .ok (.baload, 1))
    (hr : Steps p.tables e below (T.setTop (mkF m (pc + 1) ls (v :: rest))) target) : Steps p.tables e below (T.setTop (mkF m pc ls (.int j :: .ref a :: rest))) target := by
  obtain ⟨cl, A, -, S, -, H, -⟩ := F
  exact X.baloadBytes hx (by rw [eT]; exact A.1) (State.isArrayOf_alike hZ.alike A.2.1) A.2.2 (inb_of S hj) (H.at (inb_of S hj) hv) (g := mkF m pc ls (.int j :: .ref a :: rest)) rfl rfl hd _ hr
theorem o_caload {target : State} {j : Int32} {v : Value} {q : ClassId} {n : Int32} {vs : List Value} {dv : Value} (X : Stand p l e R s m args below meth c T locs cells slots) (hx : p.tables.exec = Jvm.exec) (hZ : Z.Warmed39 s.vm) (eT : T.heap = h) (F : Arv Z h a q .char n vs dv) (hj : ¬ j < 0 ∧ j < n) (hv : vs.getD j.toNatClampNeg dv = v) (hd : decode c.code pc = .ok (.caload, 1))
    (hr : Steps p.tables e below (T.setTop (mkF m (pc + 1) ls (v :: rest))) target) : Steps p.tables e below (T.setTop (mkF m pc ls (.int j :: .ref a :: rest))) target := by
  obtain ⟨cl, A, -, S, -, H, -⟩ := F
  exact X.caload hx (by rw [eT]; exact A.1) (State.isArrayOf_alike hZ.alike A.2.1) A.2.2 (inb_of S hj) (H.at (inb_of S hj) hv) (g := mkF m pc ls (.int j :: .ref a :: rest)) rfl rfl hd _ hr
theorem o_alen {target : State} {ty : FieldType} {q : ClassId} {n : Int32} {vs : List Value} {dv : Value} (X : Stand p l e R s m args below meth c T locs cells slots) (hx : p.tables.exec = Jvm.exec) (hZ : Z.Warmed39 s.vm) (eT : T.heap = h) (F : Arv Z h a q ty n vs dv) (hd : decode c.code pc = .ok (.arraylength, 1))
    (hr : Steps p.tables e below (T.setTop (mkF m (pc + 1) ls (.int n :: rest))) target) : Steps p.tables e below (T.setTop (mkF m pc ls (.ref a :: rest))) target := by
  obtain ⟨cl, A, -, S, M, -⟩ := F
  refine X.arraylength hx (by rw [eT]; exact A.1) (State.isArrayOf_alike hZ.alike A.2.1) (g := mkF m pc ls (.ref a :: rest)) rfl rfl hd _ ?_
  rw [len_of S M]; exact hr
theorem g_stB {j x v : Int32} {q : ClassId} {n : Int32} {vs : List Value} {dv : Value} (i : Nat) (X : Stand p l e R s m args below meth c T locs cells slots) (hx : p.tables.exec = Jvm.exec) (hZ : Z.Warmed39 s.vm) (eT : T.heap = h) (F : Arv Z h a q .byte n vs dv) (hj : ¬ j < 0 ∧ j < n) (hi : j.toNatClampNeg = i) (hl : i < vs.length) (hv : nar .byte x = v) (hd : decode c.code pc = .ok (.bastore, 1))
    (k : ∀ T' h', Stand p l e R s m args below meth c T' (locs ++ [⟨a, j.toNatClampNeg⟩]) cells slots → T'.heap = h' → Wr h h' a j.toNatClampNeg (.int v) → Arv Z h' a q .byte n (vs.set i (.int v)) dv → OG p.tables e below P (T'.setTop (mkF m (pc + 1) ls rest))) : OG p.tables e below P (T.setTop (mkF m pc ls (.int x :: .int j :: .ref a :: rest))) := by
  subst hv
  obtain ⟨cl, A, q1, S, M, H, G⟩ := F
  obtain ⟨T', h', X', e', W', st⟩ := stB X hx hZ eT A (j := j) (inb_of S hj) (g := mkF m pc ls (.int x :: .int j :: .ref a :: rest)) rfl rfl hd
  exact og st (k T' h' X' e' W' (Arv.set A q1 S M H G (fits_nar_byte x) W' i hi hl))
theorem g_stC {j x v : Int32} {q : ClassId} {n : Int32} {vs : List Value} {dv : Value} (i : Nat) (X : Stand p l e R s m args below meth c T locs cells slots) (hx : p.tables.exec = Jvm.exec) (hZ : Z.Warmed39 s.vm) (eT : T.heap = h) (F : Arv Z h a q .char n vs dv) (hj : ¬ j < 0 ∧ j < n) (hi : j.toNatClampNeg = i) (hl : i < vs.length) (hv : nar .char x = v) (hd : decode c.code pc = .ok (.castore, 1))
    (k : ∀ T' h', Stand p l e R s m args below meth c T' (locs ++ [⟨a, j.toNatClampNeg⟩]) cells slots → T'.heap = h' → Wr h h' a j.toNatClampNeg (.int v) → Arv Z h' a q .char n (vs.set i (.int v)) dv → OG p.tables e below P (T'.setTop (mkF m (pc + 1) ls rest))) : OG p.tables e below P (T.setTop (mkF m pc ls (.int x :: .int j :: .ref a :: rest))) := by
  subst hv
  obtain ⟨cl, A, q1, S, M, H, G⟩ := F
  obtain ⟨T', h', X', e', W', st⟩ := stC X hx hZ eT A (j := j) (inb_of S hj) (g := mkF m pc ls (.int x :: .int j :: .ref a :: rest)) rfl rfl hd
  exact og st (k T' h' X' e' W' (Arv.set A q1 S M H G (fits_nar_char x) W' i hi hl))
theorem g_cast {C K : String} (X : Stand p l e R s m args below meth c T locs cells slots) (hx : p.tables.exec = Jvm.exec) (hZ : Z.Warmed39 s.vm) (hown : s.vm.findClass own = some m.cls) (w : (Cond.classLink own index K).before a0 Z = true) (eT : T.heap = h) (F : Ins Z h a K true) (hd : decode c.code pc = .ok (.checkcast index, 3))
    (k : ∀ T', Stand p l e R s m args below meth c T' locs cells slots → T'.heap = h → OG p.tables e below P (T'.setTop (mkF m (pc + 3) ls (.ref a :: rest)))) : OG p.tables e below P (T.setTop (mkF m pc ls (.ref a :: rest))) := by
  obtain ⟨T', X', e', st⟩ := castY X hx hZ hown w eT F (g := mkF m pc ls (.ref a :: rest)) rfl rfl hd
  exact og st (k T' X' e')
theorem cS {nl : Nat} (argsL rest : List Value) (W : Nat) (X : Stand p l e R s m args below meth c T locs cells slots) (hx : p.tables.exec = Jvm.exec) (hZ : Z.Warmed39 s.vm) (hown : s.vm.findClass own = some m.cls) (w1 : (Cond.methodLink own index y).before a0 Z = true) (w2 : (Cond.static y).before a0 Z = true) (w3 : (Cond.initialized y.cls).before a0 Z = true) (w4 : (Cond.code y bytes maxL ret).before a0 Z = true) (hM : MetFree l y (head1 [Cond.code y bytes maxL ret] rm) (fun a U => a = argsL.toArray ∧ Z.Warmed39 U.vm ∧ U.heap = h) (fun _ _ _ _ _ => True) (fun _ U o U' => ∃ v L, o = .returned v ∧ Q v U'.heap L ∧ FrameEnd U o U' L rm.cells rm.slots)) (eT : T.heap = h) (hml : c.maxLocals = nl) (hps : parseMethodDescriptor y.desc = some ⟨ps, r⟩) (hd : decode c.code pc = .ok (.invokestatic index, 3)) (k : ∀ v T' L, Q v T'.heap L → Stand p l e R s m args below meth c T' (locs ++ L) (cells + rm.cells) (slots + rm.slots) → OG p.tables e below P (T'.setTop (mkF m (pc + 3) ls (v.toList ++ rest)))) (hy : y.cls ≠ "java/lang/invoke/MethodHandle" ∧ y.cls ≠ "java/lang/invoke/VarHandle" := by decide) (hls : ls.size = nl := by rfl) (hlen : argsL.length = ps.length := by rfl) (hst : stk = argsL.reverse ++ rest := by rfl) (hW : (rest.map fun v => v.category).sum = W := by rfl) (hf : rm.frames + 1 ≤ R.frames := by decide) (hl : W + (maxL + 11) + rm.locals ≤ R.locals := by decide) (hc : cells + rm.cells ≤ R.cells := by decide) (hs : slots + rm.slots ≤ R.slots := by decide) : OG p.tables e below P (T.setTop (mkF m pc ls stk)) := g_callS X hx hZ hown w1 w2 w3 w4 hy hM eT (by rw [hml]; exact hls) hps hlen hst hW hd hf hl hc hs k
theorem cI {nl : Nat} (a : Addr) (argsL rest : List Value) (W : Nat) (X : Stand p l e R s m args below meth c T locs cells slots) (hx : p.tables.exec = Jvm.exec) (hZ : Z.Warmed39 s.vm) (hown : s.vm.findClass own = some m.cls) (w1 : (Cond.methodLink own index y).before a0 Z = true) (w2 : (Cond.instanceMethod y).before a0 Z = true) (w3 : (Cond.initialized y.cls).before a0 Z = true) (w4 : (Cond.code y bytes maxL none).before a0 Z = true) (hM : MetFree l y (head1 [Cond.code y bytes maxL none] rm) (fun b U => b = (.ref a :: argsL).toArray ∧ Z.Warmed39 U.vm ∧ U.heap = h) (fun _ _ _ _ _ => True) (fun _ U o U' => ∃ v L, o = .returned v ∧ Q v U'.heap L ∧ FrameEnd U o U' L rm.cells rm.slots)) (eT : T.heap = h) (hml : c.maxLocals = nl) (hps : parseMethodDescriptor y.desc = some ⟨ps, r⟩) (hd : decode c.code pc = .ok (.invokespecial index, 3)) (k : ∀ v T' L, Q v T'.heap L → Stand p l e R s m args below meth c T' (locs ++ L) (cells + rm.cells) (slots + rm.slots) → OG p.tables e below P (T'.setTop (mkF m (pc + 3) ls (v.toList ++ rest)))) (hy1 : y.name = "<init>" := by rfl) (hy : y.cls ≠ "java/lang/invoke/MethodHandle" ∧ y.cls ≠ "java/lang/invoke/VarHandle" := by decide) (hls : ls.size = nl := by rfl) (hlen : argsL.length = ps.length := by rfl) (hst : stk = argsL.reverse ++ .ref a :: rest := by rfl) (hW : (rest.map fun v => v.category).sum = W := by rfl) (hf : rm.frames + 1 ≤ R.frames := by decide) (hl : W + (maxL + 11) + rm.locals ≤ R.locals := by decide) (hc : cells + rm.cells ≤ R.cells := by decide) (hs : slots + rm.slots ≤ R.slots := by decide) : OG p.tables e below P (T.setTop (mkF m pc ls stk)) := g_callI X hx hZ hown hy1 w1 w2 w3 w4 hy hM eT (by rw [hml]; exact hls) hps hlen hst hW hd hf hl hc hs k
theorem cV {C : String} {nl : Nat} (a : Addr) (argsL rest : List Value) (W : Nat) (X : Stand p l e R s m args below meth c T locs cells slots) (hx : p.tables.exec = Jvm.exec) (hZ : Z.Warmed39 s.vm) (hown : s.vm.findClass own = some m.cls) (w1 : (Cond.methodLink own index y).before a0 Z = true) (w2 : (Cond.declares y).before a0 Z = true) (w5 : (Cond.selects C y y).before a0 Z = true) (w6 : (Cond.instanceMethod y).before a0 Z = true) (w3 : (Cond.initialized y.cls).before a0 Z = true) (w4 : (Cond.code y bytes maxL ret).before a0 Z = true) (hM : MetFree l y (head1 [Cond.code y bytes maxL ret] rm) (fun b U => b = (.ref a :: argsL).toArray ∧ Z.Warmed39 U.vm ∧ U.heap = h) (fun _ _ _ _ _ => True) (fun _ U o U' => ∃ v L, o = .returned v ∧ Q v U'.heap L ∧ FrameEnd U o U' L rm.cells rm.slots)) (eT : T.heap = h) (E : Exa Z h a C) (hml : c.maxLocals = nl) (hps : parseMethodDescriptor y.desc = some ⟨ps, r⟩) (hd : decode c.code pc = .ok (.invokevirtual index, 3)) (k : ∀ v T' L, Q v T'.heap L → Stand p l e R s m args below meth c T' (locs ++ L) (cells + rm.cells) (slots + rm.slots) → OG p.tables e below P (T'.setTop (mkF m (pc + 3) ls (v.toList ++ rest)))) (hy : y.cls ≠ "java/lang/invoke/MethodHandle" ∧ y.cls ≠ "java/lang/invoke/VarHandle" := by decide) (hls : ls.size = nl := by rfl) (hlen : argsL.length = ps.length := by rfl) (hst : stk = argsL.reverse ++ .ref a :: rest := by rfl) (hW : (rest.map fun v => v.category).sum = W := by rfl) (hf : rm.frames + 1 ≤ R.frames := by decide) (hl : W + (maxL + 11) + rm.locals ≤ R.locals := by decide) (hc : cells + rm.cells ≤ R.cells := by decide) (hs : slots + rm.slots ≤ R.slots := by decide) : OG p.tables e below P (T.setTop (mkF m pc ls stk)) := g_callV X hx hZ hown w1 w2 w5 w6 w3 w4 hy hM eT E (by rw [hml]; exact hls) hps hlen hst hW hd hf hl hc hs k
theorem cF {C : String} {count : Nat} {nl : Nat} (y z : MethodName) (a : Addr) (argsL rest : List Value) (W : Nat) (X : Stand p l e R s m args below meth c T locs cells slots) (hx : p.tables.exec = Jvm.exec) (hZ : Z.Warmed39 s.vm) (hown : s.vm.findClass own = some m.cls) (w1 : (Cond.methodLink own index y).before args s = true) (w2 : (Cond.declares y).before args s = true) (w7 : (Cond.interfaceMethod y.cls y.cls y.name y.desc).before args s = true) (w5 : (Cond.selects C y z).before args s = true) (w6 : (Cond.instanceMethod z).before args s = true) (w8 : (Cond.publicMethod z).before args s = true) (w9 : (Cond.unhidden C y.name y.desc).before args s = true) (wc : (Cond.castable C y.cls).before args s = true) (w3 : (Cond.initialized z.cls).before a0 Z = true) (w4 : (Cond.code z bytes maxL ret).before a0 Z = true) (hM : MetFree l z (head1 [Cond.code z bytes maxL ret] rm) (fun b U => b = (.ref a :: argsL).toArray ∧ Z.Warmed39 U.vm ∧ U.heap = h) (fun _ _ _ _ _ => True) (fun _ U o U' => ∃ v L, o = .returned v ∧ Q v U'.heap L ∧ FrameEnd U o U' L rm.cells rm.slots)) (eT : T.heap = h) (E : Exa Z h a C) (hml : c.maxLocals = nl) (hps : parseMethodDescriptor y.desc = some ⟨ps, r⟩) (hd : decode c.code pc = .ok (.invokeinterface index count, 5)) (k : ∀ v T' L, Q v T'.heap L → Stand p l e R s m args below meth c T' (locs ++ L) (cells + rm.cells) (slots + rm.slots) → OG p.tables e below P (T'.setTop (mkF m (pc + 5) ls (v.toList ++ rest)))) (hy : y.cls ≠ "java/lang/invoke/MethodHandle" ∧ y.cls ≠ "java/lang/invoke/VarHandle" := by decide) (hls : ls.size = nl := by rfl) (hlen : argsL.length = ps.length := by rfl) (hst : stk = argsL.reverse ++ .ref a :: rest := by rfl) (hW : (rest.map fun v => v.category).sum = W := by rfl) (hf : rm.frames + 1 ≤ R.frames := by decide) (hl : W + (maxL + 11) + rm.locals ≤ R.locals := by decide) (hc : cells + rm.cells ≤ R.cells := by decide) (hs : slots + rm.slots ≤ R.slots := by decide) : OG p.tables e below P (T.setTop (mkF m pc ls stk)) := g_callF X hx hZ hown w1 w2 w7 w5 w6 w8 w9 wc w3 w4 hy hM eT E (by rw [hml]; exact hls) hps hlen hst hW hd hf hl hc hs k
theorem cSS {nl : Nat} (argsL rest : List Value) (W : Nat) (X : Stand p l e R (s.setVm vm0) m args below meth c T locs cells slots) (hx : p.tables.exec = Jvm.exec) (hZ : Z.Warmed39 (s.setVm vm0).vm) (hown : (s.setVm vm0).vm.findClass own = some m.cls) (hS : s.Since vm0 k0) (hk : k0 ≤ h.size) (w1 : (Cond.methodLink own index y).before a0 Z = true) (w2 : (Cond.static y).before a0 Z = true) (w3 : (Cond.initialized y.cls).before a0 Z = true) (w4 : (Cond.code y bytes maxL ret).before a0 Z = true) (hM : MetFree l y (head1 [Cond.code y bytes maxL ret] rm) (fun a U => a = argsL.toArray ∧ Z.Warmed39 U.vm ∧ U.heap = h) (fun _ _ _ _ _ => True) (fun _ U o U' => ∃ v L, o = .returned v ∧ Q v U'.heap L ∧ ReturnedEndW U o U' L rm.cells rm.slots)) (eT : T.heap = h) (hml : c.maxLocals = nl) (hps : parseMethodDescriptor y.desc = some ⟨ps, r⟩) (hd : decode c.code pc = .ok (.invokestatic index, 3)) (k : ∀ v T' L, Q v T'.heap L → Stand p l e R (s.setVm T'.vm) m args below meth c T' (locs ++ L) (cells + rm.cells) (slots + rm.slots) → s.Since T'.vm T'.heap.size → Z.Warmed39 (s.setVm T'.vm).vm → (s.setVm T'.vm).vm.findClass own = some m.cls → OG p.tables e below P (T'.setTop (mkF m (pc + 3) ls (v.toList ++ rest)))) (hy : y.cls ≠ "java/lang/invoke/MethodHandle" ∧ y.cls ≠ "java/lang/invoke/VarHandle" := by decide) (hls : ls.size = nl := by rfl) (hlen : argsL.length = ps.length := by rfl) (hst : stk = argsL.reverse ++ rest := by rfl) (hW : (rest.map fun v => v.category).sum = W := by rfl) (hf : rm.frames + 1 ≤ R.frames := by decide) (hl : W + (maxL + 11) + rm.locals ≤ R.locals := by decide) (hc : cells + rm.cells ≤ R.cells := by decide) (hs : slots + rm.slots ≤ R.slots := by decide) : OG p.tables e below P (T.setTop (mkF m pc ls stk)) := g_callSS X hx hZ hown hS hk w1 w2 w3 w4 hy hM eT (by rw [hml]; exact hls) hps hlen hst hW hd hf hl hc hs k
theorem cIS {nl : Nat} (a : Addr) (argsL rest : List Value) (W : Nat) (X : Stand p l e R (s.setVm vm0) m args below meth c T locs cells slots) (hx : p.tables.exec = Jvm.exec) (hZ : Z.Warmed39 (s.setVm vm0).vm) (hown : (s.setVm vm0).vm.findClass own = some m.cls) (hS : s.Since vm0 k0) (hk : k0 ≤ h.size) (w1 : (Cond.methodLink own index y).before a0 Z = true) (w2 : (Cond.instanceMethod y).before a0 Z = true) (w4 : (Cond.code y bytes maxL none).before a0 Z = true) (hB : BackS l R p e below (s.setVm vm0) args y 3 W (fun A b => b = (.ref a :: argsL).toArray ∧ A.U.heap = h ∧ A.cells + rm.cells ≤ R.cells ∧ A.slots + rm.slots ≤ R.slots) (fun A _ v B => ∃ L, Q v B.U.heap L ∧ B.locs = A.locs ++ L ∧ B.cells = A.cells + rm.cells ∧ B.slots = A.slots + rm.slots)) (eT : T.heap = h) (hml : c.maxLocals = nl) (hps : parseMethodDescriptor y.desc = some ⟨ps, r⟩) (hd : decode c.code pc = .ok (.invokespecial index, 3)) (k : ∀ v T' L, Q v T'.heap L → Stand p l e R (s.setVm T'.vm) m args below meth c T' (locs ++ L) (cells + rm.cells) (slots + rm.slots) → s.Since T'.vm T'.heap.size → Z.Warmed39 (s.setVm T'.vm).vm → (s.setVm T'.vm).vm.findClass own = some m.cls → OG p.tables e below P (T'.setTop (mkF m (pc + 3) ls (v.toList ++ rest)))) (hy1 : y.name = "<init>" := by rfl) (hy : y.cls ≠ "java/lang/invoke/MethodHandle" ∧ y.cls ≠ "java/lang/invoke/VarHandle" := by decide) (hls : ls.size = nl := by rfl) (hlen : argsL.length = ps.length := by rfl) (hst : stk = argsL.reverse ++ .ref a :: rest := by rfl) (hW : (rest.map fun v => v.category).sum = W := by rfl) (hc : cells + rm.cells ≤ R.cells := by decide) (hs : slots + rm.slots ≤ R.slots := by decide) : OG p.tables e below P (T.setTop (mkF m pc ls stk)) := g_callIS X hx hZ hown hS hk hy1 w1 w2 w4 hy hB eT (by rw [hml]; exact hls) hps hlen hst hW hd hc hs k
theorem cO {nl : Nat} (W : Nat) (X : Stand p l e R s m args below meth c T locs cells slots) (hx : p.tables.exec = Jvm.exec) (hZ : Z.Warmed39 s.vm) (hown : s.vm.findClass own = some m.cls) (w1 : (Cond.methodLink own index Lib.objectInit).before a0 Z = true) (w2 : (Cond.instanceMethod Lib.objectInit).before a0 Z = true) (w3 : (Cond.code Lib.objectInit ⟨#[0xb1]⟩ 1 none).before a0 Z = true) (eT : T.heap = h) (hml : c.maxLocals = nl) (hd : decode c.code pc = .ok (.invokespecial index, 3)) (k : ∀ T', Stand p l e R s m args below meth c T' locs cells slots → T'.heap = h → OG p.tables e below P (T'.setTop (mkF m (pc + 3) ls rest))) (hls : ls.size = nl := by rfl) (hf : 1 ≤ R.frames := by decide) (hW : (rest.map fun v => v.category).sum = W := by rfl) (hl : W + 12 ≤ R.locals := by decide) : OG p.tables e below P (T.setTop (mkF m pc ls (.ref a :: rest))) := g_initO X hx hZ hown w1 w2 w3 eT (by rw [hml]; exact hls) hd hf hW hl k
theorem sB {j x v : Int32} {q : ClassId} {n : Int32} {vs : List Value} {dv : Value} (i : Nat) (X : Stand p l e R s m args below meth c T locs cells slots) (hx : p.tables.exec = Jvm.exec) (hZ : Z.Warmed39 s.vm) (eT : T.heap = h) (F : Arv Z h a q .byte n vs dv) (hv : nar .byte x = v) (hd : decode c.code pc = .ok (.bastore, 1)) (k : ∀ T' h', Stand p l e R s m args below meth c T' (locs ++ [⟨a, j.toNatClampNeg⟩]) cells slots → T'.heap = h' → Wr h h' a j.toNatClampNeg (.int v) → Arv Z h' a q .byte n (vs.set i (.int v)) dv → OG p.tables e below P (T'.setTop (mkF m (pc + 1) ls rest))) (hj : ¬ j < 0 ∧ j < n := by decide) (hi : j.toNatClampNeg = i := by decide) (hl : i < vs.length := by exact Nat.le_of_ble_eq_true rfl) : OG p.tables e below P (T.setTop (mkF m pc ls (.int x :: .int j :: .ref a :: rest))) := g_stB i X hx hZ eT F hj hi hl hv hd k
theorem sC {j x v : Int32} {q : ClassId} {n : Int32} {vs : List Value} {dv : Value} (i : Nat) (X : Stand p l e R s m args below meth c T locs cells slots) (hx : p.tables.exec = Jvm.exec) (hZ : Z.Warmed39 s.vm) (eT : T.heap = h) (F : Arv Z h a q .char n vs dv) (hv : nar .char x = v) (hd : decode c.code pc = .ok (.castore, 1)) (k : ∀ T' h', Stand p l e R s m args below meth c T' (locs ++ [⟨a, j.toNatClampNeg⟩]) cells slots → T'.heap = h' → Wr h h' a j.toNatClampNeg (.int v) → Arv Z h' a q .char n (vs.set i (.int v)) dv → OG p.tables e below P (T'.setTop (mkF m (pc + 1) ls rest))) (hj : ¬ j < 0 ∧ j < n := by decide) (hi : j.toNatClampNeg = i := by decide) (hl : i < vs.length := by exact Nat.le_of_ble_eq_true rfl) : OG p.tables e below P (T.setTop (mkF m pc ls (.int x :: .int j :: .ref a :: rest))) := g_stC i X hx hZ eT F hj hi hl hv hd k
theorem nO {C : String} {n : Nat} (X : Stand p l e R s m args below meth c T locs cells slots) (hx : p.tables.exec = Jvm.exec) (hZ : Z.Warmed39 s.vm) (hown : s.vm.findClass own = some m.cls) (w : (Cond.classLink own index C).before a0 Z = true) (wi : (Cond.instantiable C n).before a0 Z = true) (wz : (Cond.initialized C).before a0 Z = true) (eT : T.heap = h) (hd : decode c.code pc = .ok (.new index, 3)) (k : ∀ T' h' a, a = h.size → Stand p l e R s m args below meth c T' locs (cells + 1) (slots + n) → T'.heap = h' → Ext h h' → Exa Z h' a C → (∀ {O nm d : String} {ty : FieldType}, Laid Z a0 C O nm d → parseFieldDescriptor d = some ty → Fld Z h' a O nm d (defaultValue ty)) → OG p.tables e below P (T'.setTop (mkF m (pc + 3) ls (.ref a :: stk)))) (hc : cells + 1 ≤ R.cells := by decide) (hl : slots + n ≤ R.slots := by decide) : OG p.tables e below P (T.setTop (mkF m pc ls stk)) := g_newO X hx hZ hown w wi wz eT hd hc hl k
theorem nP {aty : ArrayType} {n : Int32} (ty : FieldType) (cap : Nat) (ad : String) (X : Stand p l e R s m args below meth c T locs cells slots) (hx : p.tables.exec = Jvm.exec) (hZ : Z.Warmed39 s.vm) (w : (Cond.arrayClass ty).before a0 Z = true) (eT : T.heap = h) (hd : decode c.code pc = .ok (.newarray aty, 2)) (k : ∀ T' h' a q, a = h.size → Stand p l e R s m args below meth c T' locs (cells + 1) (slots + cap) → T'.heap = h' → Ext h h' → Arv Z h' a q ty n [] (defaultValue ty) → Exa Z h' a ad → OG p.tables e below P (T'.setTop (mkF m (pc + 2) ls (.ref a :: rest)))) (hty : newarray.typeOf aty = ty := by rfl) (hn : ¬ n < 0 := by decide) (hcap : n.toNatClampNeg ≤ cap := by decide) (hb : cap * 8 ≤ 536870912 := by decide) (hc : cells + 1 ≤ R.cells := by decide) (hl : slots + cap ≤ R.slots := by decide) (had : "[" ++ ty.toString = ad := by decide) : OG p.tables e below P (T.setTop (mkF m pc ls (.int n :: rest))) := g_newP X hx hZ hty w eT hd hn hcap hb hc hl had k
theorem pF {R0 n d C : String} {kk : Nat} {v old : Value} (ty : FieldType) (X : Stand p l e R s m args below meth c T locs cells slots) (hx : p.tables.exec = Jvm.exec) (hZ : Z.Warmed39 s.vm) (hown : s.vm.findClass own = some m.cls) (w : (Cond.fieldLink own index R0 n d).before a0 Z = true) (eT : T.heap = h) (F : Fld Z h a R0 n d old) (E : Exa Z h a C) (L : (Cond.lays C R0 n d).before a0 Z = true ∨ ((Cond.laysFinal C R0 n d).before a0 Z = true ∧ own = R0 ∧ meth.name = "<init>")) (wi : (Cond.instantiable C kk).before a0 Z = true) (hd : decode c.code pc = .ok (.putfield index, 3)) (k : ∀ T' h', Stand p l e R s m args below meth c T' (locs ++ [⟨a, Jvm.RoadKit.slotOf Z R0 n d⟩]) cells slots → T'.heap = h' → Wr h h' a (Jvm.RoadKit.slotOf Z R0 n d) v → OG p.tables e below P (T'.setTop (mkF m (pc + 3) ls rest))) (hty : parseFieldDescriptor d = some ty := by decide) (hn : narrow ty v = v := by rfl) (hf : fits ty v = true := by rfl) : OG p.tables e below P (T.setTop (mkF m pc ls (v :: .ref a :: rest))) := g_putF X hx hZ hown w eT F E L wi hty hn hf hd k
theorem og2 {A B : State} (X : Stand p l e R s m args below meth c T locs cells slots) (hx : p.tables.exec = Jvm.exec) (h : (At T m c below ∧ p.tables.exec = Jvm.exec) → ∀ t, Steps p.tables e below B t → Steps p.tables e below A t) (k : OG p.tables e below P B) : OG p.tables e below P A := og (h ⟨X.here, hx⟩) k
theorem og_leave {R' : Room} {v : Option Value} {A : State} (X : Stand p l e R s m args below meth c T locs cells slots) (hv : meth.sig.returnType = none → v = none) (hlk : meth.locks = false) (eT : T.heap = h) (hc : cells ≤ R'.cells) (hs : slots ≤ R'.slots) (hQ : Q v h locs) (st : ∀ fs, (∀ (f : JFrame) (acts : List Action), f.method = m → f.locked = none → f.entered = [] → (doReturn e (T.setTop f) acts v).1 = T.setFrames fs) → Steps p.tables e below A (T.setFrames fs)) : OG p.tables e below (fun o u => ∃ v L, o = .returned v ∧ Q v u.heap L ∧ FrameEnd s o u L R'.cells R'.slots) A := by
  obtain ⟨fs, hr, hrun, hended, hW, hsame⟩ := X.leave (v := v) hv hlk
  refine ⟨_, _, st fs hr, hrun, hended, v, locs, rfl, ?_, ⟨_, rfl⟩, hW, hsame.mono hc hs⟩
  show Q v T.heap locs
  rw [eT]; exact hQ
theorem og_leaveW {R' : Room} {v : Option Value} {A : State} (X : Stand p l e R (s.setVm vm0) m args below meth c T locs cells slots) (hS : s.Since vm0 k0) (hk : k0 ≤ h.size) (hv : meth.sig.returnType = none → v = none) (hlk : meth.locks = false) (eT : T.heap = h) (hc : cells ≤ R'.cells) (hs : slots ≤ R'.slots) (hQ : Q v h locs) (st : ∀ fs, (∀ (f : JFrame) (acts : List Action), f.method = m → f.locked = none → f.entered = [] → (doReturn e (T.setTop f) acts v).1 = T.setFrames fs) → Steps p.tables e below A (T.setFrames fs)) : OG p.tables e below (fun o u => ∃ v L, o = .returned v ∧ Q v u.heap L ∧ ReturnedEndW s o u L R'.cells R'.slots) A := by
  obtain ⟨fs, hr, hrun, hended, hend⟩ := X.leaveW hS (by rw [eT]; exact hk) (v := v) hv hlk
  refine ⟨_, _, st fs hr, hrun, hended, v, locs, rfl, ?_, hend.1, hend.2.1, hend.2.2.1, hend.2.2.2.mono hc hs⟩
  show Q v T.heap locs
  rw [eT]; exact hQ
theorem rI {S : Spec} {s₁ : State} {R' : Room} {z : Int32} (X : Stand p l e R s m args below meth c T locs cells slots) (hx : p.tables.exec = Jvm.exec) (Bd : BodyLoose p l y S bytes maxL (some .int) e s m args below meth c s₁) (hd : decode c.code pc = .ok (.ireturn, 1)) (eT : T.heap = h) (hQ : Q (some (.int z)) h locs) (hc : cells ≤ R'.cells := by decide) (hs : slots ≤ R'.slots := by decide) : OG p.tables e below (fun o u => ∃ v L, o = .returned v ∧ Q v u.heap L ∧ FrameEnd s o u L R'.cells R'.slots) (T.setTop (mkF m pc ls ((.int z) :: rest))) := og_leave X (fun q => by rw [Bd.returns] at q; cases q) Bd.notSynchronized eT hc hs hQ (fun fs hr => retOut X hx Bd.returns rfl (Or.inl ⟨rfl, Or.inl rfl, _, rfl⟩) hd hr)
theorem rN {S : Spec} {s₁ : State} {R' : Room} {t : FieldType} {z v : Int32} (X : Stand p l e R s m args below meth c T locs cells slots) (hx : p.tables.exec = Jvm.exec) (Bd : BodyLoose p l y S bytes maxL (some t) e s m args below meth c s₁) (ht : t = .boolean ∨ t = .byte ∨ t = .char ∨ t = .short) (hv : nar t z = v) (hd : decode c.code pc = .ok (.ireturn, 1)) (eT : T.heap = h) (hQ : Q (some (.int v)) h locs) (hc : cells ≤ R'.cells := by decide) (hs : slots ≤ R'.slots := by decide) : OG p.tables e below (fun o u => ∃ v L, o = .returned v ∧ Q v u.heap L ∧ FrameEnd s o u L R'.cells R'.slots) (T.setTop (mkF m pc ls ((.int z) :: rest))) := og_leave X (fun q => by rw [Bd.returns] at q; cases q) Bd.notSynchronized eT hc hs hQ (fun fs hr => retN X hx Bd.returns ht hd (by rw [hv]; exact hr))
theorem rJ {S : Spec} {s₁ : State} {R' : Room} {z : Int64} (X : Stand p l e R s m args below meth c T locs cells slots) (hx : p.tables.exec = Jvm.exec) (Bd : BodyLoose p l y S bytes maxL (some .long) e s m args below meth c s₁) (hd : decode c.code pc = .ok (.lreturn, 1)) (eT : T.heap = h) (hQ : Q (some (.long z)) h locs) (hc : cells ≤ R'.cells := by decide) (hs : slots ≤ R'.slots := by decide) : OG p.tables e below (fun o u => ∃ v L, o = .returned v ∧ Q v u.heap L ∧ FrameEnd s o u L R'.cells R'.slots) (T.setTop (mkF m pc ls ((.long z) :: rest))) := og_leave X (fun q => by rw [Bd.returns] at q; cases q) Bd.notSynchronized eT hc hs hQ (fun fs hr => retOut X hx Bd.returns rfl (Or.inr (Or.inl ⟨rfl, rfl, _, rfl⟩)) hd hr)
theorem rD {S : Spec} {s₁ : State} {R' : Room} {z : UInt64} (X : Stand p l e R s m args below meth c T locs cells slots) (hx : p.tables.exec = Jvm.exec) (Bd : BodyLoose p l y S bytes maxL (some .double) e s m args below meth c s₁) (hd : decode c.code pc = .ok (.dreturn, 1)) (eT : T.heap = h) (hQ : Q (some (.double z)) h locs) (hc : cells ≤ R'.cells := by decide) (hs : slots ≤ R'.slots := by decide) : OG p.tables e below (fun o u => ∃ v L, o = .returned v ∧ Q v u.heap L ∧ FrameEnd s o u L R'.cells R'.slots) (T.setTop (mkF m pc ls ((.double z) :: rest))) := og_leave X (fun q => by rw [Bd.returns] at q; cases q) Bd.notSynchronized eT hc hs hQ (fun fs hr => retOut X hx Bd.returns rfl (Or.inr (Or.inr (Or.inl ⟨rfl, rfl, _, rfl⟩))) hd hr)
theorem rA {S : Spec} {s₁ : State} {R' : Room} {t : FieldType} {v : Value} (X : Stand p l e R s m args below meth c T locs cells slots) (hx : p.tables.exec = Jvm.exec) (Bd : BodyLoose p l y S bytes maxL (some t) e s m args below meth c s₁) (hv : v.isRef = true) (ht : t.isReference = true) (hn : narrow t v = v) (hd : decode c.code pc = .ok (.areturn, 1)) (eT : T.heap = h) (hQ : Q (some (v)) h locs) (hc : cells ≤ R'.cells := by decide) (hs : slots ≤ R'.slots := by decide) : OG p.tables e below (fun o u => ∃ v L, o = .returned v ∧ Q v u.heap L ∧ FrameEnd s o u L R'.cells R'.slots) (T.setTop (mkF m pc ls ((v) :: rest))) := og_leave X (fun q => by rw [Bd.returns] at q; cases q) Bd.notSynchronized eT hc hs hQ (fun fs hr => retOut X hx Bd.returns hn (Or.inr (Or.inr (Or.inr (Or.inr ⟨rfl, ht, hv⟩)))) hd hr)
theorem r0 {S : Spec} {s₁ : State} {R' : Room} (X : Stand p l e R s m args below meth c T locs cells slots) (hx : p.tables.exec = Jvm.exec) (Bd : BodyLoose p l y S bytes maxL none e s m args below meth c s₁) (hd : decode c.code pc = .ok (.return_, 1)) (eT : T.heap = h) (hQ : Q none h locs) (hc : cells ≤ R'.cells := by decide) (hs : slots ≤ R'.slots := by decide) : OG p.tables e below (fun o u => ∃ v L, o = .returned v ∧ Q v u.heap L ∧ FrameEnd s o u L R'.cells R'.slots) (T.setTop (mkF m pc ls [])) := og_leave X (fun _ => rfl) Bd.notSynchronized eT hc hs hQ (fun fs hr => X.returnOut hx Bd.returns hd hr)
theorem rIW {S : Spec} {s₁ : State} {R' : Room} {z : Int32} (X : Stand p l e R (s.setVm vm0) m args below meth c T locs cells slots) (hx : p.tables.exec = Jvm.exec) (Bd : BodyLoose p l y S bytes maxL (some .int) e s m args below meth c s₁) (hS : s.Since vm0 k0) (hk : k0 ≤ h.size) (hd : decode c.code pc = .ok (.ireturn, 1)) (eT : T.heap = h) (hQ : Q (some (.int z)) h locs) (hc : cells ≤ R'.cells := by decide) (hs : slots ≤ R'.slots := by decide) : OG p.tables e below (fun o u => ∃ v L, o = .returned v ∧ Q v u.heap L ∧ ReturnedEndW s o u L R'.cells R'.slots) (T.setTop (mkF m pc ls ((.int z) :: rest))) := og_leaveW X hS hk (fun q => by rw [Bd.returns] at q; cases q) Bd.notSynchronized eT hc hs hQ (fun fs hr => retOut X hx Bd.returns rfl (Or.inl ⟨rfl, Or.inl rfl, _, rfl⟩) hd hr)
theorem rNW {S : Spec} {s₁ : State} {R' : Room} {t : FieldType} {z v : Int32} (X : Stand p l e R (s.setVm vm0) m args below meth c T locs cells slots) (hx : p.tables.exec = Jvm.exec) (Bd : BodyLoose p l y S bytes maxL (some t) e s m args below meth c s₁) (hS : s.Since vm0 k0) (hk : k0 ≤ h.size) (ht : t = .boolean ∨ t = .byte ∨ t = .char ∨ t = .short) (hv : nar t z = v) (hd : decode c.code pc = .ok (.ireturn, 1)) (eT : T.heap = h) (hQ : Q (some (.int v)) h locs) (hc : cells ≤ R'.cells := by decide) (hs : slots ≤ R'.slots := by decide) : OG p.tables e below (fun o u => ∃ v L, o = .returned v ∧ Q v u.heap L ∧ ReturnedEndW s o u L R'.cells R'.slots) (T.setTop (mkF m pc ls ((.int z) :: rest))) := og_leaveW X hS hk (fun q => by rw [Bd.returns] at q; cases q) Bd.notSynchronized eT hc hs hQ (fun fs hr => retN X hx Bd.returns ht hd (by rw [hv]; exact hr))
theorem rJW {S : Spec} {s₁ : State} {R' : Room} {z : Int64} (X : Stand p l e R (s.setVm vm0) m args below meth c T locs cells slots) (hx : p.tables.exec = Jvm.exec) (Bd : BodyLoose p l y S bytes maxL (some .long) e s m args below meth c s₁) (hS : s.Since vm0 k0) (hk : k0 ≤ h.size) (hd : decode c.code pc = .ok (.lreturn, 1)) (eT : T.heap = h) (hQ : Q (some (.long z)) h locs) (hc : cells ≤ R'.cells := by decide) (hs : slots ≤ R'.slots := by decide) : OG p.tables e below (fun o u => ∃ v L, o = .returned v ∧ Q v u.heap L ∧ ReturnedEndW s o u L R'.cells R'.slots) (T.setTop (mkF m pc ls ((.long z) :: rest))) := og_leaveW X hS hk (fun q => by rw [Bd.returns] at q; cases q) Bd.notSynchronized eT hc hs hQ (fun fs hr => retOut X hx Bd.returns rfl (Or.inr (Or.inl ⟨rfl, rfl, _, rfl⟩)) hd hr)
theorem rDW {S : Spec} {s₁ : State} {R' : Room} {z : UInt64} (X : Stand p l e R (s.setVm vm0) m args below meth c T locs cells slots) (hx : p.tables.exec = Jvm.exec) (Bd : BodyLoose p l y S bytes maxL (some .double) e s m args below meth c s₁) (hS : s.Since vm0 k0) (hk : k0 ≤ h.size) (hd : decode c.code pc = .ok (.dreturn, 1)) (eT : T.heap = h) (hQ : Q (some (.double z)) h locs) (hc : cells ≤ R'.cells := by decide) (hs : slots ≤ R'.slots := by decide) : OG p.tables e below (fun o u => ∃ v L, o = .returned v ∧ Q v u.heap L ∧ ReturnedEndW s o u L R'.cells R'.slots) (T.setTop (mkF m pc ls ((.double z) :: rest))) := og_leaveW X hS hk (fun q => by rw [Bd.returns] at q; cases q) Bd.notSynchronized eT hc hs hQ (fun fs hr => retOut X hx Bd.returns rfl (Or.inr (Or.inr (Or.inl ⟨rfl, rfl, _, rfl⟩))) hd hr)
theorem rAW {S : Spec} {s₁ : State} {R' : Room} {t : FieldType} {v : Value} (X : Stand p l e R (s.setVm vm0) m args below meth c T locs cells slots) (hx : p.tables.exec = Jvm.exec) (Bd : BodyLoose p l y S bytes maxL (some t) e s m args below meth c s₁) (hS : s.Since vm0 k0) (hk : k0 ≤ h.size) (hv : v.isRef = true) (ht : t.isReference = true) (hn : narrow t v = v) (hd : decode c.code pc = .ok (.areturn, 1)) (eT : T.heap = h) (hQ : Q (some (v)) h locs) (hc : cells ≤ R'.cells := by decide) (hs : slots ≤ R'.slots := by decide) : OG p.tables e below (fun o u => ∃ v L, o = .returned v ∧ Q v u.heap L ∧ ReturnedEndW s o u L R'.cells R'.slots) (T.setTop (mkF m pc ls ((v) :: rest))) := og_leaveW X hS hk (fun q => by rw [Bd.returns] at q; cases q) Bd.notSynchronized eT hc hs hQ (fun fs hr => retOut X hx Bd.returns hn (Or.inr (Or.inr (Or.inr (Or.inr ⟨rfl, ht, hv⟩)))) hd hr)
theorem r0W {S : Spec} {s₁ : State} {R' : Room} (X : Stand p l e R (s.setVm vm0) m args below meth c T locs cells slots) (hx : p.tables.exec = Jvm.exec) (Bd : BodyLoose p l y S bytes maxL none e s m args below meth c s₁) (hS : s.Since vm0 k0) (hk : k0 ≤ h.size) (hd : decode c.code pc = .ok (.return_, 1)) (eT : T.heap = h) (hQ : Q none h locs) (hc : cells ≤ R'.cells := by decide) (hs : slots ≤ R'.slots := by decide) : OG p.tables e below (fun o u => ∃ v L, o = .returned v ∧ Q v u.heap L ∧ ReturnedEndW s o u L R'.cells R'.slots) (T.setTop (mkF m pc ls [])) := og_leaveW X hS hk (fun _ => rfl) Bd.notSynchronized eT hc hs hQ (fun fs hr => X.returnOut hx Bd.returns hd hr)
theorem o_daload {target : State} {j : Int32} {v : Value} {q : ClassId} {n : Int32} {vs : List Value} {dv : Value} (X : Stand p l e R s m args below meth c T locs cells slots) (hx : p.tables.exec = Jvm.exec) (hZ : Z.Warmed39 s.vm) (eT : T.heap = h) (F : Arv Z h a q .double n vs dv) (hj : ¬ j < 0 ∧ j < n) (hv : vs.getD j.toNatClampNeg dv = v) (hd : decode c.code pc = .ok (.daload, 1))
    (hr : Steps p.tables e below (T.setTop (mkF m (pc + 1) ls (v :: rest))) target) : Steps p.tables e below (T.setTop (mkF m pc ls (.int j :: .ref a :: rest))) target := by
  obtain ⟨cl, A, -, S, -, H, -⟩ := F
  exact X.daload hx (by rw [eT]; exact A.1) (State.isArrayOf_alike hZ.alike A.2.1) A.2.2 (inb_of S hj) (H.at (inb_of S hj) hv) (g := mkF m pc ls (.int j :: .ref a :: rest)) rfl rfl hd _ hr
theorem sD {x : UInt64} {j : Int32} {q : ClassId} {n : Int32} {vs : List Value} {dv : Value} (i : Nat) (X : Stand p l e R s m args below meth c T locs cells slots) (hx : p.tables.exec = Jvm.exec) (hZ : Z.Warmed39 s.vm) (eT : T.heap = h) (F : Arv Z h a q .double n vs dv) (hd : decode c.code pc = .ok (.dastore, 1))
    (k : ∀ T' h', Stand p l e R s m args below meth c T' (locs ++ [⟨a, j.toNatClampNeg⟩]) cells slots → T'.heap = h' → Wr h h' a j.toNatClampNeg (.double x) → Arv Z h' a q .double n (vs.set i (.double x)) dv → OG p.tables e below P (T'.setTop (mkF m (pc + 1) ls rest))) (hj : ¬ j < 0 ∧ j < n := by decide) (hi : j.toNatClampNeg = i := by decide) (hl : i < vs.length := by exact Nat.le_of_ble_eq_true rfl) : OG p.tables e below P (T.setTop (mkF m pc ls (.double x :: .int j :: .ref a :: rest))) := by
  obtain ⟨cl, A, q1, S, M, H, G⟩ := F
  obtain ⟨T', h', X', e', W', st⟩ := stD X hx hZ eT A (j := j) (inb_of S hj) (g := mkF m pc ls (.double x :: .int j :: .ref a :: rest)) rfl rfl hd
  exact og st (k T' h' X' e' W' (Arv.set A q1 S M H G rfl W' i hi hl))
end Og

open Jvm.FP Jvm.Free.Fl in
def OBd (n : Int) (a : Int64) : Prop := -n ≤ a.toInt ∧ a.toInt ≤ n
theorem own_bd_b53 {n : Int} {a : Int64} (h : OBd n a) (q : n < 9007199254740992) : B53 a := ⟨by have := h.1; omega, by have := h.2; omega⟩
theorem own_bd_add {n m : Int} {a b : Int64} (h : OBd n a) (g : OBd m b) (q : n + m < 9007199254740992) : OBd (n + m) (a + b) := by
  obtain ⟨h1, h2⟩ := h
  obtain ⟨g1, g2⟩ := g
  have e : (a + b).toInt = a.toInt + b.toInt := by rw [Int64.toInt_add]; exact Int.bmod_eq_of_le (by omega) (by omega)
  exact ⟨by rw [e]; omega, by rw [e]; omega⟩
theorem own_bd_i (x : Int32) : OBd 2147483648 x.toInt64 := by
  have h1 := x.toInt_lt; have h2 := x.le_toInt
  exact ⟨by rw [Int32.toInt_toInt64]; omega, by rw [Int32.toInt_toInt64]; omega⟩
theorem own_bd_lit0 : OBd 0 (0 : Int64) := ⟨by decide, by decide⟩
theorem own_bd_lit1 : OBd 1 (1 : Int64) := ⟨by decide, by decide⟩
theorem own_dconst0 : FP.dconst0 = FP.l2d 0 := by decide +kernel
theorem own_dconst1 : FP.dconst1 = FP.l2d 1 := by decide +kernel
theorem own_dadd0 {a : Int64} (h : B53 a) : FP.dadd (FP.l2d a) (FP.l2d 0) = FP.l2d a := by
  rw [dadd_w h (own_bd_b53 own_bd_lit0 (by decide)), Int64.add_zero]
theorem own_irr (a : Int64) : ¬ a < a := by rw [Int64.lt_iff_toInt_lt]; omega
theorem own_asymm {a b : Int64} (h : a < b) : ¬ b < a := by
  rw [Int64.lt_iff_toInt_lt] at *; omega
theorem own_c3 (x : Int32) : x &&& 3 = 0 ∨ x &&& 3 = 1 ∨ x &&& 3 = 2 ∨ x &&& 3 = 3 := by
  have h := c_mask x 3 2 (by decide) (by decide)
  have e : ∀ k : Int32, (x &&& 3).toInt = k.toInt → x &&& 3 = k := fun k q => Int32.toInt_inj.mp q
  have h0 : (x &&& 3).toInt = 0 ∨ (x &&& 3).toInt = 1 ∨ (x &&& 3).toInt = 2 ∨ (x &&& 3).toInt = 3 := by omega
  rcases h0 with q | q | q | q
  · exact Or.inl (e 0 q)
  · exact Or.inr (Or.inl (e 1 q))
  · exact Or.inr (Or.inr (Or.inl (e 2 q)))
  · exact Or.inr (Or.inr (Or.inr (e 3 q)))
section DI
open Jvm.FP
theorem own_dneg_int {i : Int} {a : UInt64} (ha : Core.DInt i a) : Core.DInt (-i) (FP.dneg a) := by
  unfold Core.DInt at *
  rw [FP.val64_dneg]
  exact Core.whole_negate ha
theorem own_cmp_int {a b : Int64} {d e : UInt64} (ha : Core.DInt a.toInt d) (hb : Core.DInt b.toInt e) (o : CmpOp) : cmpValue (FP.dcmp d e) o = XT.cmpL a b := by
  rw [show FP.dcmp d e = some (compare a.toInt b.toInt) from Core.dcmp_int ha hb]
  unfold XT.cmpL
  by_cases h1 : a.toInt < b.toInt
  · have h2 : ¬ b < a := by rw [Int64.lt_iff_toInt_lt]; omega
    have h3 : ¬ a = b := fun q => by rw [q] at h1; omega
    rw [if_neg h2, if_neg h3, show compare a.toInt b.toInt = .lt from Int.compare_eq_lt.mpr h1]; rfl
  · by_cases h4 : a.toInt = b.toInt
    · have h5 : a = b := Int64.toInt_inj.mp h4
      subst h5
      have h2 : ¬ a < a := by rw [Int64.lt_iff_toInt_lt]; omega
      rw [if_neg h2, if_pos rfl, show compare a.toInt a.toInt = .eq from Int.compare_eq_eq.mpr rfl]; rfl
    · have h2 : b < a := by rw [Int64.lt_iff_toInt_lt]; omega
      rw [if_pos h2, show compare a.toInt b.toInt = .gt from Int.compare_eq_gt.mpr (by omega)]; rfl
theorem own_l2d_int {a : Int64} (h : B53 a) : Core.DInt a.toInt (FP.l2d a) := Core.l2d_int (by have := h.1; have := h.2; omega)
end DI

def own_v (p i : Int32) : Int32 := (XT.ushr p (4 * i) &&& 7) - 3
def own_iv (p n i : Int32) : Int32 := if XT.ushr n i &&& 1 = 0 then own_v p i else -own_v p i
def own_dv (p n i : Int32) : UInt64 := if XT.ushr n i &&& 1 = 0 then FP.l2d (own_v p i).toInt64 else FP.dneg (FP.l2d (own_v p i).toInt64)
def own_sgn (x y : Int32) : Int32 := if x < y then -1 else if y < x then 1 else 0
def own_sg (r : Int32) : Int32 := if r < 0 then -1 else if 0 < r then 1 else 0
def own_keys : List (Int32 × Int32) → Int32
  | [] => 0
  | (x, y) :: r => if x.toInt64 < y.toInt64 then -1 else if y.toInt64 < x.toInt64 then 1 else own_keys r
def own_fold : List (Int32 × Int32) → Int32
  | [] => 0
  | (x, y) :: r => if own_sgn x y = 0 then own_fold r else own_sgn x y
def ORep (d : UInt64) (v : Int32) : Prop := Jvm.FP.Core.DInt v.toInt d
theorem own_lt64 (x y : Int32) : x.toInt64 < y.toInt64 ↔ x < y := by
  rw [Int64.lt_iff_toInt_lt, Int32.lt_iff_toInt_lt, Int32.toInt_toInt64, Int32.toInt_toInt64]
theorem own_fold_eq (L : List (Int32 × Int32)) : own_sg (own_keys L) = own_fold L := by
  induction L with
  | nil => rfl
  | cons a r ih =>
    obtain ⟨x, y⟩ := a
    simp only [own_keys, own_fold, own_lt64, own_sgn]
    by_cases h1 : x < y
    · simp only [h1, if_true]; rw [if_neg (by decide)]; decide
    · by_cases h2 : y < x
      · simp only [h1, h2, if_true, if_false]; rw [if_neg (by decide)]; decide
      · simp only [h1, h2, if_false, if_true]; exact ih
theorem own_fold_sw (L : List (Int32 × Int32)) : own_sg (own_keys (L.map fun a => (a.2, a.1))) = -own_fold L := by
  induction L with
  | nil => rfl
  | cons a r ih =>
    obtain ⟨x, y⟩ := a
    simp only [List.map_cons, own_keys, own_fold, own_lt64, own_sgn]
    by_cases h1 : x < y
    · have h2 : ¬ y < x := by rw [Int32.lt_iff_toInt_lt] at *; omega
      simp only [h1, h2, if_true, if_false]; rw [if_neg (by decide)]; decide
    · by_cases h2 : y < x
      · simp only [h1, h2, if_true, if_false]; rw [if_neg (by decide)]; decide
      · simp only [h1, h2, if_false, if_true]; exact ih
theorem own_fold_z {x y : Int32} {r : List (Int32 × Int32)} (h : own_sgn x y = 0) : own_fold ((x, y) :: r) = own_fold r := by simp only [own_fold, h, if_true]
theorem own_fold_nz {x y : Int32} {r : List (Int32 × Int32)} (h : ¬ own_sgn x y = 0) : own_fold ((x, y) :: r) = own_sgn x y := by simp only [own_fold, h, if_false]
theorem own_fold_one (x y : Int32) : own_fold [(x, y)] = own_sgn x y := by
  by_cases h : own_sgn x y = 0
  · rw [own_fold_z h, h]; rfl
  · rw [own_fold_nz h]
theorem own_rep_cmp {d e : UInt64} {v w : Int32} (h : ORep d v) (g : ORep e w) (o : CmpOp) : cmpValue (FP.dcmp d e) o = XT.cmpL v.toInt64 w.toInt64 :=
  own_cmp_int (by rw [Int32.toInt_toInt64]; exact h) (by rw [Int32.toInt_toInt64]; exact g) o
theorem own_v_rng (p i : Int32) : -3 ≤ (own_v p i).toInt ∧ (own_v p i).toInt ≤ 4 := by
  have h := c_mask (XT.ushr p (4 * i)) 7 3 (by decide) (by decide)
  have q := c_isub (XT.ushr p (4 * i) &&& 7) 3
  have r := rng32 ((XT.ushr p (4 * i) &&& 7) - 3)
  rw [show (3 : Int32).toInt = 3 from rfl] at q
  unfold own_v
  omega
theorem own_rep_dv (p n i : Int32) : ORep (own_dv p n i) (own_iv p n i) := by
  have hv := own_v_rng p i
  have hd : Jvm.FP.Core.DInt (own_v p i).toInt (FP.l2d (own_v p i).toInt64) := by
    have q := own_l2d_int (own_bd_b53 (own_bd_i (own_v p i)) (by decide))
    rw [Int32.toInt_toInt64] at q; exact q
  unfold own_dv own_iv ORep
  by_cases h : XT.ushr n i &&& 1 = 0
  · rw [if_pos h, if_pos h]; exact hd
  · rw [if_neg h, if_neg h]
    have e : (-own_v p i).toInt = -(own_v p i).toInt := by
      have q := c_ineg (own_v p i)
      have r := rng32 (-own_v p i)
      omega
    rw [e]; exact own_dneg_int hd

abbrev R_0_0_0_0 : Room := ({ frames := 0, cells := 0, slots := 0, locals := 0 } : Room)
abbrev k4 := prog_48_method_11_code
theorem d0_0 : decode k4 0 = .ok (.iconst 0, 1) := by decide +kernel
theorem d0_1 : decode k4 1 = .ok (.istore_n 2, 1) := by decide +kernel
theorem d0_2 : decode k4 2 = .ok (.iload_n 2, 1) := by decide +kernel
theorem d0_3 : decode k4 3 = .ok (.aload_n 0, 1) := by decide +kernel
theorem d0_4 : decode k4 4 = .ok (.arraylength, 1) := by decide +kernel
theorem d0_5 : decode k4 5 = .ok (.if_icmp .ge 33, 3) := by decide +kernel
theorem d0_38 : decode k4 38 = .ok (.iconst 0, 1) := by decide +kernel
theorem d0_39 : decode k4 39 = .ok (.ireturn, 1) := by decide +kernel
theorem pn_com_example_pareto_loom_paretoloom_model_NondominatedSet : plainName "com/example/pareto_loom/paretoloom/model/NondominatedSet" = true := by first | (simp [plainName, overriddenIn]; done) | decide +kernel
theorem ef0 (m : MethodId) (x0 : Addr) (x1 : Addr) : entryFrame m #[(.ref x0), (.ref x1)] 3 = (mkF m 0 #[.val (.ref x0), .val (.ref x1), .unset] []) := by first | (simp [entryFrame, mkF, argsToLocals, Value.category]; done) | rfl
def QK0 (Z : State) (a1 : Addr) (a2 : Addr) (k1 : ClassId) (k2 : ClassId) (h0 : Heap) (n0 : Nat) (v : Option Value) (h : Heap) (L : List Loc) : Prop := v = some (.int (own_keys [])) ∧ Fr n0 L ∧ h = h0
theorem rmK0 (l : Launch) (Z : State) (a0 : Array Value) (hw : HW a0 Z) (ws : List Jvm.Cond) (a1 : Addr) (a2 : Addr) (k1 : ClassId) (k2 : ClassId) (h0 : Heap) (n0 : Nat) (Z0 : n0 ≤ h0.size) (pr0 : Arv Z h0 a1 k1 .double (0 : Int32) [] (.double (0 : UInt64))) (pr1 : Arv Z h0 a2 k2 .double (0 : Int32) [] (.double (0 : UInt64))) :
    MF l Z ⟨"com/example/pareto_loom/paretoloom/model/NondominatedSet", "compareKeys", "([D[D)I"⟩ prog_48_method_11_code 3 (some .int) ws R_0_0_0_0 #[(.ref a1), (.ref a2)] h0 (QK0 Z a1 a2 k1 k2 h0 n0) := by
  refine og_start (plainFor_of_name pn_com_example_pareto_loom_paretoloom_model_NondominatedSet) fun p e s m below meth c s₁ Bd hx hby hml hZ hown hnm X0 e0 => ?_
  have y := @hb _ _ hby
  refine og (fun t k => castTop (ef0 m a1 a2) k) ?_
  refine og2 X0 hx (fun j _ k => o_iconstV j 0 (y d0_0) rfl <| o_istoreN j (y d0_1) (l' := #[.val (.ref a1), .val (.ref a2), .val (.int 0)]) rfl <| o_iloadN j (y d0_2) rfl <| o_aloadN j (y d0_3) rfl rfl <| o_alen X0 hx hZ e0 pr0 (y d0_4) <| o_icmpYes j (pc' := 38) (y d0_5) (XT.ii_ge_t (by decide)) <| o_iconstV j 0 (y d0_38) rfl <| k) ?_
  exact rI X0 hx Bd (y d0_39) e0 ⟨(by simp [own_keys]), (Fr.nil n0), rfl⟩

theorem d0_8 : decode k4 8 = .ok (.aload_n 0, 1) := by decide +kernel
theorem d0_9 : decode k4 9 = .ok (.iload_n 2, 1) := by decide +kernel
theorem d0_10 : decode k4 10 = .ok (.daload, 1) := by decide +kernel
theorem d0_11 : decode k4 11 = .ok (.aload_n 1, 1) := by decide +kernel
theorem d0_12 : decode k4 12 = .ok (.iload_n 2, 1) := by decide +kernel
theorem d0_13 : decode k4 13 = .ok (.daload, 1) := by decide +kernel
theorem d0_14 : decode k4 14 = .ok (.dcmp .g, 1) := by decide +kernel
theorem d0_15 : decode k4 15 = .ok (.ifCond .ge 5, 3) := by decide +kernel
theorem d0_18 : decode k4 18 = .ok (.iconst (-1), 1) := by decide +kernel
theorem d0_19 : decode k4 19 = .ok (.ireturn, 1) := by decide +kernel
theorem d0_20 : decode k4 20 = .ok (.aload_n 0, 1) := by decide +kernel
theorem d0_21 : decode k4 21 = .ok (.iload_n 2, 1) := by decide +kernel
theorem d0_22 : decode k4 22 = .ok (.daload, 1) := by decide +kernel
theorem d0_23 : decode k4 23 = .ok (.aload_n 1, 1) := by decide +kernel
theorem d0_24 : decode k4 24 = .ok (.iload_n 2, 1) := by decide +kernel
theorem d0_25 : decode k4 25 = .ok (.daload, 1) := by decide +kernel
theorem d0_26 : decode k4 26 = .ok (.dcmp .l, 1) := by decide +kernel
theorem d0_27 : decode k4 27 = .ok (.ifCond .le 5, 3) := by decide +kernel
theorem d0_30 : decode k4 30 = .ok (.iconst 1, 1) := by decide +kernel
theorem d0_31 : decode k4 31 = .ok (.ireturn, 1) := by decide +kernel
theorem d0_32 : decode k4 32 = .ok (.iinc 2 1, 3) := by decide +kernel
theorem d0_35 : decode k4 35 = .ok (.goto (-33), 3) := by decide +kernel
def QK1 (Z : State) (a1 : Addr) (a2 : Addr) (k1 : ClassId) (k2 : ClassId) (d0 : UInt64) (f0 : UInt64) (v0 : Int32) (w0 : Int32) (h0 : Heap) (n0 : Nat) (v : Option Value) (h : Heap) (L : List Loc) : Prop := v = some (.int (own_keys [(v0, w0)])) ∧ Fr n0 L ∧ h = h0
theorem rmK1 (l : Launch) (Z : State) (a0 : Array Value) (hw : HW a0 Z) (ws : List Jvm.Cond) (a1 : Addr) (a2 : Addr) (k1 : ClassId) (k2 : ClassId) (d0 : UInt64) (f0 : UInt64) (v0 : Int32) (w0 : Int32) (h0 : Heap) (n0 : Nat) (Z0 : n0 ≤ h0.size) (H0 : ORep d0 v0) (H1 : ORep f0 w0) (pr2 : Arv Z h0 a1 k1 .double (1 : Int32) [(.double d0)] (.double (0 : UInt64))) (pr3 : Arv Z h0 a2 k2 .double (1 : Int32) [(.double f0)] (.double (0 : UInt64))) :
    MF l Z ⟨"com/example/pareto_loom/paretoloom/model/NondominatedSet", "compareKeys", "([D[D)I"⟩ prog_48_method_11_code 3 (some .int) ws R_0_0_0_0 #[(.ref a1), (.ref a2)] h0 (QK1 Z a1 a2 k1 k2 d0 f0 v0 w0 h0 n0) := by
  refine og_start (plainFor_of_name pn_com_example_pareto_loom_paretoloom_model_NondominatedSet) fun p e s m below meth c s₁ Bd hx hby hml hZ hown hnm X0 e0 => ?_
  have y := @hb _ _ hby
  refine og (fun t k => castTop (ef0 m a1 a2) k) ?_
  refine og2 X0 hx (fun j _ k => o_iconstV j 0 (y d0_0) rfl <| o_istoreN j (y d0_1) (l' := #[.val (.ref a1), .val (.ref a2), .val (.int 0)]) rfl <| o_iloadN j (y d0_2) rfl <| o_aloadN j (y d0_3) rfl rfl <| o_alen X0 hx hZ e0 pr2 (y d0_4) <| o_icmpNo j (y d0_5) (XT.ii_ge_f (by decide)) <| o_aloadN j (y d0_8) rfl rfl <| o_iloadN j (y d0_9) rfl <| o_daload (v := (.double d0)) X0 hx hZ e0 pr2 ⟨by decide, by decide⟩ rfl (y d0_10) <| o_aloadN j (y d0_11) rfl rfl <| o_iloadN j (y d0_12) rfl <| o_daload (v := (.double f0)) X0 hx hZ e0 pr3 ⟨by decide, by decide⟩ rfl (y d0_13) <| o_dcmpS j (y d0_14) (v := XT.cmpL (v0.toInt64) (w0.toInt64)) (own_rep_cmp H0 H1 _) <| k) ?_
  by_cases C1 : (v0.toInt64) < (w0.toInt64)
  · refine og2 X0 hx (fun j _ k => o_ifNo j (y d0_15) (XT.ll_ge_f C1) <| o_iconstV j (-1) (y d0_18) rfl <| k) ?_
    exact rI X0 hx Bd (y d0_19) e0 ⟨(by simp [own_keys, C1]), (Fr.nil n0), rfl⟩
  · refine og2 X0 hx (fun j _ k => o_ifYes j (pc' := 20) (y d0_15) (XT.ll_ge_t C1) <| o_aloadN j (y d0_20) rfl rfl <| o_iloadN j (y d0_21) rfl <| o_daload (v := (.double d0)) X0 hx hZ e0 pr2 ⟨by decide, by decide⟩ rfl (y d0_22) <| o_aloadN j (y d0_23) rfl rfl <| o_iloadN j (y d0_24) rfl <| o_daload (v := (.double f0)) X0 hx hZ e0 pr3 ⟨by decide, by decide⟩ rfl (y d0_25) <| o_dcmpS j (y d0_26) (v := XT.cmpL (v0.toInt64) (w0.toInt64)) (own_rep_cmp H0 H1 _) <| k) ?_
    by_cases C2 : (w0.toInt64) < (v0.toInt64)
    · refine og2 X0 hx (fun j _ k => o_ifNo j (y d0_27) (XT.ll_le_f C2) <| o_iconstV j 1 (y d0_30) rfl <| k) ?_
      exact rI X0 hx Bd (y d0_31) e0 ⟨(by simp [own_keys, C1, C2]), (Fr.nil n0), rfl⟩
    · refine og2 X0 hx (fun j _ k => o_ifYes j (pc' := 32) (y d0_27) (XT.ll_le_t C2) <| o_iincL j 1 (y d0_32) rfl (1 : Int32) (by decide) rfl (l' := #[.val (.ref a1), .val (.ref a2), .val (.int 1)]) rfl <| o_goto j (pc' := 2) (y d0_35) <| o_iloadN j (y d0_2) rfl <| o_aloadN j (y d0_3) rfl rfl <| o_alen X0 hx hZ e0 pr2 (y d0_4) <| o_icmpYes j (pc' := 38) (y d0_5) (XT.ii_ge_t (by decide)) <| o_iconstV j 0 (y d0_38) rfl <| k) ?_
      exact rI X0 hx Bd (y d0_39) e0 ⟨(by simp [own_keys, C1, C2]), (Fr.nil n0), rfl⟩

def QK2 (Z : State) (a1 : Addr) (a2 : Addr) (k1 : ClassId) (k2 : ClassId) (d0 : UInt64) (d1 : UInt64) (f0 : UInt64) (f1 : UInt64) (v0 : Int32) (v1 : Int32) (w0 : Int32) (w1 : Int32) (h0 : Heap) (n0 : Nat) (v : Option Value) (h : Heap) (L : List Loc) : Prop := v = some (.int (own_keys [(v0, w0), (v1, w1)])) ∧ Fr n0 L ∧ h = h0
theorem rmK2 (l : Launch) (Z : State) (a0 : Array Value) (hw : HW a0 Z) (ws : List Jvm.Cond) (a1 : Addr) (a2 : Addr) (k1 : ClassId) (k2 : ClassId) (d0 : UInt64) (d1 : UInt64) (f0 : UInt64) (f1 : UInt64) (v0 : Int32) (v1 : Int32) (w0 : Int32) (w1 : Int32) (h0 : Heap) (n0 : Nat) (Z0 : n0 ≤ h0.size) (H0 : ORep d0 v0) (H1 : ORep d1 v1) (H2 : ORep f0 w0) (H3 : ORep f1 w1) (pr4 : Arv Z h0 a1 k1 .double (2 : Int32) [(.double d0), (.double d1)] (.double (0 : UInt64))) (pr5 : Arv Z h0 a2 k2 .double (2 : Int32) [(.double f0), (.double f1)] (.double (0 : UInt64))) :
    MF l Z ⟨"com/example/pareto_loom/paretoloom/model/NondominatedSet", "compareKeys", "([D[D)I"⟩ prog_48_method_11_code 3 (some .int) ws R_0_0_0_0 #[(.ref a1), (.ref a2)] h0 (QK2 Z a1 a2 k1 k2 d0 d1 f0 f1 v0 v1 w0 w1 h0 n0) := by
  refine og_start (plainFor_of_name pn_com_example_pareto_loom_paretoloom_model_NondominatedSet) fun p e s m below meth c s₁ Bd hx hby hml hZ hown hnm X0 e0 => ?_
  have y := @hb _ _ hby
  refine og (fun t k => castTop (ef0 m a1 a2) k) ?_
  refine og2 X0 hx (fun j _ k => o_iconstV j 0 (y d0_0) rfl <| o_istoreN j (y d0_1) (l' := #[.val (.ref a1), .val (.ref a2), .val (.int 0)]) rfl <| o_iloadN j (y d0_2) rfl <| o_aloadN j (y d0_3) rfl rfl <| o_alen X0 hx hZ e0 pr4 (y d0_4) <| o_icmpNo j (y d0_5) (XT.ii_ge_f (by decide)) <| o_aloadN j (y d0_8) rfl rfl <| o_iloadN j (y d0_9) rfl <| o_daload (v := (.double d0)) X0 hx hZ e0 pr4 ⟨by decide, by decide⟩ rfl (y d0_10) <| o_aloadN j (y d0_11) rfl rfl <| o_iloadN j (y d0_12) rfl <| o_daload (v := (.double f0)) X0 hx hZ e0 pr5 ⟨by decide, by decide⟩ rfl (y d0_13) <| o_dcmpS j (y d0_14) (v := XT.cmpL (v0.toInt64) (w0.toInt64)) (own_rep_cmp H0 H2 _) <| k) ?_
  by_cases C1 : (v0.toInt64) < (w0.toInt64)
  · refine og2 X0 hx (fun j _ k => o_ifNo j (y d0_15) (XT.ll_ge_f C1) <| o_iconstV j (-1) (y d0_18) rfl <| k) ?_
    exact rI X0 hx Bd (y d0_19) e0 ⟨(by simp [own_keys, C1]), (Fr.nil n0), rfl⟩
  · refine og2 X0 hx (fun j _ k => o_ifYes j (pc' := 20) (y d0_15) (XT.ll_ge_t C1) <| o_aloadN j (y d0_20) rfl rfl <| o_iloadN j (y d0_21) rfl <| o_daload (v := (.double d0)) X0 hx hZ e0 pr4 ⟨by decide, by decide⟩ rfl (y d0_22) <| o_aloadN j (y d0_23) rfl rfl <| o_iloadN j (y d0_24) rfl <| o_daload (v := (.double f0)) X0 hx hZ e0 pr5 ⟨by decide, by decide⟩ rfl (y d0_25) <| o_dcmpS j (y d0_26) (v := XT.cmpL (v0.toInt64) (w0.toInt64)) (own_rep_cmp H0 H2 _) <| k) ?_
    by_cases C2 : (w0.toInt64) < (v0.toInt64)
    · refine og2 X0 hx (fun j _ k => o_ifNo j (y d0_27) (XT.ll_le_f C2) <| o_iconstV j 1 (y d0_30) rfl <| k) ?_
      exact rI X0 hx Bd (y d0_31) e0 ⟨(by simp [own_keys, C1, C2]), (Fr.nil n0), rfl⟩
    · refine og2 X0 hx (fun j _ k => o_ifYes j (pc' := 32) (y d0_27) (XT.ll_le_t C2) <| o_iincL j 1 (y d0_32) rfl (1 : Int32) (by decide) rfl (l' := #[.val (.ref a1), .val (.ref a2), .val (.int 1)]) rfl <| o_goto j (pc' := 2) (y d0_35) <| o_iloadN j (y d0_2) rfl <| o_aloadN j (y d0_3) rfl rfl <| o_alen X0 hx hZ e0 pr4 (y d0_4) <| o_icmpNo j (y d0_5) (XT.ii_ge_f (by decide)) <| o_aloadN j (y d0_8) rfl rfl <| o_iloadN j (y d0_9) rfl <| o_daload (v := (.double d1)) X0 hx hZ e0 pr4 ⟨by decide, by decide⟩ rfl (y d0_10) <| o_aloadN j (y d0_11) rfl rfl <| o_iloadN j (y d0_12) rfl <| o_daload (v := (.double f1)) X0 hx hZ e0 pr5 ⟨by decide, by decide⟩ rfl (y d0_13) <| o_dcmpS j (y d0_14) (v := XT.cmpL (v1.toInt64) (w1.toInt64)) (own_rep_cmp H1 H3 _) <| k) ?_
      by_cases C3 : (v1.toInt64) < (w1.toInt64)
      · refine og2 X0 hx (fun j _ k => o_ifNo j (y d0_15) (XT.ll_ge_f C3) <| o_iconstV j (-1) (y d0_18) rfl <| k) ?_
        exact rI X0 hx Bd (y d0_19) e0 ⟨(by simp [own_keys, C1, C2, C3]), (Fr.nil n0), rfl⟩
      · refine og2 X0 hx (fun j _ k => o_ifYes j (pc' := 20) (y d0_15) (XT.ll_ge_t C3) <| o_aloadN j (y d0_20) rfl rfl <| o_iloadN j (y d0_21) rfl <| o_daload (v := (.double d1)) X0 hx hZ e0 pr4 ⟨by decide, by decide⟩ rfl (y d0_22) <| o_aloadN j (y d0_23) rfl rfl <| o_iloadN j (y d0_24) rfl <| o_daload (v := (.double f1)) X0 hx hZ e0 pr5 ⟨by decide, by decide⟩ rfl (y d0_25) <| o_dcmpS j (y d0_26) (v := XT.cmpL (v1.toInt64) (w1.toInt64)) (own_rep_cmp H1 H3 _) <| k) ?_
        by_cases C4 : (w1.toInt64) < (v1.toInt64)
        · refine og2 X0 hx (fun j _ k => o_ifNo j (y d0_27) (XT.ll_le_f C4) <| o_iconstV j 1 (y d0_30) rfl <| k) ?_
          exact rI X0 hx Bd (y d0_31) e0 ⟨(by simp [own_keys, C1, C2, C3, C4]), (Fr.nil n0), rfl⟩
        · refine og2 X0 hx (fun j _ k => o_ifYes j (pc' := 32) (y d0_27) (XT.ll_le_t C4) <| o_iincL j 1 (y d0_32) rfl (2 : Int32) (by decide) rfl (l' := #[.val (.ref a1), .val (.ref a2), .val (.int 2)]) rfl <| o_goto j (pc' := 2) (y d0_35) <| o_iloadN j (y d0_2) rfl <| o_aloadN j (y d0_3) rfl rfl <| o_alen X0 hx hZ e0 pr4 (y d0_4) <| o_icmpYes j (pc' := 38) (y d0_5) (XT.ii_ge_t (by decide)) <| o_iconstV j 0 (y d0_38) rfl <| k) ?_
          exact rI X0 hx Bd (y d0_39) e0 ⟨(by simp [own_keys, C1, C2, C3, C4]), (Fr.nil n0), rfl⟩

def QK3 (Z : State) (a1 : Addr) (a2 : Addr) (k1 : ClassId) (k2 : ClassId) (d0 : UInt64) (d1 : UInt64) (d2 : UInt64) (f0 : UInt64) (f1 : UInt64) (f2 : UInt64) (v0 : Int32) (v1 : Int32) (v2 : Int32) (w0 : Int32) (w1 : Int32) (w2 : Int32) (h0 : Heap) (n0 : Nat) (v : Option Value) (h : Heap) (L : List Loc) : Prop := v = some (.int (own_keys [(v0, w0), (v1, w1), (v2, w2)])) ∧ Fr n0 L ∧ h = h0
theorem rmK3 (l : Launch) (Z : State) (a0 : Array Value) (hw : HW a0 Z) (ws : List Jvm.Cond) (a1 : Addr) (a2 : Addr) (k1 : ClassId) (k2 : ClassId) (d0 : UInt64) (d1 : UInt64) (d2 : UInt64) (f0 : UInt64) (f1 : UInt64) (f2 : UInt64) (v0 : Int32) (v1 : Int32) (v2 : Int32) (w0 : Int32) (w1 : Int32) (w2 : Int32) (h0 : Heap) (n0 : Nat) (Z0 : n0 ≤ h0.size) (H0 : ORep d0 v0) (H1 : ORep d1 v1) (H2 : ORep d2 v2) (H3 : ORep f0 w0) (H4 : ORep f1 w1) (H5 : ORep f2 w2) (pr6 : Arv Z h0 a1 k1 .double (3 : Int32) [(.double d0), (.double d1), (.double d2)] (.double (0 : UInt64))) (pr7 : Arv Z h0 a2 k2 .double (3 : Int32) [(.double f0), (.double f1), (.double f2)] (.double (0 : UInt64))) :
    MF l Z ⟨"com/example/pareto_loom/paretoloom/model/NondominatedSet", "compareKeys", "([D[D)I"⟩ prog_48_method_11_code 3 (some .int) ws R_0_0_0_0 #[(.ref a1), (.ref a2)] h0 (QK3 Z a1 a2 k1 k2 d0 d1 d2 f0 f1 f2 v0 v1 v2 w0 w1 w2 h0 n0) := by
  refine og_start (plainFor_of_name pn_com_example_pareto_loom_paretoloom_model_NondominatedSet) fun p e s m below meth c s₁ Bd hx hby hml hZ hown hnm X0 e0 => ?_
  have y := @hb _ _ hby
  refine og (fun t k => castTop (ef0 m a1 a2) k) ?_
  refine og2 X0 hx (fun j _ k => o_iconstV j 0 (y d0_0) rfl <| o_istoreN j (y d0_1) (l' := #[.val (.ref a1), .val (.ref a2), .val (.int 0)]) rfl <| o_iloadN j (y d0_2) rfl <| o_aloadN j (y d0_3) rfl rfl <| o_alen X0 hx hZ e0 pr6 (y d0_4) <| o_icmpNo j (y d0_5) (XT.ii_ge_f (by decide)) <| o_aloadN j (y d0_8) rfl rfl <| o_iloadN j (y d0_9) rfl <| o_daload (v := (.double d0)) X0 hx hZ e0 pr6 ⟨by decide, by decide⟩ rfl (y d0_10) <| o_aloadN j (y d0_11) rfl rfl <| o_iloadN j (y d0_12) rfl <| o_daload (v := (.double f0)) X0 hx hZ e0 pr7 ⟨by decide, by decide⟩ rfl (y d0_13) <| o_dcmpS j (y d0_14) (v := XT.cmpL (v0.toInt64) (w0.toInt64)) (own_rep_cmp H0 H3 _) <| k) ?_
  by_cases C1 : (v0.toInt64) < (w0.toInt64)
  · refine og2 X0 hx (fun j _ k => o_ifNo j (y d0_15) (XT.ll_ge_f C1) <| o_iconstV j (-1) (y d0_18) rfl <| k) ?_
    exact rI X0 hx Bd (y d0_19) e0 ⟨(by simp [own_keys, C1]), (Fr.nil n0), rfl⟩
  · refine og2 X0 hx (fun j _ k => o_ifYes j (pc' := 20) (y d0_15) (XT.ll_ge_t C1) <| o_aloadN j (y d0_20) rfl rfl <| o_iloadN j (y d0_21) rfl <| o_daload (v := (.double d0)) X0 hx hZ e0 pr6 ⟨by decide, by decide⟩ rfl (y d0_22) <| o_aloadN j (y d0_23) rfl rfl <| o_iloadN j (y d0_24) rfl <| o_daload (v := (.double f0)) X0 hx hZ e0 pr7 ⟨by decide, by decide⟩ rfl (y d0_25) <| o_dcmpS j (y d0_26) (v := XT.cmpL (v0.toInt64) (w0.toInt64)) (own_rep_cmp H0 H3 _) <| k) ?_
    by_cases C2 : (w0.toInt64) < (v0.toInt64)
    · refine og2 X0 hx (fun j _ k => o_ifNo j (y d0_27) (XT.ll_le_f C2) <| o_iconstV j 1 (y d0_30) rfl <| k) ?_
      exact rI X0 hx Bd (y d0_31) e0 ⟨(by simp [own_keys, C1, C2]), (Fr.nil n0), rfl⟩
    · refine og2 X0 hx (fun j _ k => o_ifYes j (pc' := 32) (y d0_27) (XT.ll_le_t C2) <| o_iincL j 1 (y d0_32) rfl (1 : Int32) (by decide) rfl (l' := #[.val (.ref a1), .val (.ref a2), .val (.int 1)]) rfl <| o_goto j (pc' := 2) (y d0_35) <| o_iloadN j (y d0_2) rfl <| o_aloadN j (y d0_3) rfl rfl <| o_alen X0 hx hZ e0 pr6 (y d0_4) <| o_icmpNo j (y d0_5) (XT.ii_ge_f (by decide)) <| o_aloadN j (y d0_8) rfl rfl <| o_iloadN j (y d0_9) rfl <| o_daload (v := (.double d1)) X0 hx hZ e0 pr6 ⟨by decide, by decide⟩ rfl (y d0_10) <| o_aloadN j (y d0_11) rfl rfl <| o_iloadN j (y d0_12) rfl <| o_daload (v := (.double f1)) X0 hx hZ e0 pr7 ⟨by decide, by decide⟩ rfl (y d0_13) <| o_dcmpS j (y d0_14) (v := XT.cmpL (v1.toInt64) (w1.toInt64)) (own_rep_cmp H1 H4 _) <| k) ?_
      by_cases C3 : (v1.toInt64) < (w1.toInt64)
      · refine og2 X0 hx (fun j _ k => o_ifNo j (y d0_15) (XT.ll_ge_f C3) <| o_iconstV j (-1) (y d0_18) rfl <| k) ?_
        exact rI X0 hx Bd (y d0_19) e0 ⟨(by simp [own_keys, C1, C2, C3]), (Fr.nil n0), rfl⟩
      · refine og2 X0 hx (fun j _ k => o_ifYes j (pc' := 20) (y d0_15) (XT.ll_ge_t C3) <| o_aloadN j (y d0_20) rfl rfl <| o_iloadN j (y d0_21) rfl <| o_daload (v := (.double d1)) X0 hx hZ e0 pr6 ⟨by decide, by decide⟩ rfl (y d0_22) <| o_aloadN j (y d0_23) rfl rfl <| o_iloadN j (y d0_24) rfl <| o_daload (v := (.double f1)) X0 hx hZ e0 pr7 ⟨by decide, by decide⟩ rfl (y d0_25) <| o_dcmpS j (y d0_26) (v := XT.cmpL (v1.toInt64) (w1.toInt64)) (own_rep_cmp H1 H4 _) <| k) ?_
        by_cases C4 : (w1.toInt64) < (v1.toInt64)
        · refine og2 X0 hx (fun j _ k => o_ifNo j (y d0_27) (XT.ll_le_f C4) <| o_iconstV j 1 (y d0_30) rfl <| k) ?_
          exact rI X0 hx Bd (y d0_31) e0 ⟨(by simp [own_keys, C1, C2, C3, C4]), (Fr.nil n0), rfl⟩
        · refine og2 X0 hx (fun j _ k => o_ifYes j (pc' := 32) (y d0_27) (XT.ll_le_t C4) <| o_iincL j 1 (y d0_32) rfl (2 : Int32) (by decide) rfl (l' := #[.val (.ref a1), .val (.ref a2), .val (.int 2)]) rfl <| o_goto j (pc' := 2) (y d0_35) <| o_iloadN j (y d0_2) rfl <| o_aloadN j (y d0_3) rfl rfl <| o_alen X0 hx hZ e0 pr6 (y d0_4) <| o_icmpNo j (y d0_5) (XT.ii_ge_f (by decide)) <| o_aloadN j (y d0_8) rfl rfl <| o_iloadN j (y d0_9) rfl <| o_daload (v := (.double d2)) X0 hx hZ e0 pr6 ⟨by decide, by decide⟩ rfl (y d0_10) <| o_aloadN j (y d0_11) rfl rfl <| o_iloadN j (y d0_12) rfl <| o_daload (v := (.double f2)) X0 hx hZ e0 pr7 ⟨by decide, by decide⟩ rfl (y d0_13) <| o_dcmpS j (y d0_14) (v := XT.cmpL (v2.toInt64) (w2.toInt64)) (own_rep_cmp H2 H5 _) <| k) ?_
          by_cases C5 : (v2.toInt64) < (w2.toInt64)
          · refine og2 X0 hx (fun j _ k => o_ifNo j (y d0_15) (XT.ll_ge_f C5) <| o_iconstV j (-1) (y d0_18) rfl <| k) ?_
            exact rI X0 hx Bd (y d0_19) e0 ⟨(by simp [own_keys, C1, C2, C3, C4, C5]), (Fr.nil n0), rfl⟩
          · refine og2 X0 hx (fun j _ k => o_ifYes j (pc' := 20) (y d0_15) (XT.ll_ge_t C5) <| o_aloadN j (y d0_20) rfl rfl <| o_iloadN j (y d0_21) rfl <| o_daload (v := (.double d2)) X0 hx hZ e0 pr6 ⟨by decide, by decide⟩ rfl (y d0_22) <| o_aloadN j (y d0_23) rfl rfl <| o_iloadN j (y d0_24) rfl <| o_daload (v := (.double f2)) X0 hx hZ e0 pr7 ⟨by decide, by decide⟩ rfl (y d0_25) <| o_dcmpS j (y d0_26) (v := XT.cmpL (v2.toInt64) (w2.toInt64)) (own_rep_cmp H2 H5 _) <| k) ?_
            by_cases C6 : (w2.toInt64) < (v2.toInt64)
            · refine og2 X0 hx (fun j _ k => o_ifNo j (y d0_27) (XT.ll_le_f C6) <| o_iconstV j 1 (y d0_30) rfl <| k) ?_
              exact rI X0 hx Bd (y d0_31) e0 ⟨(by simp [own_keys, C1, C2, C3, C4, C5, C6]), (Fr.nil n0), rfl⟩
            · refine og2 X0 hx (fun j _ k => o_ifYes j (pc' := 32) (y d0_27) (XT.ll_le_t C6) <| o_iincL j 1 (y d0_32) rfl (3 : Int32) (by decide) rfl (l' := #[.val (.ref a1), .val (.ref a2), .val (.int 3)]) rfl <| o_goto j (pc' := 2) (y d0_35) <| o_iloadN j (y d0_2) rfl <| o_aloadN j (y d0_3) rfl rfl <| o_alen X0 hx hZ e0 pr6 (y d0_4) <| o_icmpYes j (pc' := 38) (y d0_5) (XT.ii_ge_t (by decide)) <| o_iconstV j 0 (y d0_38) rfl <| k) ?_
              exact rI X0 hx Bd (y d0_39) e0 ⟨(by simp [own_keys, C1, C2, C3, C4, C5, C6]), (Fr.nil n0), rfl⟩

abbrev k3 := method_5_code
theorem d1_0 : decode k3 0 = .ok (.iload_n 0, 1) := by decide +kernel
theorem d1_1 : decode k3 1 = .ok (.ifCond .ge 5, 3) := by decide +kernel
theorem d1_4 : decode k3 4 = .ok (.iconst (-1), 1) := by decide +kernel
theorem d1_5 : decode k3 5 = .ok (.ireturn, 1) := by decide +kernel
theorem d1_6 : decode k3 6 = .ok (.iload_n 0, 1) := by decide +kernel
theorem d1_7 : decode k3 7 = .ok (.ifCond .le 5, 3) := by decide +kernel
theorem d1_10 : decode k3 10 = .ok (.iconst 1, 1) := by decide +kernel
theorem d1_11 : decode k3 11 = .ok (.ireturn, 1) := by decide +kernel
theorem d1_12 : decode k3 12 = .ok (.iconst 0, 1) := by decide +kernel
theorem d1_13 : decode k3 13 = .ok (.ireturn, 1) := by decide +kernel
theorem pn_com_example_pareto_loom_paretoloom_model_NondominatedSetCompareKeysPinLaw : plainName "com/example/pareto_loom/paretoloom/model/NondominatedSetCompareKeysPinLaw" = true := by first | (simp [plainName, overriddenIn]; done) | decide +kernel
theorem ef1 (m : MethodId) (x0 : Int32) : entryFrame m #[(.int x0)] 1 = (mkF m 0 #[.val (.int x0)] []) := by first | (simp [entryFrame, mkF, argsToLocals, Value.category]; done) | rfl
def QG (Z : State) (qr : Int32) (h0 : Heap) (n0 : Nat) (v : Option Value) (h : Heap) (L : List Loc) : Prop := v = some (.int (own_sg qr)) ∧ Fr n0 L ∧ h = h0
theorem rmG (l : Launch) (Z : State) (a0 : Array Value) (hw : HW a0 Z) (ws : List Jvm.Cond) (qr : Int32) (h0 : Heap) (n0 : Nat) (Z0 : n0 ≤ h0.size) :
    MF l Z ⟨"com/example/pareto_loom/paretoloom/model/NondominatedSetCompareKeysPinLaw", "sign", "(I)I"⟩ method_5_code 1 (some .int) ws R_0_0_0_0 #[(.int qr)] h0 (QG Z qr h0 n0) := by
  refine og_start (plainFor_of_name pn_com_example_pareto_loom_paretoloom_model_NondominatedSetCompareKeysPinLaw) fun p e s m below meth c s₁ Bd hx hby hml hZ hown hnm X0 e0 => ?_
  have y := @hb _ _ hby
  refine og (fun t k => castTop (ef1 m qr) k) ?_
  refine og2 X0 hx (fun j _ k => o_iloadN j (y d1_0) rfl <| k) ?_
  by_cases C1 : qr < 0
  · refine og2 X0 hx (fun j _ k => o_ifNo j (y d1_1) (XT.i0_ge_f C1) <| o_iconstV j (-1) (y d1_4) rfl <| k) ?_
    exact rI X0 hx Bd (y d1_5) e0 ⟨(by simp [own_sg, C1]), (Fr.nil n0), rfl⟩
  · refine og2 X0 hx (fun j _ k => o_ifYes j (pc' := 6) (y d1_1) (XT.i0_ge_t C1) <| o_iloadN j (y d1_6) rfl <| k) ?_
    by_cases C2 : 0 < qr
    · refine og2 X0 hx (fun j _ k => o_ifNo j (y d1_7) (XT.i0_le_f C2) <| o_iconstV j 1 (y d1_10) rfl <| k) ?_
      exact rI X0 hx Bd (y d1_11) e0 ⟨(by simp [own_sg, C1, C2]), (Fr.nil n0), rfl⟩
    · refine og2 X0 hx (fun j _ k => o_ifYes j (pc' := 12) (y d1_7) (XT.i0_le_t C2) <| o_iconstV j 0 (y d1_12) rfl <| k) ?_
      exact rI X0 hx Bd (y d1_13) e0 ⟨(by simp [own_sg, C1, C2]), (Fr.nil n0), rfl⟩

abbrev k2 := method_4_code
theorem d4_0 : decode k2 0 = .ok (.iload_n 0, 1) := by decide +kernel
theorem d4_1 : decode k2 1 = .ok (.iload_n 1, 1) := by decide +kernel
theorem d4_2 : decode k2 2 = .ok (.if_icmp .ge 5, 3) := by decide +kernel
theorem d4_5 : decode k2 5 = .ok (.iconst (-1), 1) := by decide +kernel
theorem d4_6 : decode k2 6 = .ok (.ireturn, 1) := by decide +kernel
theorem d4_7 : decode k2 7 = .ok (.iload_n 0, 1) := by decide +kernel
theorem d4_8 : decode k2 8 = .ok (.iload_n 1, 1) := by decide +kernel
theorem d4_9 : decode k2 9 = .ok (.if_icmp .le 5, 3) := by decide +kernel
theorem d4_12 : decode k2 12 = .ok (.iconst 1, 1) := by decide +kernel
theorem d4_13 : decode k2 13 = .ok (.ireturn, 1) := by decide +kernel
theorem d4_14 : decode k2 14 = .ok (.iconst 0, 1) := by decide +kernel
theorem d4_15 : decode k2 15 = .ok (.ireturn, 1) := by decide +kernel
theorem ef2 (m : MethodId) (x0 : Int32) (x1 : Int32) : entryFrame m #[(.int x0), (.int x1)] 2 = (mkF m 0 #[.val (.int x0), .val (.int x1)] []) := by first | (simp [entryFrame, mkF, argsToLocals, Value.category]; done) | rfl
def QS (Z : State) (qx : Int32) (qy : Int32) (h0 : Heap) (n0 : Nat) (v : Option Value) (h : Heap) (L : List Loc) : Prop := v = some (.int (own_sgn qx qy)) ∧ Fr n0 L ∧ h = h0
theorem rmS (l : Launch) (Z : State) (a0 : Array Value) (hw : HW a0 Z) (ws : List Jvm.Cond) (qx : Int32) (qy : Int32) (h0 : Heap) (n0 : Nat) (Z0 : n0 ≤ h0.size) :
    MF l Z ⟨"com/example/pareto_loom/paretoloom/model/NondominatedSetCompareKeysPinLaw", "sgn", "(II)I"⟩ method_4_code 2 (some .int) ws R_0_0_0_0 #[(.int qx), (.int qy)] h0 (QS Z qx qy h0 n0) := by
  refine og_start (plainFor_of_name pn_com_example_pareto_loom_paretoloom_model_NondominatedSetCompareKeysPinLaw) fun p e s m below meth c s₁ Bd hx hby hml hZ hown hnm X0 e0 => ?_
  have y := @hb _ _ hby
  refine og (fun t k => castTop (ef2 m qx qy) k) ?_
  refine og2 X0 hx (fun j _ k => o_iloadN j (y d4_0) rfl <| o_iloadN j (y d4_1) rfl <| k) ?_
  by_cases C1 : qx < qy
  · refine og2 X0 hx (fun j _ k => o_icmpNo j (y d4_2) (XT.ii_ge_f C1) <| o_iconstV j (-1) (y d4_5) rfl <| k) ?_
    exact rI X0 hx Bd (y d4_6) e0 ⟨(by simp [own_sgn, C1]), (Fr.nil n0), rfl⟩
  · refine og2 X0 hx (fun j _ k => o_icmpYes j (pc' := 7) (y d4_2) (XT.ii_ge_t C1) <| o_iloadN j (y d4_7) rfl <| o_iloadN j (y d4_8) rfl <| k) ?_
    by_cases C2 : qy < qx
    · refine og2 X0 hx (fun j _ k => o_icmpNo j (y d4_9) (XT.ii_le_f C2) <| o_iconstV j 1 (y d4_12) rfl <| k) ?_
      exact rI X0 hx Bd (y d4_13) e0 ⟨(by simp [own_sgn, C1, C2]), (Fr.nil n0), rfl⟩
    · refine og2 X0 hx (fun j _ k => o_icmpYes j (pc' := 14) (y d4_9) (XT.ii_le_t C2) <| o_iconstV j 0 (y d4_14) rfl <| k) ?_
      exact rI X0 hx Bd (y d4_15) e0 ⟨(by simp [own_sgn, C1, C2]), (Fr.nil n0), rfl⟩

abbrev k0 := method_2_code
theorem d3_0 : decode k0 0 = .ok (.iload_n 0, 1) := by decide +kernel
theorem d3_1 : decode k0 1 = .ok (.iconst 4, 1) := by decide +kernel
theorem d3_2 : decode k0 2 = .ok (.iload_n 2, 1) := by decide +kernel
theorem d3_3 : decode k0 3 = .ok (.imul, 1) := by decide +kernel
theorem d3_4 : decode k0 4 = .ok (.iushr, 1) := by decide +kernel
theorem d3_5 : decode k0 5 = .ok (.bipush 7, 2) := by decide +kernel
theorem d3_7 : decode k0 7 = .ok (.iand, 1) := by decide +kernel
theorem d3_8 : decode k0 8 = .ok (.iconst 3, 1) := by decide +kernel
theorem d3_9 : decode k0 9 = .ok (.isub, 1) := by decide +kernel
theorem d3_10 : decode k0 10 = .ok (.istore_n 3, 1) := by decide +kernel
theorem d3_11 : decode k0 11 = .ok (.iload_n 1, 1) := by decide +kernel
theorem d3_12 : decode k0 12 = .ok (.iload_n 2, 1) := by decide +kernel
theorem d3_13 : decode k0 13 = .ok (.iushr, 1) := by decide +kernel
theorem d3_14 : decode k0 14 = .ok (.iconst 1, 1) := by decide +kernel
theorem d3_15 : decode k0 15 = .ok (.iand, 1) := by decide +kernel
theorem d3_16 : decode k0 16 = .ok (.ifCond .eq 8, 3) := by decide +kernel
theorem d3_19 : decode k0 19 = .ok (.iload_n 3, 1) := by decide +kernel
theorem d3_20 : decode k0 20 = .ok (.ineg, 1) := by decide +kernel
theorem d3_21 : decode k0 21 = .ok (.goto 4, 3) := by decide +kernel
theorem d3_24 : decode k0 24 = .ok (.iload_n 3, 1) := by decide +kernel
theorem d3_25 : decode k0 25 = .ok (.ireturn, 1) := by decide +kernel
theorem ef3 (m : MethodId) (x0 : Int32) (x1 : Int32) (x2 : Int32) : entryFrame m #[(.int x0), (.int x1), (.int x2)] 4 = (mkF m 0 #[.val (.int x0), .val (.int x1), .val (.int x2), .unset] []) := by first | (simp [entryFrame, mkF, argsToLocals, Value.category]; done) | rfl
def QV (Z : State) (qp : Int32) (qn : Int32) (qi : Int32) (h0 : Heap) (n0 : Nat) (v : Option Value) (h : Heap) (L : List Loc) : Prop := v = some (.int (own_iv qp qn qi)) ∧ Fr n0 L ∧ h = h0
theorem rmV (l : Launch) (Z : State) (a0 : Array Value) (hw : HW a0 Z) (ws : List Jvm.Cond) (qp : Int32) (qn : Int32) (qi : Int32) (h0 : Heap) (n0 : Nat) (Z0 : n0 ≤ h0.size) :
    MF l Z ⟨"com/example/pareto_loom/paretoloom/model/NondominatedSetCompareKeysPinLaw", "iv", "(III)I"⟩ method_2_code 4 (some .int) ws R_0_0_0_0 #[(.int qp), (.int qn), (.int qi)] h0 (QV Z qp qn qi h0 n0) := by
  refine og_start (plainFor_of_name pn_com_example_pareto_loom_paretoloom_model_NondominatedSetCompareKeysPinLaw) fun p e s m below meth c s₁ Bd hx hby hml hZ hown hnm X0 e0 => ?_
  have y := @hb _ _ hby
  refine og (fun t k => castTop (ef3 m qp qn qi) k) ?_
  obtain ⟨vv, h_vv⟩ : ∃ z : Int32, z = ((XT.ushr qp ((4 : Int32) * qi)) &&& (7 : Int32)) - (3 : Int32) := ⟨_, rfl⟩
  refine og2 X0 hx (fun j _ k => o_iloadN j (y d3_0) rfl <| o_iconstV j 4 (y d3_1) rfl <| o_iloadN j (y d3_2) rfl <| o_imul j (y d3_3) <| o_iushr j (y d3_4) <| o_bipushV j 7 (y d3_5) rfl <| o_iand j (y d3_7) <| o_iconstV j 3 (y d3_8) rfl <| o_isub j (y d3_9) <| k) ?_
  rw [← h_vv]
  refine og2 X0 hx (fun j _ k => o_istoreN j (y d3_10) (l' := #[.val (.int qp), .val (.int qn), .val (.int qi), .val (.int vv)]) rfl <| o_iloadN j (y d3_11) rfl <| o_iloadN j (y d3_12) rfl <| o_iushr j (y d3_13) <| o_iconstV j 1 (y d3_14) rfl <| o_iand j (y d3_15) <| k) ?_
  by_cases C1 : (XT.ushr qn qi) &&& (1 : Int32) = 0
  · refine og2 X0 hx (fun j _ k => o_ifYes j (pc' := 24) (y d3_16) (XT.i0_eq_t C1) <| o_iloadN j (y d3_24) rfl <| k) ?_
    exact rI X0 hx Bd (y d3_25) e0 ⟨(by rw [h_vv]; simp [own_iv, own_v, C1]), (Fr.nil n0), rfl⟩
  · refine og2 X0 hx (fun j _ k => o_ifNo j (y d3_16) (XT.i0_eq_f C1) <| o_iloadN j (y d3_19) rfl <| o_ineg j (y d3_20) <| o_goto j (pc' := 25) (y d3_21) <| k) ?_
    exact rI X0 hx Bd (y d3_25) e0 ⟨(by rw [h_vv]; simp [own_iv, own_v, C1]), (Fr.nil n0), rfl⟩

abbrev k1 := method_3_code
theorem d2_0 : decode k1 0 = .ok (.iload_n 0, 1) := by decide +kernel
theorem d2_1 : decode k1 1 = .ok (.iconst 4, 1) := by decide +kernel
theorem d2_2 : decode k1 2 = .ok (.iload_n 2, 1) := by decide +kernel
theorem d2_3 : decode k1 3 = .ok (.imul, 1) := by decide +kernel
theorem d2_4 : decode k1 4 = .ok (.iushr, 1) := by decide +kernel
theorem d2_5 : decode k1 5 = .ok (.bipush 7, 2) := by decide +kernel
theorem d2_7 : decode k1 7 = .ok (.iand, 1) := by decide +kernel
theorem d2_8 : decode k1 8 = .ok (.iconst 3, 1) := by decide +kernel
theorem d2_9 : decode k1 9 = .ok (.isub, 1) := by decide +kernel
theorem d2_10 : decode k1 10 = .ok (.istore_n 3, 1) := by decide +kernel
theorem d2_11 : decode k1 11 = .ok (.iload_n 3, 1) := by decide +kernel
theorem d2_12 : decode k1 12 = .ok (.i2d, 1) := by decide +kernel
theorem d2_13 : decode k1 13 = .ok (.dstore 4, 2) := by decide +kernel
theorem d2_15 : decode k1 15 = .ok (.iload_n 1, 1) := by decide +kernel
theorem d2_16 : decode k1 16 = .ok (.iload_n 2, 1) := by decide +kernel
theorem d2_17 : decode k1 17 = .ok (.iushr, 1) := by decide +kernel
theorem d2_18 : decode k1 18 = .ok (.iconst 1, 1) := by decide +kernel
theorem d2_19 : decode k1 19 = .ok (.iand, 1) := by decide +kernel
theorem d2_20 : decode k1 20 = .ok (.ifCond .eq 9, 3) := by decide +kernel
theorem d2_23 : decode k1 23 = .ok (.dload 4, 2) := by decide +kernel
theorem d2_25 : decode k1 25 = .ok (.dneg, 1) := by decide +kernel
theorem d2_26 : decode k1 26 = .ok (.goto 5, 3) := by decide +kernel
theorem d2_29 : decode k1 29 = .ok (.dload 4, 2) := by decide +kernel
theorem d2_31 : decode k1 31 = .ok (.dreturn, 1) := by decide +kernel
theorem ef4 (m : MethodId) (x0 : Int32) (x1 : Int32) (x2 : Int32) : entryFrame m #[(.int x0), (.int x1), (.int x2)] 6 = (mkF m 0 #[.val (.int x0), .val (.int x1), .val (.int x2), .unset, .unset, .unset] []) := by first | (simp [entryFrame, mkF, argsToLocals, Value.category]; done) | rfl
def QD (Z : State) (qp : Int32) (qn : Int32) (qi : Int32) (h0 : Heap) (n0 : Nat) (v : Option Value) (h : Heap) (L : List Loc) : Prop := v = some (.double (own_dv qp qn qi)) ∧ Fr n0 L ∧ h = h0
theorem rmD (l : Launch) (Z : State) (a0 : Array Value) (hw : HW a0 Z) (ws : List Jvm.Cond) (qp : Int32) (qn : Int32) (qi : Int32) (h0 : Heap) (n0 : Nat) (Z0 : n0 ≤ h0.size) :
    MF l Z ⟨"com/example/pareto_loom/paretoloom/model/NondominatedSetCompareKeysPinLaw", "dv", "(III)D"⟩ method_3_code 6 (some .double) ws R_0_0_0_0 #[(.int qp), (.int qn), (.int qi)] h0 (QD Z qp qn qi h0 n0) := by
  refine og_start (plainFor_of_name pn_com_example_pareto_loom_paretoloom_model_NondominatedSetCompareKeysPinLaw) fun p e s m below meth c s₁ Bd hx hby hml hZ hown hnm X0 e0 => ?_
  have y := @hb _ _ hby
  refine og (fun t k => castTop (ef4 m qp qn qi) k) ?_
  obtain ⟨vv, h_vv⟩ : ∃ z : Int32, z = ((XT.ushr qp ((4 : Int32) * qi)) &&& (7 : Int32)) - (3 : Int32) := ⟨_, rfl⟩
  refine og2 X0 hx (fun j _ k => o_iloadN j (y d2_0) rfl <| o_iconstV j 4 (y d2_1) rfl <| o_iloadN j (y d2_2) rfl <| o_imul j (y d2_3) <| o_iushr j (y d2_4) <| o_bipushV j 7 (y d2_5) rfl <| o_iand j (y d2_7) <| o_iconstV j 3 (y d2_8) rfl <| o_isub j (y d2_9) <| k) ?_
  rw [← h_vv]
  refine og2 X0 hx (fun j _ k => o_istoreN j (y d2_10) (l' := #[.val (.int qp), .val (.int qn), .val (.int qi), .val (.int vv), .unset, .unset]) rfl <| o_iloadN j (y d2_11) rfl <| o_i2dS j (y d2_12) (v := FP.l2d (vv.toInt64)) (i2d_w _) <| o_dstore j (y d2_13) (l' := #[.val (.int qp), .val (.int qn), .val (.int qi), .val (.int vv), .val (.double (FP.l2d (vv.toInt64))), .second]) rfl <| o_iloadN j (y d2_15) rfl <| o_iloadN j (y d2_16) rfl <| o_iushr j (y d2_17) <| o_iconstV j 1 (y d2_18) rfl <| o_iand j (y d2_19) <| k) ?_
  by_cases C1 : (XT.ushr qn qi) &&& (1 : Int32) = 0
  · refine og2 X0 hx (fun j _ k => o_ifYes j (pc' := 29) (y d2_20) (XT.i0_eq_t C1) <| o_dload j (y d2_29) rfl <| k) ?_
    exact rD X0 hx Bd (y d2_31) e0 ⟨(by rw [h_vv]; simp [own_dv, own_v, C1]), (Fr.nil n0), rfl⟩
  · refine og2 X0 hx (fun j _ k => o_ifNo j (y d2_20) (XT.i0_eq_f C1) <| o_dload j (y d2_23) rfl <| o_dnegS j (y d2_25) (v := FP.dneg (FP.l2d (vv.toInt64))) rfl <| o_goto j (pc' := 31) (y d2_26) <| k) ?_
    exact rD X0 hx Bd (y d2_31) e0 ⟨(by rw [h_vv]; simp [own_dv, own_v, C1]), (Fr.nil n0), rfl⟩

theorem pd_oaDaDcI : parseMethodDescriptor "([D[D)I" = some ⟨[(.array .double), (.array .double)], some .int⟩ := by decide +kernel
theorem pd_oIcI : parseMethodDescriptor "(I)I" = some ⟨[.int], some .int⟩ := by decide +kernel
theorem ef5 (m : MethodId) (x0 : Int32) (x1 : Int32) (x2 : Int32) : entryFrame m #[(.int x0), (.int x1), (.int x2)] maxLocals = (mkF m 0 #[.val (.int x0), .val (.int x1), .val (.int x2), .unset, .unset, .unset, .unset, .unset, .unset, .unset, .unset] []) := by first | (simp [entryFrame, mkF, argsToLocals, Value.category, maxLocals]; done) | rfl
def Q0n0 (Z : State) (p1 : Int32) (p2 : Int32) (p3 : Int32) (h0 : Heap) (n0 : Nat) (v : Option Value) (h : Heap) (L : List Loc) : Prop := v = some (.int 1) ∧ Fr n0 L
theorem rm0n0 (l : Launch) (Z : State) (a0 : Array Value) (hw : HW a0 Z) (ws : List Jvm.Cond) (p1 : Int32) (p2 : Int32) (p3 : Int32) (h0 : Heap) (n0 : Nat) (Z0 : n0 ≤ h0.size) (H0 : p1 &&& 3 = 0) :
    MF l Z x code maxLocals ret ws room_1 #[(.int p1), (.int p2), (.int p3)] h0 (Q0n0 Z p1 p2 p3 h0 n0) := by
  refine og_start (plainFor_of_name pn_com_example_pareto_loom_paretoloom_model_NondominatedSetCompareKeysPinLaw) fun p e s m below meth c s₁ Bd hx hby hml hZ hown hnm X0 e0 => ?_
  have y := @hb _ _ hby
  have w := @wd _ _ hw
  refine og (fun t k => castTop (ef5 m p1 p2 p3) k) ?_
  obtain ⟨kn, h_kn⟩ : ∃ z : Int32, z = (XT.ushr p1 (2 : Int32)) &&& (7 : Int32) := ⟨_, rfl⟩
  obtain ⟨on, h_on⟩ : ∃ z : Int32, z = (XT.ushr p1 (5 : Int32)) &&& (7 : Int32) := ⟨_, rfl⟩
  refine og2 X0 hx (fun j _ k => o_iloadN j (y at_0) rfl <| o_iconstV j 3 (y at_1) rfl <| o_iand j (y at_2) <| k) ?_
  rw [H0]
  refine og2 X0 hx (fun j _ k => o_istoreN j (y at_3) (l' := #[.val (.int p1), .val (.int p2), .val (.int p3), .val (.int 0), .unset, .unset, .unset, .unset, .unset, .unset, .unset]) rfl <| o_iloadN j (y at_4) rfl <| o_iconstV j 2 (y at_5) rfl <| o_iushr j (y at_6) <| o_bipushV j 7 (y at_7) rfl <| o_iand j (y at_9) <| k) ?_
  rw [← h_kn]
  refine og2 X0 hx (fun j _ k => o_istore j (y at_10) (l' := #[.val (.int p1), .val (.int p2), .val (.int p3), .val (.int 0), .val (.int kn), .unset, .unset, .unset, .unset, .unset, .unset]) rfl <| o_iloadN j (y at_12) rfl <| o_iconstV j 5 (y at_13) rfl <| o_iushr j (y at_14) <| o_bipushV j 7 (y at_15) rfl <| o_iand j (y at_17) <| k) ?_
  rw [← h_on]
  refine og2 X0 hx (fun j _ k => o_istore j (y at_18) (l' := #[.val (.int p1), .val (.int p2), .val (.int p3), .val (.int 0), .val (.int kn), .val (.int on), .unset, .unset, .unset, .unset, .unset]) rfl <| o_iloadN j (y at_20) rfl <| k) ?_
  refine nP .double 0 "[D" X0 hx hZ (w 0 rfl) e0 (y at_21) (fun T1 h1 a1 kc1 g1 X1 e1 E1 A1 D1 => ?_)
  have Z1 : n0 ≤ h1.size := Nat.le_trans Z0 E1.1
  have A2 : Arv Z h1 a1 kc1 .double (0 : Int32) [] (.double (0 : UInt64)) := (A1.pad (pad_rep [] _ 0))
  refine og2 X1 hx (fun j _ k => o_astore j (y at_23) rfl (l' := #[.val (.int p1), .val (.int p2), .val (.int p3), .val (.int 0), .val (.int kn), .val (.int on), .val (.ref a1), .unset, .unset, .unset, .unset]) rfl <| o_iloadN j (y at_25) rfl <| k) ?_
  refine nP .double 0 "[D" X1 hx hZ (w 0 rfl) e1 (y at_26) (fun T3 h3 a3 kc3 g3 X3 e3 E3 A3 D3 => ?_)
  have Z3 : n0 ≤ h3.size := Nat.le_trans Z1 E3.1
  have A4 := (A2.ext E3)
  have A5 : Arv Z h3 a3 kc3 .double (0 : Int32) [] (.double (0 : UInt64)) := (A3.pad (pad_rep [] _ 0))
  refine og2 X3 hx (fun j _ k => o_astore j (y at_28) rfl (l' := #[.val (.int p1), .val (.int p2), .val (.int p3), .val (.int 0), .val (.int kn), .val (.int on), .val (.ref a1), .val (.ref a3), .unset, .unset, .unset]) rfl <| o_iloadN j (y at_30) rfl <| o_ifYes j (pc' := 56) (y at_31) (by decide) <| o_iloadN j (y at_56) rfl <| o_iconstV j 1 (y at_57) rfl <| o_icmpYes j (pc' := 83) (y at_58) (XT.ii_le_t (by decide)) <| o_iloadN j (y at_83) rfl <| o_iconstV j 2 (y at_84) rfl <| o_icmpYes j (pc' := 110) (y at_85) (XT.ii_le_t (by decide)) <| o_iconstV j 0 (y at_110) rfl <| o_istore j (y at_111) (l' := #[.val (.int p1), .val (.int p2), .val (.int p3), .val (.int 0), .val (.int kn), .val (.int on), .val (.ref a1), .val (.ref a3), .val (.int 0), .unset, .unset]) rfl <| o_iloadN j (y at_113) rfl <| o_ifYes j (pc' := 136) (y at_114) (by decide) <| o_iload j (y at_136) rfl <| o_ifNo j (y at_138) (by decide) <| o_iloadN j (y at_141) rfl <| o_iconstV j 1 (y at_142) rfl <| o_icmpYes j (pc' := 165) (y at_143) (XT.ii_le_t (by decide)) <| o_iload j (y at_165) rfl <| o_ifNo j (y at_167) (by decide) <| o_iloadN j (y at_170) rfl <| o_iconstV j 2 (y at_171) rfl <| o_icmpYes j (pc' := 194) (y at_172) (XT.ii_le_t (by decide)) <| o_aload j (y at_194) rfl rfl <| o_aload j (y at_196) rfl rfl <| k) ?_
  refine cS [(.ref a1), (.ref a3)] [] 0 X3 hx hZ hown (w 1 rfl) (w 2 rfl) (w 3 rfl) (w 4 rfl) (rmK0 l Z a0 hw [] a1 a3 kc1 kc3 h3 n0 Z3 A4 A5) e3 hml pd_oaDaDcI (y at_198) (fun v6 T6 L6 hQ6 X6 => ?_)
  obtain ⟨rfl, N6a, eh6⟩ := hQ6
  have N6 := Fr.app (Fr.nil n0) N6a
  have e6 : T6.heap = h3 := eh6
  refine og2 X6 hx (fun j _ k => o_istore j (y at_201) (l' := #[.val (.int p1), .val (.int p2), .val (.int p3), .val (.int 0), .val (.int kn), .val (.int on), .val (.ref a1), .val (.ref a3), .val (.int 0), .val (.int (own_keys [])), .unset]) rfl <| o_aload j (y at_203) rfl rfl <| o_aload j (y at_205) rfl rfl <| k) ?_
  refine cS [(.ref a3), (.ref a1)] [] 0 X6 hx hZ hown (w 1 rfl) (w 2 rfl) (w 3 rfl) (w 4 rfl) (rmK0 l Z a0 hw [] a3 a1 kc3 kc1 h3 n0 Z3 A5 A4) e6 hml pd_oaDaDcI (y at_207) (fun v7 T7 L7 hQ7 X7 => ?_)
  obtain ⟨rfl, N7a, eh7⟩ := hQ7
  have N7 := Fr.app N6 N7a
  have e7 : T7.heap = h3 := eh7
  refine og2 X7 hx (fun j _ k => o_istore j (y at_210) (l' := #[.val (.int p1), .val (.int p2), .val (.int p3), .val (.int 0), .val (.int kn), .val (.int on), .val (.ref a1), .val (.ref a3), .val (.int 0), .val (.int (own_keys [])), .val (.int (own_keys []))]) rfl <| o_iload j (y at_212) rfl <| k) ?_
  refine cS [(.int (own_keys []))] [] 0 X7 hx hZ hown (w 5 rfl) (w 6 rfl) (w 7 rfl) (w 8 rfl) (rmG l Z a0 hw [] (own_keys []) h3 n0 Z3) e7 hml pd_oIcI (y at_214) (fun v8 T8 L8 hQ8 X8 => ?_)
  obtain ⟨rfl, N8a, eh8⟩ := hQ8
  have N8 := Fr.app N7 N8a
  have e8 : T8.heap = h3 := eh8
  refine og2 X8 hx (fun j _ k => o_iload j (y at_217) rfl <| o_icmpNo j (y at_219) (XT.ii_ne_f ((own_fold_eq []).trans (rfl : own_fold [] = 0))) <| o_iload j (y at_222) rfl <| k) ?_
  refine cS [(.int (own_keys []))] [] 0 X8 hx hZ hown (w 5 rfl) (w 6 rfl) (w 7 rfl) (w 8 rfl) (rmG l Z a0 hw [] (own_keys []) h3 n0 Z3) e8 hml pd_oIcI (y at_224) (fun v9 T9 L9 hQ9 X9 => ?_)
  obtain ⟨rfl, N9a, eh9⟩ := hQ9
  have N9 := Fr.app N8 N9a
  have e9 : T9.heap = h3 := eh9
  refine og2 X9 hx (fun j _ k => o_iload j (y at_227) rfl <| o_ineg j (y at_229) <| o_icmpNo j (y at_230) (XT.ii_ne_f ((own_fold_sw []).trans (congrArg (fun z : Int32 => -z) (rfl : own_fold [] = 0)))) <| o_iconstV j 1 (y at_233) rfl <| o_goto j (pc' := 238) (y at_234) <| k) ?_
  exact rN X9 hx Bd (by simp) rfl (y at_238) e9 ⟨rfl, N9⟩

theorem pd_oIIIcD : parseMethodDescriptor "(III)D" = some ⟨[.int, .int, .int], some .double⟩ := by decide +kernel
theorem pd_oIIIcI : parseMethodDescriptor "(III)I" = some ⟨[.int, .int, .int], some .int⟩ := by decide +kernel
theorem pd_oIIcI : parseMethodDescriptor "(II)I" = some ⟨[.int, .int], some .int⟩ := by decide +kernel
def Q0n1 (Z : State) (p1 : Int32) (p2 : Int32) (p3 : Int32) (h0 : Heap) (n0 : Nat) (v : Option Value) (h : Heap) (L : List Loc) : Prop := v = some (.int 1) ∧ Fr n0 L
theorem rm0n1 (l : Launch) (Z : State) (a0 : Array Value) (hw : HW a0 Z) (ws : List Jvm.Cond) (p1 : Int32) (p2 : Int32) (p3 : Int32) (h0 : Heap) (n0 : Nat) (Z0 : n0 ≤ h0.size) (H0 : p1 &&& 3 = 1) :
    MF l Z x code maxLocals ret ws room_1 #[(.int p1), (.int p2), (.int p3)] h0 (Q0n1 Z p1 p2 p3 h0 n0) := by
  refine og_start (plainFor_of_name pn_com_example_pareto_loom_paretoloom_model_NondominatedSetCompareKeysPinLaw) fun p e s m below meth c s₁ Bd hx hby hml hZ hown hnm X0 e0 => ?_
  have y := @hb _ _ hby
  have w := @wd _ _ hw
  refine og (fun t k => castTop (ef5 m p1 p2 p3) k) ?_
  obtain ⟨kn, h_kn⟩ : ∃ z : Int32, z = (XT.ushr p1 (2 : Int32)) &&& (7 : Int32) := ⟨_, rfl⟩
  obtain ⟨on, h_on⟩ : ∃ z : Int32, z = (XT.ushr p1 (5 : Int32)) &&& (7 : Int32) := ⟨_, rfl⟩
  refine og2 X0 hx (fun j _ k => o_iloadN j (y at_0) rfl <| o_iconstV j 3 (y at_1) rfl <| o_iand j (y at_2) <| k) ?_
  rw [H0]
  refine og2 X0 hx (fun j _ k => o_istoreN j (y at_3) (l' := #[.val (.int p1), .val (.int p2), .val (.int p3), .val (.int 1), .unset, .unset, .unset, .unset, .unset, .unset, .unset]) rfl <| o_iloadN j (y at_4) rfl <| o_iconstV j 2 (y at_5) rfl <| o_iushr j (y at_6) <| o_bipushV j 7 (y at_7) rfl <| o_iand j (y at_9) <| k) ?_
  rw [← h_kn]
  refine og2 X0 hx (fun j _ k => o_istore j (y at_10) (l' := #[.val (.int p1), .val (.int p2), .val (.int p3), .val (.int 1), .val (.int kn), .unset, .unset, .unset, .unset, .unset, .unset]) rfl <| o_iloadN j (y at_12) rfl <| o_iconstV j 5 (y at_13) rfl <| o_iushr j (y at_14) <| o_bipushV j 7 (y at_15) rfl <| o_iand j (y at_17) <| k) ?_
  rw [← h_on]
  refine og2 X0 hx (fun j _ k => o_istore j (y at_18) (l' := #[.val (.int p1), .val (.int p2), .val (.int p3), .val (.int 1), .val (.int kn), .val (.int on), .unset, .unset, .unset, .unset, .unset]) rfl <| o_iloadN j (y at_20) rfl <| k) ?_
  refine nP .double 1 "[D" X0 hx hZ (w 0 rfl) e0 (y at_21) (fun T1 h1 a1 kc1 g1 X1 e1 E1 A1 D1 => ?_)
  have Z1 : n0 ≤ h1.size := Nat.le_trans Z0 E1.1
  have G1 : n0 ≤ a1 := Nat.le_trans Z0 (Nat.le_of_eq g1.symm)
  have A2 : Arv Z h1 a1 kc1 .double (1 : Int32) [(.double (0 : UInt64))] (.double (0 : UInt64)) := (A1.pad (pad_rep [] _ 1))
  refine og2 X1 hx (fun j _ k => o_astore j (y at_23) rfl (l' := #[.val (.int p1), .val (.int p2), .val (.int p3), .val (.int 1), .val (.int kn), .val (.int on), .val (.ref a1), .unset, .unset, .unset, .unset]) rfl <| o_iloadN j (y at_25) rfl <| k) ?_
  refine nP .double 1 "[D" X1 hx hZ (w 0 rfl) e1 (y at_26) (fun T3 h3 a3 kc3 g3 X3 e3 E3 A3 D3 => ?_)
  have Z3 : n0 ≤ h3.size := Nat.le_trans Z1 E3.1
  have G3 : n0 ≤ a3 := Nat.le_trans Z1 (Nat.le_of_eq g3.symm)
  have A4 := (A2.ext E3)
  have A5 : Arv Z h3 a3 kc3 .double (1 : Int32) [(.double (0 : UInt64))] (.double (0 : UInt64)) := (A3.pad (pad_rep [] _ 1))
  refine og2 X3 hx (fun j _ k => o_astore j (y at_28) rfl (l' := #[.val (.int p1), .val (.int p2), .val (.int p3), .val (.int 1), .val (.int kn), .val (.int on), .val (.ref a1), .val (.ref a3), .unset, .unset, .unset]) rfl <| o_iloadN j (y at_30) rfl <| o_ifNo j (y at_31) (by decide) <| o_aload j (y at_34) rfl rfl <| o_iconstV j 0 (y at_36) rfl <| o_iloadN j (y at_37) rfl <| o_iload j (y at_38) rfl <| o_iconstV j 0 (y at_40) rfl <| k) ?_
  refine cS [(.int p2), (.int kn), (.int 0)] [(.int 0), (.ref a1)] 2 X3 hx hZ hown (w 9 rfl) (w 10 rfl) (w 7 rfl) (w 11 rfl) (rmD l Z a0 hw [] p2 kn (0 : Int32) h3 n0 Z3) e3 hml pd_oIIIcD (y at_41) (fun v6 T6 L6 hQ6 X6 => ?_)
  obtain ⟨rfl, N6a, eh6⟩ := hQ6
  have N6 := Fr.app (Fr.nil n0) N6a
  have e6 : T6.heap = h3 := eh6
  refine sD 0 X6 hx hZ e6 A4 (y at_44) (fun T7 h7 X7 e7 W7 A7 => ?_)
  have N7 := Fr.snoc X7 N6 G1
  have Z7 : n0 ≤ h7.size := (by rw [W7.size]; exact Z3)
  have A8 := (A5.other W7 (Ne.symm (Nat.ne_of_lt (Nat.lt_of_lt_of_eq A2.lt g3.symm))))
  have A7v : Arv Z h7 a1 kc1 .double (1 : Int32) [(.double (own_dv p2 kn (0 : Int32)))] (.double (0 : UInt64)) := A7
  refine og2 X7 hx (fun j _ k => o_aload j (y at_45) rfl rfl <| o_iconstV j 0 (y at_47) rfl <| o_iloadN j (y at_48) rfl <| o_iload j (y at_49) rfl <| o_iconstV j 0 (y at_51) rfl <| k) ?_
  refine cS [(.int p3), (.int on), (.int 0)] [(.int 0), (.ref a3)] 2 X7 hx hZ hown (w 9 rfl) (w 10 rfl) (w 7 rfl) (w 11 rfl) (rmD l Z a0 hw [] p3 on (0 : Int32) h7 n0 Z7) e7 hml pd_oIIIcD (y at_52) (fun v9 T9 L9 hQ9 X9 => ?_)
  obtain ⟨rfl, N9a, eh9⟩ := hQ9
  have N9 := Fr.app N7 N9a
  have e9 : T9.heap = h7 := eh9
  refine sD 0 X9 hx hZ e9 A8 (y at_55) (fun T10 h10 X10 e10 W10 A10 => ?_)
  have N10 := Fr.snoc X10 N9 G3
  have Z10 : n0 ≤ h10.size := (by rw [W10.size]; exact Z7)
  have A11 := (A7v.other W10 (Nat.ne_of_lt (Nat.lt_of_lt_of_eq A2.lt g3.symm)))
  have A10v : Arv Z h10 a3 kc3 .double (1 : Int32) [(.double (own_dv p3 on (0 : Int32)))] (.double (0 : UInt64)) := A10
  refine og2 X10 hx (fun j _ k => o_iloadN j (y at_56) rfl <| o_iconstV j 1 (y at_57) rfl <| o_icmpYes j (pc' := 83) (y at_58) (XT.ii_le_t (by decide)) <| o_iloadN j (y at_83) rfl <| o_iconstV j 2 (y at_84) rfl <| o_icmpYes j (pc' := 110) (y at_85) (XT.ii_le_t (by decide)) <| o_iconstV j 0 (y at_110) rfl <| o_istore j (y at_111) (l' := #[.val (.int p1), .val (.int p2), .val (.int p3), .val (.int 1), .val (.int kn), .val (.int on), .val (.ref a1), .val (.ref a3), .val (.int 0), .unset, .unset]) rfl <| o_iloadN j (y at_113) rfl <| o_ifNo j (y at_114) (by decide) <| o_iloadN j (y at_117) rfl <| o_iload j (y at_118) rfl <| o_iconstV j 0 (y at_120) rfl <| k) ?_
  refine cS [(.int p2), (.int kn), (.int 0)] [] 0 X10 hx hZ hown (w 12 rfl) (w 13 rfl) (w 7 rfl) (w 14 rfl) (rmV l Z a0 hw [] p2 kn (0 : Int32) h10 n0 Z10) e10 hml pd_oIIIcI (y at_121) (fun v12 T12 L12 hQ12 X12 => ?_)
  obtain ⟨rfl, N12a, eh12⟩ := hQ12
  have N12 := Fr.app N10 N12a
  have e12 : T12.heap = h10 := eh12
  refine og2 X12 hx (fun j _ k => o_iloadN j (y at_124) rfl <| o_iload j (y at_125) rfl <| o_iconstV j 0 (y at_127) rfl <| k) ?_
  refine cS [(.int p3), (.int on), (.int 0)] [(.int (own_iv p2 kn (0 : Int32)))] 1 X12 hx hZ hown (w 12 rfl) (w 13 rfl) (w 7 rfl) (w 14 rfl) (rmV l Z a0 hw [] p3 on (0 : Int32) h10 n0 Z10) e12 hml pd_oIIIcI (y at_128) (fun v13 T13 L13 hQ13 X13 => ?_)
  obtain ⟨rfl, N13a, eh13⟩ := hQ13
  have N13 := Fr.app N12 N13a
  have e13 : T13.heap = h10 := eh13
  refine cS [(.int (own_iv p2 kn (0 : Int32))), (.int (own_iv p3 on (0 : Int32)))] [] 0 X13 hx hZ hown (w 15 rfl) (w 16 rfl) (w 7 rfl) (w 17 rfl) (rmS l Z a0 hw [] (own_iv p2 kn (0 : Int32)) (own_iv p3 on (0 : Int32)) h10 n0 Z10) e13 hml pd_oIIcI (y at_131) (fun v14 T14 L14 hQ14 X14 => ?_)
  obtain ⟨rfl, N14a, eh14⟩ := hQ14
  have N14 := Fr.app N13 N14a
  have e14 : T14.heap = h10 := eh14
  refine og2 X14 hx (fun j _ k => o_istore j (y at_134) (l' := #[.val (.int p1), .val (.int p2), .val (.int p3), .val (.int 1), .val (.int kn), .val (.int on), .val (.ref a1), .val (.ref a3), .val (.int (own_sgn (own_iv p2 kn (0 : Int32)) (own_iv p3 on (0 : Int32)))), .unset, .unset]) rfl <| o_iload j (y at_136) rfl <| k) ?_
  by_cases C15 : own_sgn (own_iv p2 kn (0 : Int32)) (own_iv p3 on (0 : Int32)) = 0
  · refine og2 X14 hx (fun j _ k => o_ifNo j (y at_138) (XT.i0_ne_f C15) <| o_iloadN j (y at_141) rfl <| o_iconstV j 1 (y at_142) rfl <| o_icmpYes j (pc' := 165) (y at_143) (XT.ii_le_t (by decide)) <| o_iload j (y at_165) rfl <| o_ifNo j (y at_167) (XT.i0_ne_f C15) <| o_iloadN j (y at_170) rfl <| o_iconstV j 2 (y at_171) rfl <| o_icmpYes j (pc' := 194) (y at_172) (XT.ii_le_t (by decide)) <| o_aload j (y at_194) rfl rfl <| o_aload j (y at_196) rfl rfl <| k) ?_
    refine cS [(.ref a1), (.ref a3)] [] 0 X14 hx hZ hown (w 1 rfl) (w 2 rfl) (w 3 rfl) (w 4 rfl) (rmK1 l Z a0 hw [] a1 a3 kc1 kc3 (own_dv p2 kn (0 : Int32)) (own_dv p3 on (0 : Int32)) (own_iv p2 kn (0 : Int32)) (own_iv p3 on (0 : Int32)) h10 n0 Z10 (own_rep_dv _ _ _) (own_rep_dv _ _ _) A11 A10v) e14 hml pd_oaDaDcI (y at_198) (fun v16 T16 L16 hQ16 X16 => ?_)
    obtain ⟨rfl, N16a, eh16⟩ := hQ16
    have N16 := Fr.app N14 N16a
    have e16 : T16.heap = h10 := eh16
    refine og2 X16 hx (fun j _ k => o_istore j (y at_201) (l' := #[.val (.int p1), .val (.int p2), .val (.int p3), .val (.int 1), .val (.int kn), .val (.int on), .val (.ref a1), .val (.ref a3), .val (.int (own_sgn (own_iv p2 kn (0 : Int32)) (own_iv p3 on (0 : Int32)))), .val (.int (own_keys [((own_iv p2 kn (0 : Int32)), (own_iv p3 on (0 : Int32)))])), .unset]) rfl <| o_aload j (y at_203) rfl rfl <| o_aload j (y at_205) rfl rfl <| k) ?_
    refine cS [(.ref a3), (.ref a1)] [] 0 X16 hx hZ hown (w 1 rfl) (w 2 rfl) (w 3 rfl) (w 4 rfl) (rmK1 l Z a0 hw [] a3 a1 kc3 kc1 (own_dv p3 on (0 : Int32)) (own_dv p2 kn (0 : Int32)) (own_iv p3 on (0 : Int32)) (own_iv p2 kn (0 : Int32)) h10 n0 Z10 (own_rep_dv _ _ _) (own_rep_dv _ _ _) A10v A11) e16 hml pd_oaDaDcI (y at_207) (fun v17 T17 L17 hQ17 X17 => ?_)
    obtain ⟨rfl, N17a, eh17⟩ := hQ17
    have N17 := Fr.app N16 N17a
    have e17 : T17.heap = h10 := eh17
    refine og2 X17 hx (fun j _ k => o_istore j (y at_210) (l' := #[.val (.int p1), .val (.int p2), .val (.int p3), .val (.int 1), .val (.int kn), .val (.int on), .val (.ref a1), .val (.ref a3), .val (.int (own_sgn (own_iv p2 kn (0 : Int32)) (own_iv p3 on (0 : Int32)))), .val (.int (own_keys [((own_iv p2 kn (0 : Int32)), (own_iv p3 on (0 : Int32)))])), .val (.int (own_keys [((own_iv p3 on (0 : Int32)), (own_iv p2 kn (0 : Int32)))]))]) rfl <| o_iload j (y at_212) rfl <| k) ?_
    refine cS [(.int (own_keys [((own_iv p2 kn (0 : Int32)), (own_iv p3 on (0 : Int32)))]))] [] 0 X17 hx hZ hown (w 5 rfl) (w 6 rfl) (w 7 rfl) (w 8 rfl) (rmG l Z a0 hw [] (own_keys [((own_iv p2 kn (0 : Int32)), (own_iv p3 on (0 : Int32)))]) h10 n0 Z10) e17 hml pd_oIcI (y at_214) (fun v18 T18 L18 hQ18 X18 => ?_)
    obtain ⟨rfl, N18a, eh18⟩ := hQ18
    have N18 := Fr.app N17 N18a
    have e18 : T18.heap = h10 := eh18
    refine og2 X18 hx (fun j _ k => o_iload j (y at_217) rfl <| o_icmpNo j (y at_219) (XT.ii_ne_f ((own_fold_eq [(own_iv p2 kn (0 : Int32), own_iv p3 on (0 : Int32))]).trans (own_fold_one _ _))) <| o_iload j (y at_222) rfl <| k) ?_
    refine cS [(.int (own_keys [((own_iv p3 on (0 : Int32)), (own_iv p2 kn (0 : Int32)))]))] [] 0 X18 hx hZ hown (w 5 rfl) (w 6 rfl) (w 7 rfl) (w 8 rfl) (rmG l Z a0 hw [] (own_keys [((own_iv p3 on (0 : Int32)), (own_iv p2 kn (0 : Int32)))]) h10 n0 Z10) e18 hml pd_oIcI (y at_224) (fun v19 T19 L19 hQ19 X19 => ?_)
    obtain ⟨rfl, N19a, eh19⟩ := hQ19
    have N19 := Fr.app N18 N19a
    have e19 : T19.heap = h10 := eh19
    refine og2 X19 hx (fun j _ k => o_iload j (y at_227) rfl <| o_ineg j (y at_229) <| o_icmpNo j (y at_230) (XT.ii_ne_f ((own_fold_sw [(own_iv p2 kn (0 : Int32), own_iv p3 on (0 : Int32))]).trans (congrArg (fun z : Int32 => -z) (own_fold_one _ _)))) <| o_iconstV j 1 (y at_233) rfl <| o_goto j (pc' := 238) (y at_234) <| k) ?_
    exact rN X19 hx Bd (by simp) rfl (y at_238) e19 ⟨rfl, N19⟩
  · refine og2 X14 hx (fun j _ k => o_ifYes j (pc' := 165) (y at_138) (XT.i0_ne_t C15) <| o_iload j (y at_165) rfl <| o_ifYes j (pc' := 194) (y at_167) (XT.i0_ne_t C15) <| o_aload j (y at_194) rfl rfl <| o_aload j (y at_196) rfl rfl <| k) ?_
    refine cS [(.ref a1), (.ref a3)] [] 0 X14 hx hZ hown (w 1 rfl) (w 2 rfl) (w 3 rfl) (w 4 rfl) (rmK1 l Z a0 hw [] a1 a3 kc1 kc3 (own_dv p2 kn (0 : Int32)) (own_dv p3 on (0 : Int32)) (own_iv p2 kn (0 : Int32)) (own_iv p3 on (0 : Int32)) h10 n0 Z10 (own_rep_dv _ _ _) (own_rep_dv _ _ _) A11 A10v) e14 hml pd_oaDaDcI (y at_198) (fun v20 T20 L20 hQ20 X20 => ?_)
    obtain ⟨rfl, N20a, eh20⟩ := hQ20
    have N20 := Fr.app N14 N20a
    have e20 : T20.heap = h10 := eh20
    refine og2 X20 hx (fun j _ k => o_istore j (y at_201) (l' := #[.val (.int p1), .val (.int p2), .val (.int p3), .val (.int 1), .val (.int kn), .val (.int on), .val (.ref a1), .val (.ref a3), .val (.int (own_sgn (own_iv p2 kn (0 : Int32)) (own_iv p3 on (0 : Int32)))), .val (.int (own_keys [((own_iv p2 kn (0 : Int32)), (own_iv p3 on (0 : Int32)))])), .unset]) rfl <| o_aload j (y at_203) rfl rfl <| o_aload j (y at_205) rfl rfl <| k) ?_
    refine cS [(.ref a3), (.ref a1)] [] 0 X20 hx hZ hown (w 1 rfl) (w 2 rfl) (w 3 rfl) (w 4 rfl) (rmK1 l Z a0 hw [] a3 a1 kc3 kc1 (own_dv p3 on (0 : Int32)) (own_dv p2 kn (0 : Int32)) (own_iv p3 on (0 : Int32)) (own_iv p2 kn (0 : Int32)) h10 n0 Z10 (own_rep_dv _ _ _) (own_rep_dv _ _ _) A10v A11) e20 hml pd_oaDaDcI (y at_207) (fun v21 T21 L21 hQ21 X21 => ?_)
    obtain ⟨rfl, N21a, eh21⟩ := hQ21
    have N21 := Fr.app N20 N21a
    have e21 : T21.heap = h10 := eh21
    refine og2 X21 hx (fun j _ k => o_istore j (y at_210) (l' := #[.val (.int p1), .val (.int p2), .val (.int p3), .val (.int 1), .val (.int kn), .val (.int on), .val (.ref a1), .val (.ref a3), .val (.int (own_sgn (own_iv p2 kn (0 : Int32)) (own_iv p3 on (0 : Int32)))), .val (.int (own_keys [((own_iv p2 kn (0 : Int32)), (own_iv p3 on (0 : Int32)))])), .val (.int (own_keys [((own_iv p3 on (0 : Int32)), (own_iv p2 kn (0 : Int32)))]))]) rfl <| o_iload j (y at_212) rfl <| k) ?_
    refine cS [(.int (own_keys [((own_iv p2 kn (0 : Int32)), (own_iv p3 on (0 : Int32)))]))] [] 0 X21 hx hZ hown (w 5 rfl) (w 6 rfl) (w 7 rfl) (w 8 rfl) (rmG l Z a0 hw [] (own_keys [((own_iv p2 kn (0 : Int32)), (own_iv p3 on (0 : Int32)))]) h10 n0 Z10) e21 hml pd_oIcI (y at_214) (fun v22 T22 L22 hQ22 X22 => ?_)
    obtain ⟨rfl, N22a, eh22⟩ := hQ22
    have N22 := Fr.app N21 N22a
    have e22 : T22.heap = h10 := eh22
    refine og2 X22 hx (fun j _ k => o_iload j (y at_217) rfl <| o_icmpNo j (y at_219) (XT.ii_ne_f ((own_fold_eq [(own_iv p2 kn (0 : Int32), own_iv p3 on (0 : Int32))]).trans (own_fold_one _ _))) <| o_iload j (y at_222) rfl <| k) ?_
    refine cS [(.int (own_keys [((own_iv p3 on (0 : Int32)), (own_iv p2 kn (0 : Int32)))]))] [] 0 X22 hx hZ hown (w 5 rfl) (w 6 rfl) (w 7 rfl) (w 8 rfl) (rmG l Z a0 hw [] (own_keys [((own_iv p3 on (0 : Int32)), (own_iv p2 kn (0 : Int32)))]) h10 n0 Z10) e22 hml pd_oIcI (y at_224) (fun v23 T23 L23 hQ23 X23 => ?_)
    obtain ⟨rfl, N23a, eh23⟩ := hQ23
    have N23 := Fr.app N22 N23a
    have e23 : T23.heap = h10 := eh23
    refine og2 X23 hx (fun j _ k => o_iload j (y at_227) rfl <| o_ineg j (y at_229) <| o_icmpNo j (y at_230) (XT.ii_ne_f ((own_fold_sw [(own_iv p2 kn (0 : Int32), own_iv p3 on (0 : Int32))]).trans (congrArg (fun z : Int32 => -z) (own_fold_one _ _)))) <| o_iconstV j 1 (y at_233) rfl <| o_goto j (pc' := 238) (y at_234) <| k) ?_
    exact rN X23 hx Bd (by simp) rfl (y at_238) e23 ⟨rfl, N23⟩

def Q0n2 (Z : State) (p1 : Int32) (p2 : Int32) (p3 : Int32) (h0 : Heap) (n0 : Nat) (v : Option Value) (h : Heap) (L : List Loc) : Prop := v = some (.int 1) ∧ Fr n0 L
theorem rm0n2 (l : Launch) (Z : State) (a0 : Array Value) (hw : HW a0 Z) (ws : List Jvm.Cond) (p1 : Int32) (p2 : Int32) (p3 : Int32) (h0 : Heap) (n0 : Nat) (Z0 : n0 ≤ h0.size) (H0 : p1 &&& 3 = 2) :
    MF l Z x code maxLocals ret ws room_1 #[(.int p1), (.int p2), (.int p3)] h0 (Q0n2 Z p1 p2 p3 h0 n0) := by
  refine og_start (plainFor_of_name pn_com_example_pareto_loom_paretoloom_model_NondominatedSetCompareKeysPinLaw) fun p e s m below meth c s₁ Bd hx hby hml hZ hown hnm X0 e0 => ?_
  have y := @hb _ _ hby
  have w := @wd _ _ hw
  refine og (fun t k => castTop (ef5 m p1 p2 p3) k) ?_
  obtain ⟨kn, h_kn⟩ : ∃ z : Int32, z = (XT.ushr p1 (2 : Int32)) &&& (7 : Int32) := ⟨_, rfl⟩
  obtain ⟨on, h_on⟩ : ∃ z : Int32, z = (XT.ushr p1 (5 : Int32)) &&& (7 : Int32) := ⟨_, rfl⟩
  refine og2 X0 hx (fun j _ k => o_iloadN j (y at_0) rfl <| o_iconstV j 3 (y at_1) rfl <| o_iand j (y at_2) <| k) ?_
  rw [H0]
  refine og2 X0 hx (fun j _ k => o_istoreN j (y at_3) (l' := #[.val (.int p1), .val (.int p2), .val (.int p3), .val (.int 2), .unset, .unset, .unset, .unset, .unset, .unset, .unset]) rfl <| o_iloadN j (y at_4) rfl <| o_iconstV j 2 (y at_5) rfl <| o_iushr j (y at_6) <| o_bipushV j 7 (y at_7) rfl <| o_iand j (y at_9) <| k) ?_
  rw [← h_kn]
  refine og2 X0 hx (fun j _ k => o_istore j (y at_10) (l' := #[.val (.int p1), .val (.int p2), .val (.int p3), .val (.int 2), .val (.int kn), .unset, .unset, .unset, .unset, .unset, .unset]) rfl <| o_iloadN j (y at_12) rfl <| o_iconstV j 5 (y at_13) rfl <| o_iushr j (y at_14) <| o_bipushV j 7 (y at_15) rfl <| o_iand j (y at_17) <| k) ?_
  rw [← h_on]
  refine og2 X0 hx (fun j _ k => o_istore j (y at_18) (l' := #[.val (.int p1), .val (.int p2), .val (.int p3), .val (.int 2), .val (.int kn), .val (.int on), .unset, .unset, .unset, .unset, .unset]) rfl <| o_iloadN j (y at_20) rfl <| k) ?_
  refine nP .double 2 "[D" X0 hx hZ (w 0 rfl) e0 (y at_21) (fun T1 h1 a1 kc1 g1 X1 e1 E1 A1 D1 => ?_)
  have Z1 : n0 ≤ h1.size := Nat.le_trans Z0 E1.1
  have G1 : n0 ≤ a1 := Nat.le_trans Z0 (Nat.le_of_eq g1.symm)
  have A2 : Arv Z h1 a1 kc1 .double (2 : Int32) [(.double (0 : UInt64)), (.double (0 : UInt64))] (.double (0 : UInt64)) := (A1.pad (pad_rep [] _ 2))
  refine og2 X1 hx (fun j _ k => o_astore j (y at_23) rfl (l' := #[.val (.int p1), .val (.int p2), .val (.int p3), .val (.int 2), .val (.int kn), .val (.int on), .val (.ref a1), .unset, .unset, .unset, .unset]) rfl <| o_iloadN j (y at_25) rfl <| k) ?_
  refine nP .double 2 "[D" X1 hx hZ (w 0 rfl) e1 (y at_26) (fun T3 h3 a3 kc3 g3 X3 e3 E3 A3 D3 => ?_)
  have Z3 : n0 ≤ h3.size := Nat.le_trans Z1 E3.1
  have G3 : n0 ≤ a3 := Nat.le_trans Z1 (Nat.le_of_eq g3.symm)
  have A4 := (A2.ext E3)
  have A5 : Arv Z h3 a3 kc3 .double (2 : Int32) [(.double (0 : UInt64)), (.double (0 : UInt64))] (.double (0 : UInt64)) := (A3.pad (pad_rep [] _ 2))
  refine og2 X3 hx (fun j _ k => o_astore j (y at_28) rfl (l' := #[.val (.int p1), .val (.int p2), .val (.int p3), .val (.int 2), .val (.int kn), .val (.int on), .val (.ref a1), .val (.ref a3), .unset, .unset, .unset]) rfl <| o_iloadN j (y at_30) rfl <| o_ifNo j (y at_31) (by decide) <| o_aload j (y at_34) rfl rfl <| o_iconstV j 0 (y at_36) rfl <| o_iloadN j (y at_37) rfl <| o_iload j (y at_38) rfl <| o_iconstV j 0 (y at_40) rfl <| k) ?_
  refine cS [(.int p2), (.int kn), (.int 0)] [(.int 0), (.ref a1)] 2 X3 hx hZ hown (w 9 rfl) (w 10 rfl) (w 7 rfl) (w 11 rfl) (rmD l Z a0 hw [] p2 kn (0 : Int32) h3 n0 Z3) e3 hml pd_oIIIcD (y at_41) (fun v6 T6 L6 hQ6 X6 => ?_)
  obtain ⟨rfl, N6a, eh6⟩ := hQ6
  have N6 := Fr.app (Fr.nil n0) N6a
  have e6 : T6.heap = h3 := eh6
  refine sD 0 X6 hx hZ e6 A4 (y at_44) (fun T7 h7 X7 e7 W7 A7 => ?_)
  have N7 := Fr.snoc X7 N6 G1
  have Z7 : n0 ≤ h7.size := (by rw [W7.size]; exact Z3)
  have A8 := (A5.other W7 (Ne.symm (Nat.ne_of_lt (Nat.lt_of_lt_of_eq A2.lt g3.symm))))
  have A7v : Arv Z h7 a1 kc1 .double (2 : Int32) [(.double (own_dv p2 kn (0 : Int32))), (.double (0 : UInt64))] (.double (0 : UInt64)) := A7
  refine og2 X7 hx (fun j _ k => o_aload j (y at_45) rfl rfl <| o_iconstV j 0 (y at_47) rfl <| o_iloadN j (y at_48) rfl <| o_iload j (y at_49) rfl <| o_iconstV j 0 (y at_51) rfl <| k) ?_
  refine cS [(.int p3), (.int on), (.int 0)] [(.int 0), (.ref a3)] 2 X7 hx hZ hown (w 9 rfl) (w 10 rfl) (w 7 rfl) (w 11 rfl) (rmD l Z a0 hw [] p3 on (0 : Int32) h7 n0 Z7) e7 hml pd_oIIIcD (y at_52) (fun v9 T9 L9 hQ9 X9 => ?_)
  obtain ⟨rfl, N9a, eh9⟩ := hQ9
  have N9 := Fr.app N7 N9a
  have e9 : T9.heap = h7 := eh9
  refine sD 0 X9 hx hZ e9 A8 (y at_55) (fun T10 h10 X10 e10 W10 A10 => ?_)
  have N10 := Fr.snoc X10 N9 G3
  have Z10 : n0 ≤ h10.size := (by rw [W10.size]; exact Z7)
  have A11 := (A7v.other W10 (Nat.ne_of_lt (Nat.lt_of_lt_of_eq A2.lt g3.symm)))
  have A10v : Arv Z h10 a3 kc3 .double (2 : Int32) [(.double (own_dv p3 on (0 : Int32))), (.double (0 : UInt64))] (.double (0 : UInt64)) := A10
  refine og2 X10 hx (fun j _ k => o_iloadN j (y at_56) rfl <| o_iconstV j 1 (y at_57) rfl <| o_icmpNo j (y at_58) (XT.ii_le_f (by decide)) <| o_aload j (y at_61) rfl rfl <| o_iconstV j 1 (y at_63) rfl <| o_iloadN j (y at_64) rfl <| o_iload j (y at_65) rfl <| o_iconstV j 1 (y at_67) rfl <| k) ?_
  refine cS [(.int p2), (.int kn), (.int 1)] [(.int 1), (.ref a1)] 2 X10 hx hZ hown (w 9 rfl) (w 10 rfl) (w 7 rfl) (w 11 rfl) (rmD l Z a0 hw [] p2 kn (1 : Int32) h10 n0 Z10) e10 hml pd_oIIIcD (y at_68) (fun v12 T12 L12 hQ12 X12 => ?_)
  obtain ⟨rfl, N12a, eh12⟩ := hQ12
  have N12 := Fr.app N10 N12a
  have e12 : T12.heap = h10 := eh12
  refine sD 1 X12 hx hZ e12 A11 (y at_71) (fun T13 h13 X13 e13 W13 A13 => ?_)
  have N13 := Fr.snoc X13 N12 G1
  have Z13 : n0 ≤ h13.size := (by rw [W13.size]; exact Z10)
  have A14 := (A10v.other W13 (Ne.symm (Nat.ne_of_lt (Nat.lt_of_lt_of_eq A2.lt g3.symm))))
  have A13v : Arv Z h13 a1 kc1 .double (2 : Int32) [(.double (own_dv p2 kn (0 : Int32))), (.double (own_dv p2 kn (1 : Int32)))] (.double (0 : UInt64)) := A13
  refine og2 X13 hx (fun j _ k => o_aload j (y at_72) rfl rfl <| o_iconstV j 1 (y at_74) rfl <| o_iloadN j (y at_75) rfl <| o_iload j (y at_76) rfl <| o_iconstV j 1 (y at_78) rfl <| k) ?_
  refine cS [(.int p3), (.int on), (.int 1)] [(.int 1), (.ref a3)] 2 X13 hx hZ hown (w 9 rfl) (w 10 rfl) (w 7 rfl) (w 11 rfl) (rmD l Z a0 hw [] p3 on (1 : Int32) h13 n0 Z13) e13 hml pd_oIIIcD (y at_79) (fun v15 T15 L15 hQ15 X15 => ?_)
  obtain ⟨rfl, N15a, eh15⟩ := hQ15
  have N15 := Fr.app N13 N15a
  have e15 : T15.heap = h13 := eh15
  refine sD 1 X15 hx hZ e15 A14 (y at_82) (fun T16 h16 X16 e16 W16 A16 => ?_)
  have N16 := Fr.snoc X16 N15 G3
  have Z16 : n0 ≤ h16.size := (by rw [W16.size]; exact Z13)
  have A17 := (A13v.other W16 (Nat.ne_of_lt (Nat.lt_of_lt_of_eq A2.lt g3.symm)))
  have A16v : Arv Z h16 a3 kc3 .double (2 : Int32) [(.double (own_dv p3 on (0 : Int32))), (.double (own_dv p3 on (1 : Int32)))] (.double (0 : UInt64)) := A16
  refine og2 X16 hx (fun j _ k => o_iloadN j (y at_83) rfl <| o_iconstV j 2 (y at_84) rfl <| o_icmpYes j (pc' := 110) (y at_85) (XT.ii_le_t (by decide)) <| o_iconstV j 0 (y at_110) rfl <| o_istore j (y at_111) (l' := #[.val (.int p1), .val (.int p2), .val (.int p3), .val (.int 2), .val (.int kn), .val (.int on), .val (.ref a1), .val (.ref a3), .val (.int 0), .unset, .unset]) rfl <| o_iloadN j (y at_113) rfl <| o_ifNo j (y at_114) (by decide) <| o_iloadN j (y at_117) rfl <| o_iload j (y at_118) rfl <| o_iconstV j 0 (y at_120) rfl <| k) ?_
  refine cS [(.int p2), (.int kn), (.int 0)] [] 0 X16 hx hZ hown (w 12 rfl) (w 13 rfl) (w 7 rfl) (w 14 rfl) (rmV l Z a0 hw [] p2 kn (0 : Int32) h16 n0 Z16) e16 hml pd_oIIIcI (y at_121) (fun v18 T18 L18 hQ18 X18 => ?_)
  obtain ⟨rfl, N18a, eh18⟩ := hQ18
  have N18 := Fr.app N16 N18a
  have e18 : T18.heap = h16 := eh18
  refine og2 X18 hx (fun j _ k => o_iloadN j (y at_124) rfl <| o_iload j (y at_125) rfl <| o_iconstV j 0 (y at_127) rfl <| k) ?_
  refine cS [(.int p3), (.int on), (.int 0)] [(.int (own_iv p2 kn (0 : Int32)))] 1 X18 hx hZ hown (w 12 rfl) (w 13 rfl) (w 7 rfl) (w 14 rfl) (rmV l Z a0 hw [] p3 on (0 : Int32) h16 n0 Z16) e18 hml pd_oIIIcI (y at_128) (fun v19 T19 L19 hQ19 X19 => ?_)
  obtain ⟨rfl, N19a, eh19⟩ := hQ19
  have N19 := Fr.app N18 N19a
  have e19 : T19.heap = h16 := eh19
  refine cS [(.int (own_iv p2 kn (0 : Int32))), (.int (own_iv p3 on (0 : Int32)))] [] 0 X19 hx hZ hown (w 15 rfl) (w 16 rfl) (w 7 rfl) (w 17 rfl) (rmS l Z a0 hw [] (own_iv p2 kn (0 : Int32)) (own_iv p3 on (0 : Int32)) h16 n0 Z16) e19 hml pd_oIIcI (y at_131) (fun v20 T20 L20 hQ20 X20 => ?_)
  obtain ⟨rfl, N20a, eh20⟩ := hQ20
  have N20 := Fr.app N19 N20a
  have e20 : T20.heap = h16 := eh20
  refine og2 X20 hx (fun j _ k => o_istore j (y at_134) (l' := #[.val (.int p1), .val (.int p2), .val (.int p3), .val (.int 2), .val (.int kn), .val (.int on), .val (.ref a1), .val (.ref a3), .val (.int (own_sgn (own_iv p2 kn (0 : Int32)) (own_iv p3 on (0 : Int32)))), .unset, .unset]) rfl <| o_iload j (y at_136) rfl <| k) ?_
  by_cases C21 : own_sgn (own_iv p2 kn (0 : Int32)) (own_iv p3 on (0 : Int32)) = 0
  · refine og2 X20 hx (fun j _ k => o_ifNo j (y at_138) (XT.i0_ne_f C21) <| o_iloadN j (y at_141) rfl <| o_iconstV j 1 (y at_142) rfl <| o_icmpNo j (y at_143) (XT.ii_le_f (by decide)) <| o_iloadN j (y at_146) rfl <| o_iload j (y at_147) rfl <| o_iconstV j 1 (y at_149) rfl <| k) ?_
    refine cS [(.int p2), (.int kn), (.int 1)] [] 0 X20 hx hZ hown (w 12 rfl) (w 13 rfl) (w 7 rfl) (w 14 rfl) (rmV l Z a0 hw [] p2 kn (1 : Int32) h16 n0 Z16) e20 hml pd_oIIIcI (y at_150) (fun v22 T22 L22 hQ22 X22 => ?_)
    obtain ⟨rfl, N22a, eh22⟩ := hQ22
    have N22 := Fr.app N20 N22a
    have e22 : T22.heap = h16 := eh22
    refine og2 X22 hx (fun j _ k => o_iloadN j (y at_153) rfl <| o_iload j (y at_154) rfl <| o_iconstV j 1 (y at_156) rfl <| k) ?_
    refine cS [(.int p3), (.int on), (.int 1)] [(.int (own_iv p2 kn (1 : Int32)))] 1 X22 hx hZ hown (w 12 rfl) (w 13 rfl) (w 7 rfl) (w 14 rfl) (rmV l Z a0 hw [] p3 on (1 : Int32) h16 n0 Z16) e22 hml pd_oIIIcI (y at_157) (fun v23 T23 L23 hQ23 X23 => ?_)
    obtain ⟨rfl, N23a, eh23⟩ := hQ23
    have N23 := Fr.app N22 N23a
    have e23 : T23.heap = h16 := eh23
    refine cS [(.int (own_iv p2 kn (1 : Int32))), (.int (own_iv p3 on (1 : Int32)))] [] 0 X23 hx hZ hown (w 15 rfl) (w 16 rfl) (w 7 rfl) (w 17 rfl) (rmS l Z a0 hw [] (own_iv p2 kn (1 : Int32)) (own_iv p3 on (1 : Int32)) h16 n0 Z16) e23 hml pd_oIIcI (y at_160) (fun v24 T24 L24 hQ24 X24 => ?_)
    obtain ⟨rfl, N24a, eh24⟩ := hQ24
    have N24 := Fr.app N23 N24a
    have e24 : T24.heap = h16 := eh24
    refine og2 X24 hx (fun j _ k => o_istore j (y at_163) (l' := #[.val (.int p1), .val (.int p2), .val (.int p3), .val (.int 2), .val (.int kn), .val (.int on), .val (.ref a1), .val (.ref a3), .val (.int (own_sgn (own_iv p2 kn (1 : Int32)) (own_iv p3 on (1 : Int32)))), .unset, .unset]) rfl <| o_iload j (y at_165) rfl <| k) ?_
    by_cases C25 : own_sgn (own_iv p2 kn (1 : Int32)) (own_iv p3 on (1 : Int32)) = 0
    · refine og2 X24 hx (fun j _ k => o_ifNo j (y at_167) (XT.i0_ne_f C25) <| o_iloadN j (y at_170) rfl <| o_iconstV j 2 (y at_171) rfl <| o_icmpYes j (pc' := 194) (y at_172) (XT.ii_le_t (by decide)) <| o_aload j (y at_194) rfl rfl <| o_aload j (y at_196) rfl rfl <| k) ?_
      refine cS [(.ref a1), (.ref a3)] [] 0 X24 hx hZ hown (w 1 rfl) (w 2 rfl) (w 3 rfl) (w 4 rfl) (rmK2 l Z a0 hw [] a1 a3 kc1 kc3 (own_dv p2 kn (0 : Int32)) (own_dv p2 kn (1 : Int32)) (own_dv p3 on (0 : Int32)) (own_dv p3 on (1 : Int32)) (own_iv p2 kn (0 : Int32)) (own_iv p2 kn (1 : Int32)) (own_iv p3 on (0 : Int32)) (own_iv p3 on (1 : Int32)) h16 n0 Z16 (own_rep_dv _ _ _) (own_rep_dv _ _ _) (own_rep_dv _ _ _) (own_rep_dv _ _ _) A17 A16v) e24 hml pd_oaDaDcI (y at_198) (fun v26 T26 L26 hQ26 X26 => ?_)
      obtain ⟨rfl, N26a, eh26⟩ := hQ26
      have N26 := Fr.app N24 N26a
      have e26 : T26.heap = h16 := eh26
      refine og2 X26 hx (fun j _ k => o_istore j (y at_201) (l' := #[.val (.int p1), .val (.int p2), .val (.int p3), .val (.int 2), .val (.int kn), .val (.int on), .val (.ref a1), .val (.ref a3), .val (.int (own_sgn (own_iv p2 kn (1 : Int32)) (own_iv p3 on (1 : Int32)))), .val (.int (own_keys [((own_iv p2 kn (0 : Int32)), (own_iv p3 on (0 : Int32))), ((own_iv p2 kn (1 : Int32)), (own_iv p3 on (1 : Int32)))])), .unset]) rfl <| o_aload j (y at_203) rfl rfl <| o_aload j (y at_205) rfl rfl <| k) ?_
      refine cS [(.ref a3), (.ref a1)] [] 0 X26 hx hZ hown (w 1 rfl) (w 2 rfl) (w 3 rfl) (w 4 rfl) (rmK2 l Z a0 hw [] a3 a1 kc3 kc1 (own_dv p3 on (0 : Int32)) (own_dv p3 on (1 : Int32)) (own_dv p2 kn (0 : Int32)) (own_dv p2 kn (1 : Int32)) (own_iv p3 on (0 : Int32)) (own_iv p3 on (1 : Int32)) (own_iv p2 kn (0 : Int32)) (own_iv p2 kn (1 : Int32)) h16 n0 Z16 (own_rep_dv _ _ _) (own_rep_dv _ _ _) (own_rep_dv _ _ _) (own_rep_dv _ _ _) A16v A17) e26 hml pd_oaDaDcI (y at_207) (fun v27 T27 L27 hQ27 X27 => ?_)
      obtain ⟨rfl, N27a, eh27⟩ := hQ27
      have N27 := Fr.app N26 N27a
      have e27 : T27.heap = h16 := eh27
      refine og2 X27 hx (fun j _ k => o_istore j (y at_210) (l' := #[.val (.int p1), .val (.int p2), .val (.int p3), .val (.int 2), .val (.int kn), .val (.int on), .val (.ref a1), .val (.ref a3), .val (.int (own_sgn (own_iv p2 kn (1 : Int32)) (own_iv p3 on (1 : Int32)))), .val (.int (own_keys [((own_iv p2 kn (0 : Int32)), (own_iv p3 on (0 : Int32))), ((own_iv p2 kn (1 : Int32)), (own_iv p3 on (1 : Int32)))])), .val (.int (own_keys [((own_iv p3 on (0 : Int32)), (own_iv p2 kn (0 : Int32))), ((own_iv p3 on (1 : Int32)), (own_iv p2 kn (1 : Int32)))]))]) rfl <| o_iload j (y at_212) rfl <| k) ?_
      refine cS [(.int (own_keys [((own_iv p2 kn (0 : Int32)), (own_iv p3 on (0 : Int32))), ((own_iv p2 kn (1 : Int32)), (own_iv p3 on (1 : Int32)))]))] [] 0 X27 hx hZ hown (w 5 rfl) (w 6 rfl) (w 7 rfl) (w 8 rfl) (rmG l Z a0 hw [] (own_keys [((own_iv p2 kn (0 : Int32)), (own_iv p3 on (0 : Int32))), ((own_iv p2 kn (1 : Int32)), (own_iv p3 on (1 : Int32)))]) h16 n0 Z16) e27 hml pd_oIcI (y at_214) (fun v28 T28 L28 hQ28 X28 => ?_)
      obtain ⟨rfl, N28a, eh28⟩ := hQ28
      have N28 := Fr.app N27 N28a
      have e28 : T28.heap = h16 := eh28
      refine og2 X28 hx (fun j _ k => o_iload j (y at_217) rfl <| o_icmpNo j (y at_219) (XT.ii_ne_f ((own_fold_eq [(own_iv p2 kn (0 : Int32), own_iv p3 on (0 : Int32)), (own_iv p2 kn (1 : Int32), own_iv p3 on (1 : Int32))]).trans ((own_fold_z C21).trans (own_fold_one _ _)))) <| o_iload j (y at_222) rfl <| k) ?_
      refine cS [(.int (own_keys [((own_iv p3 on (0 : Int32)), (own_iv p2 kn (0 : Int32))), ((own_iv p3 on (1 : Int32)), (own_iv p2 kn (1 : Int32)))]))] [] 0 X28 hx hZ hown (w 5 rfl) (w 6 rfl) (w 7 rfl) (w 8 rfl) (rmG l Z a0 hw [] (own_keys [((own_iv p3 on (0 : Int32)), (own_iv p2 kn (0 : Int32))), ((own_iv p3 on (1 : Int32)), (own_iv p2 kn (1 : Int32)))]) h16 n0 Z16) e28 hml pd_oIcI (y at_224) (fun v29 T29 L29 hQ29 X29 => ?_)
      obtain ⟨rfl, N29a, eh29⟩ := hQ29
      have N29 := Fr.app N28 N29a
      have e29 : T29.heap = h16 := eh29
      refine og2 X29 hx (fun j _ k => o_iload j (y at_227) rfl <| o_ineg j (y at_229) <| o_icmpNo j (y at_230) (XT.ii_ne_f ((own_fold_sw [(own_iv p2 kn (0 : Int32), own_iv p3 on (0 : Int32)), (own_iv p2 kn (1 : Int32), own_iv p3 on (1 : Int32))]).trans (congrArg (fun z : Int32 => -z) ((own_fold_z C21).trans (own_fold_one _ _))))) <| o_iconstV j 1 (y at_233) rfl <| o_goto j (pc' := 238) (y at_234) <| k) ?_
      exact rN X29 hx Bd (by simp) rfl (y at_238) e29 ⟨rfl, N29⟩
    · refine og2 X24 hx (fun j _ k => o_ifYes j (pc' := 194) (y at_167) (XT.i0_ne_t C25) <| o_aload j (y at_194) rfl rfl <| o_aload j (y at_196) rfl rfl <| k) ?_
      refine cS [(.ref a1), (.ref a3)] [] 0 X24 hx hZ hown (w 1 rfl) (w 2 rfl) (w 3 rfl) (w 4 rfl) (rmK2 l Z a0 hw [] a1 a3 kc1 kc3 (own_dv p2 kn (0 : Int32)) (own_dv p2 kn (1 : Int32)) (own_dv p3 on (0 : Int32)) (own_dv p3 on (1 : Int32)) (own_iv p2 kn (0 : Int32)) (own_iv p2 kn (1 : Int32)) (own_iv p3 on (0 : Int32)) (own_iv p3 on (1 : Int32)) h16 n0 Z16 (own_rep_dv _ _ _) (own_rep_dv _ _ _) (own_rep_dv _ _ _) (own_rep_dv _ _ _) A17 A16v) e24 hml pd_oaDaDcI (y at_198) (fun v30 T30 L30 hQ30 X30 => ?_)
      obtain ⟨rfl, N30a, eh30⟩ := hQ30
      have N30 := Fr.app N24 N30a
      have e30 : T30.heap = h16 := eh30
      refine og2 X30 hx (fun j _ k => o_istore j (y at_201) (l' := #[.val (.int p1), .val (.int p2), .val (.int p3), .val (.int 2), .val (.int kn), .val (.int on), .val (.ref a1), .val (.ref a3), .val (.int (own_sgn (own_iv p2 kn (1 : Int32)) (own_iv p3 on (1 : Int32)))), .val (.int (own_keys [((own_iv p2 kn (0 : Int32)), (own_iv p3 on (0 : Int32))), ((own_iv p2 kn (1 : Int32)), (own_iv p3 on (1 : Int32)))])), .unset]) rfl <| o_aload j (y at_203) rfl rfl <| o_aload j (y at_205) rfl rfl <| k) ?_
      refine cS [(.ref a3), (.ref a1)] [] 0 X30 hx hZ hown (w 1 rfl) (w 2 rfl) (w 3 rfl) (w 4 rfl) (rmK2 l Z a0 hw [] a3 a1 kc3 kc1 (own_dv p3 on (0 : Int32)) (own_dv p3 on (1 : Int32)) (own_dv p2 kn (0 : Int32)) (own_dv p2 kn (1 : Int32)) (own_iv p3 on (0 : Int32)) (own_iv p3 on (1 : Int32)) (own_iv p2 kn (0 : Int32)) (own_iv p2 kn (1 : Int32)) h16 n0 Z16 (own_rep_dv _ _ _) (own_rep_dv _ _ _) (own_rep_dv _ _ _) (own_rep_dv _ _ _) A16v A17) e30 hml pd_oaDaDcI (y at_207) (fun v31 T31 L31 hQ31 X31 => ?_)
      obtain ⟨rfl, N31a, eh31⟩ := hQ31
      have N31 := Fr.app N30 N31a
      have e31 : T31.heap = h16 := eh31
      refine og2 X31 hx (fun j _ k => o_istore j (y at_210) (l' := #[.val (.int p1), .val (.int p2), .val (.int p3), .val (.int 2), .val (.int kn), .val (.int on), .val (.ref a1), .val (.ref a3), .val (.int (own_sgn (own_iv p2 kn (1 : Int32)) (own_iv p3 on (1 : Int32)))), .val (.int (own_keys [((own_iv p2 kn (0 : Int32)), (own_iv p3 on (0 : Int32))), ((own_iv p2 kn (1 : Int32)), (own_iv p3 on (1 : Int32)))])), .val (.int (own_keys [((own_iv p3 on (0 : Int32)), (own_iv p2 kn (0 : Int32))), ((own_iv p3 on (1 : Int32)), (own_iv p2 kn (1 : Int32)))]))]) rfl <| o_iload j (y at_212) rfl <| k) ?_
      refine cS [(.int (own_keys [((own_iv p2 kn (0 : Int32)), (own_iv p3 on (0 : Int32))), ((own_iv p2 kn (1 : Int32)), (own_iv p3 on (1 : Int32)))]))] [] 0 X31 hx hZ hown (w 5 rfl) (w 6 rfl) (w 7 rfl) (w 8 rfl) (rmG l Z a0 hw [] (own_keys [((own_iv p2 kn (0 : Int32)), (own_iv p3 on (0 : Int32))), ((own_iv p2 kn (1 : Int32)), (own_iv p3 on (1 : Int32)))]) h16 n0 Z16) e31 hml pd_oIcI (y at_214) (fun v32 T32 L32 hQ32 X32 => ?_)
      obtain ⟨rfl, N32a, eh32⟩ := hQ32
      have N32 := Fr.app N31 N32a
      have e32 : T32.heap = h16 := eh32
      refine og2 X32 hx (fun j _ k => o_iload j (y at_217) rfl <| o_icmpNo j (y at_219) (XT.ii_ne_f ((own_fold_eq [(own_iv p2 kn (0 : Int32), own_iv p3 on (0 : Int32)), (own_iv p2 kn (1 : Int32), own_iv p3 on (1 : Int32))]).trans ((own_fold_z C21).trans (own_fold_one _ _)))) <| o_iload j (y at_222) rfl <| k) ?_
      refine cS [(.int (own_keys [((own_iv p3 on (0 : Int32)), (own_iv p2 kn (0 : Int32))), ((own_iv p3 on (1 : Int32)), (own_iv p2 kn (1 : Int32)))]))] [] 0 X32 hx hZ hown (w 5 rfl) (w 6 rfl) (w 7 rfl) (w 8 rfl) (rmG l Z a0 hw [] (own_keys [((own_iv p3 on (0 : Int32)), (own_iv p2 kn (0 : Int32))), ((own_iv p3 on (1 : Int32)), (own_iv p2 kn (1 : Int32)))]) h16 n0 Z16) e32 hml pd_oIcI (y at_224) (fun v33 T33 L33 hQ33 X33 => ?_)
      obtain ⟨rfl, N33a, eh33⟩ := hQ33
      have N33 := Fr.app N32 N33a
      have e33 : T33.heap = h16 := eh33
      refine og2 X33 hx (fun j _ k => o_iload j (y at_227) rfl <| o_ineg j (y at_229) <| o_icmpNo j (y at_230) (XT.ii_ne_f ((own_fold_sw [(own_iv p2 kn (0 : Int32), own_iv p3 on (0 : Int32)), (own_iv p2 kn (1 : Int32), own_iv p3 on (1 : Int32))]).trans (congrArg (fun z : Int32 => -z) ((own_fold_z C21).trans (own_fold_one _ _))))) <| o_iconstV j 1 (y at_233) rfl <| o_goto j (pc' := 238) (y at_234) <| k) ?_
      exact rN X33 hx Bd (by simp) rfl (y at_238) e33 ⟨rfl, N33⟩
  · refine og2 X20 hx (fun j _ k => o_ifYes j (pc' := 165) (y at_138) (XT.i0_ne_t C21) <| o_iload j (y at_165) rfl <| o_ifYes j (pc' := 194) (y at_167) (XT.i0_ne_t C21) <| o_aload j (y at_194) rfl rfl <| o_aload j (y at_196) rfl rfl <| k) ?_
    refine cS [(.ref a1), (.ref a3)] [] 0 X20 hx hZ hown (w 1 rfl) (w 2 rfl) (w 3 rfl) (w 4 rfl) (rmK2 l Z a0 hw [] a1 a3 kc1 kc3 (own_dv p2 kn (0 : Int32)) (own_dv p2 kn (1 : Int32)) (own_dv p3 on (0 : Int32)) (own_dv p3 on (1 : Int32)) (own_iv p2 kn (0 : Int32)) (own_iv p2 kn (1 : Int32)) (own_iv p3 on (0 : Int32)) (own_iv p3 on (1 : Int32)) h16 n0 Z16 (own_rep_dv _ _ _) (own_rep_dv _ _ _) (own_rep_dv _ _ _) (own_rep_dv _ _ _) A17 A16v) e20 hml pd_oaDaDcI (y at_198) (fun v34 T34 L34 hQ34 X34 => ?_)
    obtain ⟨rfl, N34a, eh34⟩ := hQ34
    have N34 := Fr.app N20 N34a
    have e34 : T34.heap = h16 := eh34
    refine og2 X34 hx (fun j _ k => o_istore j (y at_201) (l' := #[.val (.int p1), .val (.int p2), .val (.int p3), .val (.int 2), .val (.int kn), .val (.int on), .val (.ref a1), .val (.ref a3), .val (.int (own_sgn (own_iv p2 kn (0 : Int32)) (own_iv p3 on (0 : Int32)))), .val (.int (own_keys [((own_iv p2 kn (0 : Int32)), (own_iv p3 on (0 : Int32))), ((own_iv p2 kn (1 : Int32)), (own_iv p3 on (1 : Int32)))])), .unset]) rfl <| o_aload j (y at_203) rfl rfl <| o_aload j (y at_205) rfl rfl <| k) ?_
    refine cS [(.ref a3), (.ref a1)] [] 0 X34 hx hZ hown (w 1 rfl) (w 2 rfl) (w 3 rfl) (w 4 rfl) (rmK2 l Z a0 hw [] a3 a1 kc3 kc1 (own_dv p3 on (0 : Int32)) (own_dv p3 on (1 : Int32)) (own_dv p2 kn (0 : Int32)) (own_dv p2 kn (1 : Int32)) (own_iv p3 on (0 : Int32)) (own_iv p3 on (1 : Int32)) (own_iv p2 kn (0 : Int32)) (own_iv p2 kn (1 : Int32)) h16 n0 Z16 (own_rep_dv _ _ _) (own_rep_dv _ _ _) (own_rep_dv _ _ _) (own_rep_dv _ _ _) A16v A17) e34 hml pd_oaDaDcI (y at_207) (fun v35 T35 L35 hQ35 X35 => ?_)
    obtain ⟨rfl, N35a, eh35⟩ := hQ35
    have N35 := Fr.app N34 N35a
    have e35 : T35.heap = h16 := eh35
    refine og2 X35 hx (fun j _ k => o_istore j (y at_210) (l' := #[.val (.int p1), .val (.int p2), .val (.int p3), .val (.int 2), .val (.int kn), .val (.int on), .val (.ref a1), .val (.ref a3), .val (.int (own_sgn (own_iv p2 kn (0 : Int32)) (own_iv p3 on (0 : Int32)))), .val (.int (own_keys [((own_iv p2 kn (0 : Int32)), (own_iv p3 on (0 : Int32))), ((own_iv p2 kn (1 : Int32)), (own_iv p3 on (1 : Int32)))])), .val (.int (own_keys [((own_iv p3 on (0 : Int32)), (own_iv p2 kn (0 : Int32))), ((own_iv p3 on (1 : Int32)), (own_iv p2 kn (1 : Int32)))]))]) rfl <| o_iload j (y at_212) rfl <| k) ?_
    refine cS [(.int (own_keys [((own_iv p2 kn (0 : Int32)), (own_iv p3 on (0 : Int32))), ((own_iv p2 kn (1 : Int32)), (own_iv p3 on (1 : Int32)))]))] [] 0 X35 hx hZ hown (w 5 rfl) (w 6 rfl) (w 7 rfl) (w 8 rfl) (rmG l Z a0 hw [] (own_keys [((own_iv p2 kn (0 : Int32)), (own_iv p3 on (0 : Int32))), ((own_iv p2 kn (1 : Int32)), (own_iv p3 on (1 : Int32)))]) h16 n0 Z16) e35 hml pd_oIcI (y at_214) (fun v36 T36 L36 hQ36 X36 => ?_)
    obtain ⟨rfl, N36a, eh36⟩ := hQ36
    have N36 := Fr.app N35 N36a
    have e36 : T36.heap = h16 := eh36
    refine og2 X36 hx (fun j _ k => o_iload j (y at_217) rfl <| o_icmpNo j (y at_219) (XT.ii_ne_f ((own_fold_eq [(own_iv p2 kn (0 : Int32), own_iv p3 on (0 : Int32)), (own_iv p2 kn (1 : Int32), own_iv p3 on (1 : Int32))]).trans (own_fold_nz C21))) <| o_iload j (y at_222) rfl <| k) ?_
    refine cS [(.int (own_keys [((own_iv p3 on (0 : Int32)), (own_iv p2 kn (0 : Int32))), ((own_iv p3 on (1 : Int32)), (own_iv p2 kn (1 : Int32)))]))] [] 0 X36 hx hZ hown (w 5 rfl) (w 6 rfl) (w 7 rfl) (w 8 rfl) (rmG l Z a0 hw [] (own_keys [((own_iv p3 on (0 : Int32)), (own_iv p2 kn (0 : Int32))), ((own_iv p3 on (1 : Int32)), (own_iv p2 kn (1 : Int32)))]) h16 n0 Z16) e36 hml pd_oIcI (y at_224) (fun v37 T37 L37 hQ37 X37 => ?_)
    obtain ⟨rfl, N37a, eh37⟩ := hQ37
    have N37 := Fr.app N36 N37a
    have e37 : T37.heap = h16 := eh37
    refine og2 X37 hx (fun j _ k => o_iload j (y at_227) rfl <| o_ineg j (y at_229) <| o_icmpNo j (y at_230) (XT.ii_ne_f ((own_fold_sw [(own_iv p2 kn (0 : Int32), own_iv p3 on (0 : Int32)), (own_iv p2 kn (1 : Int32), own_iv p3 on (1 : Int32))]).trans (congrArg (fun z : Int32 => -z) (own_fold_nz C21)))) <| o_iconstV j 1 (y at_233) rfl <| o_goto j (pc' := 238) (y at_234) <| k) ?_
    exact rN X37 hx Bd (by simp) rfl (y at_238) e37 ⟨rfl, N37⟩

def Q0n3 (Z : State) (p1 : Int32) (p2 : Int32) (p3 : Int32) (h0 : Heap) (n0 : Nat) (v : Option Value) (h : Heap) (L : List Loc) : Prop := v = some (.int 1) ∧ Fr n0 L
theorem rm0n3 (l : Launch) (Z : State) (a0 : Array Value) (hw : HW a0 Z) (ws : List Jvm.Cond) (p1 : Int32) (p2 : Int32) (p3 : Int32) (h0 : Heap) (n0 : Nat) (Z0 : n0 ≤ h0.size) (H0 : p1 &&& 3 = 3) :
    MF l Z x code maxLocals ret ws room_1 #[(.int p1), (.int p2), (.int p3)] h0 (Q0n3 Z p1 p2 p3 h0 n0) := by
  refine og_start (plainFor_of_name pn_com_example_pareto_loom_paretoloom_model_NondominatedSetCompareKeysPinLaw) fun p e s m below meth c s₁ Bd hx hby hml hZ hown hnm X0 e0 => ?_
  have y := @hb _ _ hby
  have w := @wd _ _ hw
  refine og (fun t k => castTop (ef5 m p1 p2 p3) k) ?_
  obtain ⟨kn, h_kn⟩ : ∃ z : Int32, z = (XT.ushr p1 (2 : Int32)) &&& (7 : Int32) := ⟨_, rfl⟩
  obtain ⟨on, h_on⟩ : ∃ z : Int32, z = (XT.ushr p1 (5 : Int32)) &&& (7 : Int32) := ⟨_, rfl⟩
  refine og2 X0 hx (fun j _ k => o_iloadN j (y at_0) rfl <| o_iconstV j 3 (y at_1) rfl <| o_iand j (y at_2) <| k) ?_
  rw [H0]
  refine og2 X0 hx (fun j _ k => o_istoreN j (y at_3) (l' := #[.val (.int p1), .val (.int p2), .val (.int p3), .val (.int 3), .unset, .unset, .unset, .unset, .unset, .unset, .unset]) rfl <| o_iloadN j (y at_4) rfl <| o_iconstV j 2 (y at_5) rfl <| o_iushr j (y at_6) <| o_bipushV j 7 (y at_7) rfl <| o_iand j (y at_9) <| k) ?_
  rw [← h_kn]
  refine og2 X0 hx (fun j _ k => o_istore j (y at_10) (l' := #[.val (.int p1), .val (.int p2), .val (.int p3), .val (.int 3), .val (.int kn), .unset, .unset, .unset, .unset, .unset, .unset]) rfl <| o_iloadN j (y at_12) rfl <| o_iconstV j 5 (y at_13) rfl <| o_iushr j (y at_14) <| o_bipushV j 7 (y at_15) rfl <| o_iand j (y at_17) <| k) ?_
  rw [← h_on]
  refine og2 X0 hx (fun j _ k => o_istore j (y at_18) (l' := #[.val (.int p1), .val (.int p2), .val (.int p3), .val (.int 3), .val (.int kn), .val (.int on), .unset, .unset, .unset, .unset, .unset]) rfl <| o_iloadN j (y at_20) rfl <| k) ?_
  refine nP .double 3 "[D" X0 hx hZ (w 0 rfl) e0 (y at_21) (fun T1 h1 a1 kc1 g1 X1 e1 E1 A1 D1 => ?_)
  have Z1 : n0 ≤ h1.size := Nat.le_trans Z0 E1.1
  have G1 : n0 ≤ a1 := Nat.le_trans Z0 (Nat.le_of_eq g1.symm)
  have A2 : Arv Z h1 a1 kc1 .double (3 : Int32) [(.double (0 : UInt64)), (.double (0 : UInt64)), (.double (0 : UInt64))] (.double (0 : UInt64)) := (A1.pad (pad_rep [] _ 3))
  refine og2 X1 hx (fun j _ k => o_astore j (y at_23) rfl (l' := #[.val (.int p1), .val (.int p2), .val (.int p3), .val (.int 3), .val (.int kn), .val (.int on), .val (.ref a1), .unset, .unset, .unset, .unset]) rfl <| o_iloadN j (y at_25) rfl <| k) ?_
  refine nP .double 3 "[D" X1 hx hZ (w 0 rfl) e1 (y at_26) (fun T3 h3 a3 kc3 g3 X3 e3 E3 A3 D3 => ?_)
  have Z3 : n0 ≤ h3.size := Nat.le_trans Z1 E3.1
  have G3 : n0 ≤ a3 := Nat.le_trans Z1 (Nat.le_of_eq g3.symm)
  have A4 := (A2.ext E3)
  have A5 : Arv Z h3 a3 kc3 .double (3 : Int32) [(.double (0 : UInt64)), (.double (0 : UInt64)), (.double (0 : UInt64))] (.double (0 : UInt64)) := (A3.pad (pad_rep [] _ 3))
  refine og2 X3 hx (fun j _ k => o_astore j (y at_28) rfl (l' := #[.val (.int p1), .val (.int p2), .val (.int p3), .val (.int 3), .val (.int kn), .val (.int on), .val (.ref a1), .val (.ref a3), .unset, .unset, .unset]) rfl <| o_iloadN j (y at_30) rfl <| o_ifNo j (y at_31) (by decide) <| o_aload j (y at_34) rfl rfl <| o_iconstV j 0 (y at_36) rfl <| o_iloadN j (y at_37) rfl <| o_iload j (y at_38) rfl <| o_iconstV j 0 (y at_40) rfl <| k) ?_
  refine cS [(.int p2), (.int kn), (.int 0)] [(.int 0), (.ref a1)] 2 X3 hx hZ hown (w 9 rfl) (w 10 rfl) (w 7 rfl) (w 11 rfl) (rmD l Z a0 hw [] p2 kn (0 : Int32) h3 n0 Z3) e3 hml pd_oIIIcD (y at_41) (fun v6 T6 L6 hQ6 X6 => ?_)
  obtain ⟨rfl, N6a, eh6⟩ := hQ6
  have N6 := Fr.app (Fr.nil n0) N6a
  have e6 : T6.heap = h3 := eh6
  refine sD 0 X6 hx hZ e6 A4 (y at_44) (fun T7 h7 X7 e7 W7 A7 => ?_)
  have N7 := Fr.snoc X7 N6 G1
  have Z7 : n0 ≤ h7.size := (by rw [W7.size]; exact Z3)
  have A8 := (A5.other W7 (Ne.symm (Nat.ne_of_lt (Nat.lt_of_lt_of_eq A2.lt g3.symm))))
  have A7v : Arv Z h7 a1 kc1 .double (3 : Int32) [(.double (own_dv p2 kn (0 : Int32))), (.double (0 : UInt64)), (.double (0 : UInt64))] (.double (0 : UInt64)) := A7
  refine og2 X7 hx (fun j _ k => o_aload j (y at_45) rfl rfl <| o_iconstV j 0 (y at_47) rfl <| o_iloadN j (y at_48) rfl <| o_iload j (y at_49) rfl <| o_iconstV j 0 (y at_51) rfl <| k) ?_
  refine cS [(.int p3), (.int on), (.int 0)] [(.int 0), (.ref a3)] 2 X7 hx hZ hown (w 9 rfl) (w 10 rfl) (w 7 rfl) (w 11 rfl) (rmD l Z a0 hw [] p3 on (0 : Int32) h7 n0 Z7) e7 hml pd_oIIIcD (y at_52) (fun v9 T9 L9 hQ9 X9 => ?_)
  obtain ⟨rfl, N9a, eh9⟩ := hQ9
  have N9 := Fr.app N7 N9a
  have e9 : T9.heap = h7 := eh9
  refine sD 0 X9 hx hZ e9 A8 (y at_55) (fun T10 h10 X10 e10 W10 A10 => ?_)
  have N10 := Fr.snoc X10 N9 G3
  have Z10 : n0 ≤ h10.size := (by rw [W10.size]; exact Z7)
  have A11 := (A7v.other W10 (Nat.ne_of_lt (Nat.lt_of_lt_of_eq A2.lt g3.symm)))
  have A10v : Arv Z h10 a3 kc3 .double (3 : Int32) [(.double (own_dv p3 on (0 : Int32))), (.double (0 : UInt64)), (.double (0 : UInt64))] (.double (0 : UInt64)) := A10
  refine og2 X10 hx (fun j _ k => o_iloadN j (y at_56) rfl <| o_iconstV j 1 (y at_57) rfl <| o_icmpNo j (y at_58) (XT.ii_le_f (by decide)) <| o_aload j (y at_61) rfl rfl <| o_iconstV j 1 (y at_63) rfl <| o_iloadN j (y at_64) rfl <| o_iload j (y at_65) rfl <| o_iconstV j 1 (y at_67) rfl <| k) ?_
  refine cS [(.int p2), (.int kn), (.int 1)] [(.int 1), (.ref a1)] 2 X10 hx hZ hown (w 9 rfl) (w 10 rfl) (w 7 rfl) (w 11 rfl) (rmD l Z a0 hw [] p2 kn (1 : Int32) h10 n0 Z10) e10 hml pd_oIIIcD (y at_68) (fun v12 T12 L12 hQ12 X12 => ?_)
  obtain ⟨rfl, N12a, eh12⟩ := hQ12
  have N12 := Fr.app N10 N12a
  have e12 : T12.heap = h10 := eh12
  refine sD 1 X12 hx hZ e12 A11 (y at_71) (fun T13 h13 X13 e13 W13 A13 => ?_)
  have N13 := Fr.snoc X13 N12 G1
  have Z13 : n0 ≤ h13.size := (by rw [W13.size]; exact Z10)
  have A14 := (A10v.other W13 (Ne.symm (Nat.ne_of_lt (Nat.lt_of_lt_of_eq A2.lt g3.symm))))
  have A13v : Arv Z h13 a1 kc1 .double (3 : Int32) [(.double (own_dv p2 kn (0 : Int32))), (.double (own_dv p2 kn (1 : Int32))), (.double (0 : UInt64))] (.double (0 : UInt64)) := A13
  refine og2 X13 hx (fun j _ k => o_aload j (y at_72) rfl rfl <| o_iconstV j 1 (y at_74) rfl <| o_iloadN j (y at_75) rfl <| o_iload j (y at_76) rfl <| o_iconstV j 1 (y at_78) rfl <| k) ?_
  refine cS [(.int p3), (.int on), (.int 1)] [(.int 1), (.ref a3)] 2 X13 hx hZ hown (w 9 rfl) (w 10 rfl) (w 7 rfl) (w 11 rfl) (rmD l Z a0 hw [] p3 on (1 : Int32) h13 n0 Z13) e13 hml pd_oIIIcD (y at_79) (fun v15 T15 L15 hQ15 X15 => ?_)
  obtain ⟨rfl, N15a, eh15⟩ := hQ15
  have N15 := Fr.app N13 N15a
  have e15 : T15.heap = h13 := eh15
  refine sD 1 X15 hx hZ e15 A14 (y at_82) (fun T16 h16 X16 e16 W16 A16 => ?_)
  have N16 := Fr.snoc X16 N15 G3
  have Z16 : n0 ≤ h16.size := (by rw [W16.size]; exact Z13)
  have A17 := (A13v.other W16 (Nat.ne_of_lt (Nat.lt_of_lt_of_eq A2.lt g3.symm)))
  have A16v : Arv Z h16 a3 kc3 .double (3 : Int32) [(.double (own_dv p3 on (0 : Int32))), (.double (own_dv p3 on (1 : Int32))), (.double (0 : UInt64))] (.double (0 : UInt64)) := A16
  refine og2 X16 hx (fun j _ k => o_iloadN j (y at_83) rfl <| o_iconstV j 2 (y at_84) rfl <| o_icmpNo j (y at_85) (XT.ii_le_f (by decide)) <| o_aload j (y at_88) rfl rfl <| o_iconstV j 2 (y at_90) rfl <| o_iloadN j (y at_91) rfl <| o_iload j (y at_92) rfl <| o_iconstV j 2 (y at_94) rfl <| k) ?_
  refine cS [(.int p2), (.int kn), (.int 2)] [(.int 2), (.ref a1)] 2 X16 hx hZ hown (w 9 rfl) (w 10 rfl) (w 7 rfl) (w 11 rfl) (rmD l Z a0 hw [] p2 kn (2 : Int32) h16 n0 Z16) e16 hml pd_oIIIcD (y at_95) (fun v18 T18 L18 hQ18 X18 => ?_)
  obtain ⟨rfl, N18a, eh18⟩ := hQ18
  have N18 := Fr.app N16 N18a
  have e18 : T18.heap = h16 := eh18
  refine sD 2 X18 hx hZ e18 A17 (y at_98) (fun T19 h19 X19 e19 W19 A19 => ?_)
  have N19 := Fr.snoc X19 N18 G1
  have Z19 : n0 ≤ h19.size := (by rw [W19.size]; exact Z16)
  have A20 := (A16v.other W19 (Ne.symm (Nat.ne_of_lt (Nat.lt_of_lt_of_eq A2.lt g3.symm))))
  have A19v : Arv Z h19 a1 kc1 .double (3 : Int32) [(.double (own_dv p2 kn (0 : Int32))), (.double (own_dv p2 kn (1 : Int32))), (.double (own_dv p2 kn (2 : Int32)))] (.double (0 : UInt64)) := A19
  refine og2 X19 hx (fun j _ k => o_aload j (y at_99) rfl rfl <| o_iconstV j 2 (y at_101) rfl <| o_iloadN j (y at_102) rfl <| o_iload j (y at_103) rfl <| o_iconstV j 2 (y at_105) rfl <| k) ?_
  refine cS [(.int p3), (.int on), (.int 2)] [(.int 2), (.ref a3)] 2 X19 hx hZ hown (w 9 rfl) (w 10 rfl) (w 7 rfl) (w 11 rfl) (rmD l Z a0 hw [] p3 on (2 : Int32) h19 n0 Z19) e19 hml pd_oIIIcD (y at_106) (fun v21 T21 L21 hQ21 X21 => ?_)
  obtain ⟨rfl, N21a, eh21⟩ := hQ21
  have N21 := Fr.app N19 N21a
  have e21 : T21.heap = h19 := eh21
  refine sD 2 X21 hx hZ e21 A20 (y at_109) (fun T22 h22 X22 e22 W22 A22 => ?_)
  have N22 := Fr.snoc X22 N21 G3
  have Z22 : n0 ≤ h22.size := (by rw [W22.size]; exact Z19)
  have A23 := (A19v.other W22 (Nat.ne_of_lt (Nat.lt_of_lt_of_eq A2.lt g3.symm)))
  have A22v : Arv Z h22 a3 kc3 .double (3 : Int32) [(.double (own_dv p3 on (0 : Int32))), (.double (own_dv p3 on (1 : Int32))), (.double (own_dv p3 on (2 : Int32)))] (.double (0 : UInt64)) := A22
  refine og2 X22 hx (fun j _ k => o_iconstV j 0 (y at_110) rfl <| o_istore j (y at_111) (l' := #[.val (.int p1), .val (.int p2), .val (.int p3), .val (.int 3), .val (.int kn), .val (.int on), .val (.ref a1), .val (.ref a3), .val (.int 0), .unset, .unset]) rfl <| o_iloadN j (y at_113) rfl <| o_ifNo j (y at_114) (by decide) <| o_iloadN j (y at_117) rfl <| o_iload j (y at_118) rfl <| o_iconstV j 0 (y at_120) rfl <| k) ?_
  refine cS [(.int p2), (.int kn), (.int 0)] [] 0 X22 hx hZ hown (w 12 rfl) (w 13 rfl) (w 7 rfl) (w 14 rfl) (rmV l Z a0 hw [] p2 kn (0 : Int32) h22 n0 Z22) e22 hml pd_oIIIcI (y at_121) (fun v24 T24 L24 hQ24 X24 => ?_)
  obtain ⟨rfl, N24a, eh24⟩ := hQ24
  have N24 := Fr.app N22 N24a
  have e24 : T24.heap = h22 := eh24
  refine og2 X24 hx (fun j _ k => o_iloadN j (y at_124) rfl <| o_iload j (y at_125) rfl <| o_iconstV j 0 (y at_127) rfl <| k) ?_
  refine cS [(.int p3), (.int on), (.int 0)] [(.int (own_iv p2 kn (0 : Int32)))] 1 X24 hx hZ hown (w 12 rfl) (w 13 rfl) (w 7 rfl) (w 14 rfl) (rmV l Z a0 hw [] p3 on (0 : Int32) h22 n0 Z22) e24 hml pd_oIIIcI (y at_128) (fun v25 T25 L25 hQ25 X25 => ?_)
  obtain ⟨rfl, N25a, eh25⟩ := hQ25
  have N25 := Fr.app N24 N25a
  have e25 : T25.heap = h22 := eh25
  refine cS [(.int (own_iv p2 kn (0 : Int32))), (.int (own_iv p3 on (0 : Int32)))] [] 0 X25 hx hZ hown (w 15 rfl) (w 16 rfl) (w 7 rfl) (w 17 rfl) (rmS l Z a0 hw [] (own_iv p2 kn (0 : Int32)) (own_iv p3 on (0 : Int32)) h22 n0 Z22) e25 hml pd_oIIcI (y at_131) (fun v26 T26 L26 hQ26 X26 => ?_)
  obtain ⟨rfl, N26a, eh26⟩ := hQ26
  have N26 := Fr.app N25 N26a
  have e26 : T26.heap = h22 := eh26
  refine og2 X26 hx (fun j _ k => o_istore j (y at_134) (l' := #[.val (.int p1), .val (.int p2), .val (.int p3), .val (.int 3), .val (.int kn), .val (.int on), .val (.ref a1), .val (.ref a3), .val (.int (own_sgn (own_iv p2 kn (0 : Int32)) (own_iv p3 on (0 : Int32)))), .unset, .unset]) rfl <| o_iload j (y at_136) rfl <| k) ?_
  by_cases C27 : own_sgn (own_iv p2 kn (0 : Int32)) (own_iv p3 on (0 : Int32)) = 0
  · refine og2 X26 hx (fun j _ k => o_ifNo j (y at_138) (XT.i0_ne_f C27) <| o_iloadN j (y at_141) rfl <| o_iconstV j 1 (y at_142) rfl <| o_icmpNo j (y at_143) (XT.ii_le_f (by decide)) <| o_iloadN j (y at_146) rfl <| o_iload j (y at_147) rfl <| o_iconstV j 1 (y at_149) rfl <| k) ?_
    refine cS [(.int p2), (.int kn), (.int 1)] [] 0 X26 hx hZ hown (w 12 rfl) (w 13 rfl) (w 7 rfl) (w 14 rfl) (rmV l Z a0 hw [] p2 kn (1 : Int32) h22 n0 Z22) e26 hml pd_oIIIcI (y at_150) (fun v28 T28 L28 hQ28 X28 => ?_)
    obtain ⟨rfl, N28a, eh28⟩ := hQ28
    have N28 := Fr.app N26 N28a
    have e28 : T28.heap = h22 := eh28
    refine og2 X28 hx (fun j _ k => o_iloadN j (y at_153) rfl <| o_iload j (y at_154) rfl <| o_iconstV j 1 (y at_156) rfl <| k) ?_
    refine cS [(.int p3), (.int on), (.int 1)] [(.int (own_iv p2 kn (1 : Int32)))] 1 X28 hx hZ hown (w 12 rfl) (w 13 rfl) (w 7 rfl) (w 14 rfl) (rmV l Z a0 hw [] p3 on (1 : Int32) h22 n0 Z22) e28 hml pd_oIIIcI (y at_157) (fun v29 T29 L29 hQ29 X29 => ?_)
    obtain ⟨rfl, N29a, eh29⟩ := hQ29
    have N29 := Fr.app N28 N29a
    have e29 : T29.heap = h22 := eh29
    refine cS [(.int (own_iv p2 kn (1 : Int32))), (.int (own_iv p3 on (1 : Int32)))] [] 0 X29 hx hZ hown (w 15 rfl) (w 16 rfl) (w 7 rfl) (w 17 rfl) (rmS l Z a0 hw [] (own_iv p2 kn (1 : Int32)) (own_iv p3 on (1 : Int32)) h22 n0 Z22) e29 hml pd_oIIcI (y at_160) (fun v30 T30 L30 hQ30 X30 => ?_)
    obtain ⟨rfl, N30a, eh30⟩ := hQ30
    have N30 := Fr.app N29 N30a
    have e30 : T30.heap = h22 := eh30
    refine og2 X30 hx (fun j _ k => o_istore j (y at_163) (l' := #[.val (.int p1), .val (.int p2), .val (.int p3), .val (.int 3), .val (.int kn), .val (.int on), .val (.ref a1), .val (.ref a3), .val (.int (own_sgn (own_iv p2 kn (1 : Int32)) (own_iv p3 on (1 : Int32)))), .unset, .unset]) rfl <| o_iload j (y at_165) rfl <| k) ?_
    by_cases C31 : own_sgn (own_iv p2 kn (1 : Int32)) (own_iv p3 on (1 : Int32)) = 0
    · refine og2 X30 hx (fun j _ k => o_ifNo j (y at_167) (XT.i0_ne_f C31) <| o_iloadN j (y at_170) rfl <| o_iconstV j 2 (y at_171) rfl <| o_icmpNo j (y at_172) (XT.ii_le_f (by decide)) <| o_iloadN j (y at_175) rfl <| o_iload j (y at_176) rfl <| o_iconstV j 2 (y at_178) rfl <| k) ?_
      refine cS [(.int p2), (.int kn), (.int 2)] [] 0 X30 hx hZ hown (w 12 rfl) (w 13 rfl) (w 7 rfl) (w 14 rfl) (rmV l Z a0 hw [] p2 kn (2 : Int32) h22 n0 Z22) e30 hml pd_oIIIcI (y at_179) (fun v32 T32 L32 hQ32 X32 => ?_)
      obtain ⟨rfl, N32a, eh32⟩ := hQ32
      have N32 := Fr.app N30 N32a
      have e32 : T32.heap = h22 := eh32
      refine og2 X32 hx (fun j _ k => o_iloadN j (y at_182) rfl <| o_iload j (y at_183) rfl <| o_iconstV j 2 (y at_185) rfl <| k) ?_
      refine cS [(.int p3), (.int on), (.int 2)] [(.int (own_iv p2 kn (2 : Int32)))] 1 X32 hx hZ hown (w 12 rfl) (w 13 rfl) (w 7 rfl) (w 14 rfl) (rmV l Z a0 hw [] p3 on (2 : Int32) h22 n0 Z22) e32 hml pd_oIIIcI (y at_186) (fun v33 T33 L33 hQ33 X33 => ?_)
      obtain ⟨rfl, N33a, eh33⟩ := hQ33
      have N33 := Fr.app N32 N33a
      have e33 : T33.heap = h22 := eh33
      refine cS [(.int (own_iv p2 kn (2 : Int32))), (.int (own_iv p3 on (2 : Int32)))] [] 0 X33 hx hZ hown (w 15 rfl) (w 16 rfl) (w 7 rfl) (w 17 rfl) (rmS l Z a0 hw [] (own_iv p2 kn (2 : Int32)) (own_iv p3 on (2 : Int32)) h22 n0 Z22) e33 hml pd_oIIcI (y at_189) (fun v34 T34 L34 hQ34 X34 => ?_)
      obtain ⟨rfl, N34a, eh34⟩ := hQ34
      have N34 := Fr.app N33 N34a
      have e34 : T34.heap = h22 := eh34
      refine og2 X34 hx (fun j _ k => o_istore j (y at_192) (l' := #[.val (.int p1), .val (.int p2), .val (.int p3), .val (.int 3), .val (.int kn), .val (.int on), .val (.ref a1), .val (.ref a3), .val (.int (own_sgn (own_iv p2 kn (2 : Int32)) (own_iv p3 on (2 : Int32)))), .unset, .unset]) rfl <| o_aload j (y at_194) rfl rfl <| o_aload j (y at_196) rfl rfl <| k) ?_
      refine cS [(.ref a1), (.ref a3)] [] 0 X34 hx hZ hown (w 1 rfl) (w 2 rfl) (w 3 rfl) (w 4 rfl) (rmK3 l Z a0 hw [] a1 a3 kc1 kc3 (own_dv p2 kn (0 : Int32)) (own_dv p2 kn (1 : Int32)) (own_dv p2 kn (2 : Int32)) (own_dv p3 on (0 : Int32)) (own_dv p3 on (1 : Int32)) (own_dv p3 on (2 : Int32)) (own_iv p2 kn (0 : Int32)) (own_iv p2 kn (1 : Int32)) (own_iv p2 kn (2 : Int32)) (own_iv p3 on (0 : Int32)) (own_iv p3 on (1 : Int32)) (own_iv p3 on (2 : Int32)) h22 n0 Z22 (own_rep_dv _ _ _) (own_rep_dv _ _ _) (own_rep_dv _ _ _) (own_rep_dv _ _ _) (own_rep_dv _ _ _) (own_rep_dv _ _ _) A23 A22v) e34 hml pd_oaDaDcI (y at_198) (fun v35 T35 L35 hQ35 X35 => ?_)
      obtain ⟨rfl, N35a, eh35⟩ := hQ35
      have N35 := Fr.app N34 N35a
      have e35 : T35.heap = h22 := eh35
      refine og2 X35 hx (fun j _ k => o_istore j (y at_201) (l' := #[.val (.int p1), .val (.int p2), .val (.int p3), .val (.int 3), .val (.int kn), .val (.int on), .val (.ref a1), .val (.ref a3), .val (.int (own_sgn (own_iv p2 kn (2 : Int32)) (own_iv p3 on (2 : Int32)))), .val (.int (own_keys [((own_iv p2 kn (0 : Int32)), (own_iv p3 on (0 : Int32))), ((own_iv p2 kn (1 : Int32)), (own_iv p3 on (1 : Int32))), ((own_iv p2 kn (2 : Int32)), (own_iv p3 on (2 : Int32)))])), .unset]) rfl <| o_aload j (y at_203) rfl rfl <| o_aload j (y at_205) rfl rfl <| k) ?_
      refine cS [(.ref a3), (.ref a1)] [] 0 X35 hx hZ hown (w 1 rfl) (w 2 rfl) (w 3 rfl) (w 4 rfl) (rmK3 l Z a0 hw [] a3 a1 kc3 kc1 (own_dv p3 on (0 : Int32)) (own_dv p3 on (1 : Int32)) (own_dv p3 on (2 : Int32)) (own_dv p2 kn (0 : Int32)) (own_dv p2 kn (1 : Int32)) (own_dv p2 kn (2 : Int32)) (own_iv p3 on (0 : Int32)) (own_iv p3 on (1 : Int32)) (own_iv p3 on (2 : Int32)) (own_iv p2 kn (0 : Int32)) (own_iv p2 kn (1 : Int32)) (own_iv p2 kn (2 : Int32)) h22 n0 Z22 (own_rep_dv _ _ _) (own_rep_dv _ _ _) (own_rep_dv _ _ _) (own_rep_dv _ _ _) (own_rep_dv _ _ _) (own_rep_dv _ _ _) A22v A23) e35 hml pd_oaDaDcI (y at_207) (fun v36 T36 L36 hQ36 X36 => ?_)
      obtain ⟨rfl, N36a, eh36⟩ := hQ36
      have N36 := Fr.app N35 N36a
      have e36 : T36.heap = h22 := eh36
      refine og2 X36 hx (fun j _ k => o_istore j (y at_210) (l' := #[.val (.int p1), .val (.int p2), .val (.int p3), .val (.int 3), .val (.int kn), .val (.int on), .val (.ref a1), .val (.ref a3), .val (.int (own_sgn (own_iv p2 kn (2 : Int32)) (own_iv p3 on (2 : Int32)))), .val (.int (own_keys [((own_iv p2 kn (0 : Int32)), (own_iv p3 on (0 : Int32))), ((own_iv p2 kn (1 : Int32)), (own_iv p3 on (1 : Int32))), ((own_iv p2 kn (2 : Int32)), (own_iv p3 on (2 : Int32)))])), .val (.int (own_keys [((own_iv p3 on (0 : Int32)), (own_iv p2 kn (0 : Int32))), ((own_iv p3 on (1 : Int32)), (own_iv p2 kn (1 : Int32))), ((own_iv p3 on (2 : Int32)), (own_iv p2 kn (2 : Int32)))]))]) rfl <| o_iload j (y at_212) rfl <| k) ?_
      refine cS [(.int (own_keys [((own_iv p2 kn (0 : Int32)), (own_iv p3 on (0 : Int32))), ((own_iv p2 kn (1 : Int32)), (own_iv p3 on (1 : Int32))), ((own_iv p2 kn (2 : Int32)), (own_iv p3 on (2 : Int32)))]))] [] 0 X36 hx hZ hown (w 5 rfl) (w 6 rfl) (w 7 rfl) (w 8 rfl) (rmG l Z a0 hw [] (own_keys [((own_iv p2 kn (0 : Int32)), (own_iv p3 on (0 : Int32))), ((own_iv p2 kn (1 : Int32)), (own_iv p3 on (1 : Int32))), ((own_iv p2 kn (2 : Int32)), (own_iv p3 on (2 : Int32)))]) h22 n0 Z22) e36 hml pd_oIcI (y at_214) (fun v37 T37 L37 hQ37 X37 => ?_)
      obtain ⟨rfl, N37a, eh37⟩ := hQ37
      have N37 := Fr.app N36 N37a
      have e37 : T37.heap = h22 := eh37
      refine og2 X37 hx (fun j _ k => o_iload j (y at_217) rfl <| o_icmpNo j (y at_219) (XT.ii_ne_f ((own_fold_eq [(own_iv p2 kn (0 : Int32), own_iv p3 on (0 : Int32)), (own_iv p2 kn (1 : Int32), own_iv p3 on (1 : Int32)), (own_iv p2 kn (2 : Int32), own_iv p3 on (2 : Int32))]).trans (((own_fold_z C27).trans (own_fold_z C31)).trans (own_fold_one _ _)))) <| o_iload j (y at_222) rfl <| k) ?_
      refine cS [(.int (own_keys [((own_iv p3 on (0 : Int32)), (own_iv p2 kn (0 : Int32))), ((own_iv p3 on (1 : Int32)), (own_iv p2 kn (1 : Int32))), ((own_iv p3 on (2 : Int32)), (own_iv p2 kn (2 : Int32)))]))] [] 0 X37 hx hZ hown (w 5 rfl) (w 6 rfl) (w 7 rfl) (w 8 rfl) (rmG l Z a0 hw [] (own_keys [((own_iv p3 on (0 : Int32)), (own_iv p2 kn (0 : Int32))), ((own_iv p3 on (1 : Int32)), (own_iv p2 kn (1 : Int32))), ((own_iv p3 on (2 : Int32)), (own_iv p2 kn (2 : Int32)))]) h22 n0 Z22) e37 hml pd_oIcI (y at_224) (fun v38 T38 L38 hQ38 X38 => ?_)
      obtain ⟨rfl, N38a, eh38⟩ := hQ38
      have N38 := Fr.app N37 N38a
      have e38 : T38.heap = h22 := eh38
      refine og2 X38 hx (fun j _ k => o_iload j (y at_227) rfl <| o_ineg j (y at_229) <| o_icmpNo j (y at_230) (XT.ii_ne_f ((own_fold_sw [(own_iv p2 kn (0 : Int32), own_iv p3 on (0 : Int32)), (own_iv p2 kn (1 : Int32), own_iv p3 on (1 : Int32)), (own_iv p2 kn (2 : Int32), own_iv p3 on (2 : Int32))]).trans (congrArg (fun z : Int32 => -z) (((own_fold_z C27).trans (own_fold_z C31)).trans (own_fold_one _ _))))) <| o_iconstV j 1 (y at_233) rfl <| o_goto j (pc' := 238) (y at_234) <| k) ?_
      exact rN X38 hx Bd (by simp) rfl (y at_238) e38 ⟨rfl, N38⟩
    · refine og2 X30 hx (fun j _ k => o_ifYes j (pc' := 194) (y at_167) (XT.i0_ne_t C31) <| o_aload j (y at_194) rfl rfl <| o_aload j (y at_196) rfl rfl <| k) ?_
      refine cS [(.ref a1), (.ref a3)] [] 0 X30 hx hZ hown (w 1 rfl) (w 2 rfl) (w 3 rfl) (w 4 rfl) (rmK3 l Z a0 hw [] a1 a3 kc1 kc3 (own_dv p2 kn (0 : Int32)) (own_dv p2 kn (1 : Int32)) (own_dv p2 kn (2 : Int32)) (own_dv p3 on (0 : Int32)) (own_dv p3 on (1 : Int32)) (own_dv p3 on (2 : Int32)) (own_iv p2 kn (0 : Int32)) (own_iv p2 kn (1 : Int32)) (own_iv p2 kn (2 : Int32)) (own_iv p3 on (0 : Int32)) (own_iv p3 on (1 : Int32)) (own_iv p3 on (2 : Int32)) h22 n0 Z22 (own_rep_dv _ _ _) (own_rep_dv _ _ _) (own_rep_dv _ _ _) (own_rep_dv _ _ _) (own_rep_dv _ _ _) (own_rep_dv _ _ _) A23 A22v) e30 hml pd_oaDaDcI (y at_198) (fun v39 T39 L39 hQ39 X39 => ?_)
      obtain ⟨rfl, N39a, eh39⟩ := hQ39
      have N39 := Fr.app N30 N39a
      have e39 : T39.heap = h22 := eh39
      refine og2 X39 hx (fun j _ k => o_istore j (y at_201) (l' := #[.val (.int p1), .val (.int p2), .val (.int p3), .val (.int 3), .val (.int kn), .val (.int on), .val (.ref a1), .val (.ref a3), .val (.int (own_sgn (own_iv p2 kn (1 : Int32)) (own_iv p3 on (1 : Int32)))), .val (.int (own_keys [((own_iv p2 kn (0 : Int32)), (own_iv p3 on (0 : Int32))), ((own_iv p2 kn (1 : Int32)), (own_iv p3 on (1 : Int32))), ((own_iv p2 kn (2 : Int32)), (own_iv p3 on (2 : Int32)))])), .unset]) rfl <| o_aload j (y at_203) rfl rfl <| o_aload j (y at_205) rfl rfl <| k) ?_
      refine cS [(.ref a3), (.ref a1)] [] 0 X39 hx hZ hown (w 1 rfl) (w 2 rfl) (w 3 rfl) (w 4 rfl) (rmK3 l Z a0 hw [] a3 a1 kc3 kc1 (own_dv p3 on (0 : Int32)) (own_dv p3 on (1 : Int32)) (own_dv p3 on (2 : Int32)) (own_dv p2 kn (0 : Int32)) (own_dv p2 kn (1 : Int32)) (own_dv p2 kn (2 : Int32)) (own_iv p3 on (0 : Int32)) (own_iv p3 on (1 : Int32)) (own_iv p3 on (2 : Int32)) (own_iv p2 kn (0 : Int32)) (own_iv p2 kn (1 : Int32)) (own_iv p2 kn (2 : Int32)) h22 n0 Z22 (own_rep_dv _ _ _) (own_rep_dv _ _ _) (own_rep_dv _ _ _) (own_rep_dv _ _ _) (own_rep_dv _ _ _) (own_rep_dv _ _ _) A22v A23) e39 hml pd_oaDaDcI (y at_207) (fun v40 T40 L40 hQ40 X40 => ?_)
      obtain ⟨rfl, N40a, eh40⟩ := hQ40
      have N40 := Fr.app N39 N40a
      have e40 : T40.heap = h22 := eh40
      refine og2 X40 hx (fun j _ k => o_istore j (y at_210) (l' := #[.val (.int p1), .val (.int p2), .val (.int p3), .val (.int 3), .val (.int kn), .val (.int on), .val (.ref a1), .val (.ref a3), .val (.int (own_sgn (own_iv p2 kn (1 : Int32)) (own_iv p3 on (1 : Int32)))), .val (.int (own_keys [((own_iv p2 kn (0 : Int32)), (own_iv p3 on (0 : Int32))), ((own_iv p2 kn (1 : Int32)), (own_iv p3 on (1 : Int32))), ((own_iv p2 kn (2 : Int32)), (own_iv p3 on (2 : Int32)))])), .val (.int (own_keys [((own_iv p3 on (0 : Int32)), (own_iv p2 kn (0 : Int32))), ((own_iv p3 on (1 : Int32)), (own_iv p2 kn (1 : Int32))), ((own_iv p3 on (2 : Int32)), (own_iv p2 kn (2 : Int32)))]))]) rfl <| o_iload j (y at_212) rfl <| k) ?_
      refine cS [(.int (own_keys [((own_iv p2 kn (0 : Int32)), (own_iv p3 on (0 : Int32))), ((own_iv p2 kn (1 : Int32)), (own_iv p3 on (1 : Int32))), ((own_iv p2 kn (2 : Int32)), (own_iv p3 on (2 : Int32)))]))] [] 0 X40 hx hZ hown (w 5 rfl) (w 6 rfl) (w 7 rfl) (w 8 rfl) (rmG l Z a0 hw [] (own_keys [((own_iv p2 kn (0 : Int32)), (own_iv p3 on (0 : Int32))), ((own_iv p2 kn (1 : Int32)), (own_iv p3 on (1 : Int32))), ((own_iv p2 kn (2 : Int32)), (own_iv p3 on (2 : Int32)))]) h22 n0 Z22) e40 hml pd_oIcI (y at_214) (fun v41 T41 L41 hQ41 X41 => ?_)
      obtain ⟨rfl, N41a, eh41⟩ := hQ41
      have N41 := Fr.app N40 N41a
      have e41 : T41.heap = h22 := eh41
      refine og2 X41 hx (fun j _ k => o_iload j (y at_217) rfl <| o_icmpNo j (y at_219) (XT.ii_ne_f ((own_fold_eq [(own_iv p2 kn (0 : Int32), own_iv p3 on (0 : Int32)), (own_iv p2 kn (1 : Int32), own_iv p3 on (1 : Int32)), (own_iv p2 kn (2 : Int32), own_iv p3 on (2 : Int32))]).trans ((own_fold_z C27).trans (own_fold_nz C31)))) <| o_iload j (y at_222) rfl <| k) ?_
      refine cS [(.int (own_keys [((own_iv p3 on (0 : Int32)), (own_iv p2 kn (0 : Int32))), ((own_iv p3 on (1 : Int32)), (own_iv p2 kn (1 : Int32))), ((own_iv p3 on (2 : Int32)), (own_iv p2 kn (2 : Int32)))]))] [] 0 X41 hx hZ hown (w 5 rfl) (w 6 rfl) (w 7 rfl) (w 8 rfl) (rmG l Z a0 hw [] (own_keys [((own_iv p3 on (0 : Int32)), (own_iv p2 kn (0 : Int32))), ((own_iv p3 on (1 : Int32)), (own_iv p2 kn (1 : Int32))), ((own_iv p3 on (2 : Int32)), (own_iv p2 kn (2 : Int32)))]) h22 n0 Z22) e41 hml pd_oIcI (y at_224) (fun v42 T42 L42 hQ42 X42 => ?_)
      obtain ⟨rfl, N42a, eh42⟩ := hQ42
      have N42 := Fr.app N41 N42a
      have e42 : T42.heap = h22 := eh42
      refine og2 X42 hx (fun j _ k => o_iload j (y at_227) rfl <| o_ineg j (y at_229) <| o_icmpNo j (y at_230) (XT.ii_ne_f ((own_fold_sw [(own_iv p2 kn (0 : Int32), own_iv p3 on (0 : Int32)), (own_iv p2 kn (1 : Int32), own_iv p3 on (1 : Int32)), (own_iv p2 kn (2 : Int32), own_iv p3 on (2 : Int32))]).trans (congrArg (fun z : Int32 => -z) ((own_fold_z C27).trans (own_fold_nz C31))))) <| o_iconstV j 1 (y at_233) rfl <| o_goto j (pc' := 238) (y at_234) <| k) ?_
      exact rN X42 hx Bd (by simp) rfl (y at_238) e42 ⟨rfl, N42⟩
  · refine og2 X26 hx (fun j _ k => o_ifYes j (pc' := 165) (y at_138) (XT.i0_ne_t C27) <| o_iload j (y at_165) rfl <| o_ifYes j (pc' := 194) (y at_167) (XT.i0_ne_t C27) <| o_aload j (y at_194) rfl rfl <| o_aload j (y at_196) rfl rfl <| k) ?_
    refine cS [(.ref a1), (.ref a3)] [] 0 X26 hx hZ hown (w 1 rfl) (w 2 rfl) (w 3 rfl) (w 4 rfl) (rmK3 l Z a0 hw [] a1 a3 kc1 kc3 (own_dv p2 kn (0 : Int32)) (own_dv p2 kn (1 : Int32)) (own_dv p2 kn (2 : Int32)) (own_dv p3 on (0 : Int32)) (own_dv p3 on (1 : Int32)) (own_dv p3 on (2 : Int32)) (own_iv p2 kn (0 : Int32)) (own_iv p2 kn (1 : Int32)) (own_iv p2 kn (2 : Int32)) (own_iv p3 on (0 : Int32)) (own_iv p3 on (1 : Int32)) (own_iv p3 on (2 : Int32)) h22 n0 Z22 (own_rep_dv _ _ _) (own_rep_dv _ _ _) (own_rep_dv _ _ _) (own_rep_dv _ _ _) (own_rep_dv _ _ _) (own_rep_dv _ _ _) A23 A22v) e26 hml pd_oaDaDcI (y at_198) (fun v43 T43 L43 hQ43 X43 => ?_)
    obtain ⟨rfl, N43a, eh43⟩ := hQ43
    have N43 := Fr.app N26 N43a
    have e43 : T43.heap = h22 := eh43
    refine og2 X43 hx (fun j _ k => o_istore j (y at_201) (l' := #[.val (.int p1), .val (.int p2), .val (.int p3), .val (.int 3), .val (.int kn), .val (.int on), .val (.ref a1), .val (.ref a3), .val (.int (own_sgn (own_iv p2 kn (0 : Int32)) (own_iv p3 on (0 : Int32)))), .val (.int (own_keys [((own_iv p2 kn (0 : Int32)), (own_iv p3 on (0 : Int32))), ((own_iv p2 kn (1 : Int32)), (own_iv p3 on (1 : Int32))), ((own_iv p2 kn (2 : Int32)), (own_iv p3 on (2 : Int32)))])), .unset]) rfl <| o_aload j (y at_203) rfl rfl <| o_aload j (y at_205) rfl rfl <| k) ?_
    refine cS [(.ref a3), (.ref a1)] [] 0 X43 hx hZ hown (w 1 rfl) (w 2 rfl) (w 3 rfl) (w 4 rfl) (rmK3 l Z a0 hw [] a3 a1 kc3 kc1 (own_dv p3 on (0 : Int32)) (own_dv p3 on (1 : Int32)) (own_dv p3 on (2 : Int32)) (own_dv p2 kn (0 : Int32)) (own_dv p2 kn (1 : Int32)) (own_dv p2 kn (2 : Int32)) (own_iv p3 on (0 : Int32)) (own_iv p3 on (1 : Int32)) (own_iv p3 on (2 : Int32)) (own_iv p2 kn (0 : Int32)) (own_iv p2 kn (1 : Int32)) (own_iv p2 kn (2 : Int32)) h22 n0 Z22 (own_rep_dv _ _ _) (own_rep_dv _ _ _) (own_rep_dv _ _ _) (own_rep_dv _ _ _) (own_rep_dv _ _ _) (own_rep_dv _ _ _) A22v A23) e43 hml pd_oaDaDcI (y at_207) (fun v44 T44 L44 hQ44 X44 => ?_)
    obtain ⟨rfl, N44a, eh44⟩ := hQ44
    have N44 := Fr.app N43 N44a
    have e44 : T44.heap = h22 := eh44
    refine og2 X44 hx (fun j _ k => o_istore j (y at_210) (l' := #[.val (.int p1), .val (.int p2), .val (.int p3), .val (.int 3), .val (.int kn), .val (.int on), .val (.ref a1), .val (.ref a3), .val (.int (own_sgn (own_iv p2 kn (0 : Int32)) (own_iv p3 on (0 : Int32)))), .val (.int (own_keys [((own_iv p2 kn (0 : Int32)), (own_iv p3 on (0 : Int32))), ((own_iv p2 kn (1 : Int32)), (own_iv p3 on (1 : Int32))), ((own_iv p2 kn (2 : Int32)), (own_iv p3 on (2 : Int32)))])), .val (.int (own_keys [((own_iv p3 on (0 : Int32)), (own_iv p2 kn (0 : Int32))), ((own_iv p3 on (1 : Int32)), (own_iv p2 kn (1 : Int32))), ((own_iv p3 on (2 : Int32)), (own_iv p2 kn (2 : Int32)))]))]) rfl <| o_iload j (y at_212) rfl <| k) ?_
    refine cS [(.int (own_keys [((own_iv p2 kn (0 : Int32)), (own_iv p3 on (0 : Int32))), ((own_iv p2 kn (1 : Int32)), (own_iv p3 on (1 : Int32))), ((own_iv p2 kn (2 : Int32)), (own_iv p3 on (2 : Int32)))]))] [] 0 X44 hx hZ hown (w 5 rfl) (w 6 rfl) (w 7 rfl) (w 8 rfl) (rmG l Z a0 hw [] (own_keys [((own_iv p2 kn (0 : Int32)), (own_iv p3 on (0 : Int32))), ((own_iv p2 kn (1 : Int32)), (own_iv p3 on (1 : Int32))), ((own_iv p2 kn (2 : Int32)), (own_iv p3 on (2 : Int32)))]) h22 n0 Z22) e44 hml pd_oIcI (y at_214) (fun v45 T45 L45 hQ45 X45 => ?_)
    obtain ⟨rfl, N45a, eh45⟩ := hQ45
    have N45 := Fr.app N44 N45a
    have e45 : T45.heap = h22 := eh45
    refine og2 X45 hx (fun j _ k => o_iload j (y at_217) rfl <| o_icmpNo j (y at_219) (XT.ii_ne_f ((own_fold_eq [(own_iv p2 kn (0 : Int32), own_iv p3 on (0 : Int32)), (own_iv p2 kn (1 : Int32), own_iv p3 on (1 : Int32)), (own_iv p2 kn (2 : Int32), own_iv p3 on (2 : Int32))]).trans (own_fold_nz C27))) <| o_iload j (y at_222) rfl <| k) ?_
    refine cS [(.int (own_keys [((own_iv p3 on (0 : Int32)), (own_iv p2 kn (0 : Int32))), ((own_iv p3 on (1 : Int32)), (own_iv p2 kn (1 : Int32))), ((own_iv p3 on (2 : Int32)), (own_iv p2 kn (2 : Int32)))]))] [] 0 X45 hx hZ hown (w 5 rfl) (w 6 rfl) (w 7 rfl) (w 8 rfl) (rmG l Z a0 hw [] (own_keys [((own_iv p3 on (0 : Int32)), (own_iv p2 kn (0 : Int32))), ((own_iv p3 on (1 : Int32)), (own_iv p2 kn (1 : Int32))), ((own_iv p3 on (2 : Int32)), (own_iv p2 kn (2 : Int32)))]) h22 n0 Z22) e45 hml pd_oIcI (y at_224) (fun v46 T46 L46 hQ46 X46 => ?_)
    obtain ⟨rfl, N46a, eh46⟩ := hQ46
    have N46 := Fr.app N45 N46a
    have e46 : T46.heap = h22 := eh46
    refine og2 X46 hx (fun j _ k => o_iload j (y at_227) rfl <| o_ineg j (y at_229) <| o_icmpNo j (y at_230) (XT.ii_ne_f ((own_fold_sw [(own_iv p2 kn (0 : Int32), own_iv p3 on (0 : Int32)), (own_iv p2 kn (1 : Int32), own_iv p3 on (1 : Int32)), (own_iv p2 kn (2 : Int32), own_iv p3 on (2 : Int32))]).trans (congrArg (fun z : Int32 => -z) (own_fold_nz C27)))) <| o_iconstV j 1 (y at_233) rfl <| o_goto j (pc' := 238) (y at_234) <| k) ?_
    exact rN X46 hx Bd (by simp) rfl (y at_238) e46 ⟨rfl, N46⟩

def Q0 (Z : State) (p1 : Int32) (p2 : Int32) (p3 : Int32) (h0 : Heap) (n0 : Nat) (v : Option Value) (h : Heap) (L : List Loc) : Prop := v = some (.int 1) ∧ Fr n0 L
theorem rm0 (l : Launch) (Z : State) (a0 : Array Value) (hw : HW a0 Z) (ws : List Jvm.Cond) (p1 : Int32) (p2 : Int32) (p3 : Int32) (h0 : Heap) (n0 : Nat) (Z0 : n0 ≤ h0.size) :
    MF l Z x code maxLocals ret ws room_1 #[(.int p1), (.int p2), (.int p3)] h0 (Q0 Z p1 p2 p3 h0 n0) := by
  rcases own_c3 p1 with h | h | h | h
  · exact rm0n0 l Z a0 hw ws p1 p2 p3 h0 n0 Z0 h
  · exact rm0n1 l Z a0 hw ws p1 p2 p3 h0 n0 Z0 h
  · exact rm0n2 l Z a0 hw ws p1 p2 p3 h0 n0 Z0 h
  · exact rm0n3 l Z a0 hw ws p1 p2 p3 h0 n0 Z0 h

theorem comes_1 {Post : Tables → Env → Array Value → State → Outcome → State → Prop} (hpost : ∀ tb e args s v u, (limb_1_1.after args s (.returned v) u = true ∧ limb_1_2.after args s (.returned v) u = true ∧ True) → FrameEnd s (.returned v) u (Jvm.fieldLocs frame_1_writes args s ++ Jvm.arrayLocs frame_1_arrays args s ++ Jvm.staticLocs frame_1_statics s) 16 128 → Post tb e args s (.returned v) u) :
    ArmFor flags0 classFile x code maxLocals ret World_1 tables_1 room_1 Calls_1 rest_1 Pre_1 Post := by
  intro l hfl _ _ p e ha hc hk s m args below hf hA hF happ hP
  obtain ⟨hcalls, hrest, hpre⟩ := hP
  obtain ⟨-, -, -, hnamed, -, -, -, hat⟩ := (Spec.applies_iff hf).mp happ
  obtain ⟨hg, hn⟩ := and_e (Cond.before_iff.mp (show (Jvm.Cond.and given_1 narrow_1).before args s = true from hpre))
  obtain ⟨hcount, hr0⟩ := and_e hg
  obtain ⟨g0, hr1⟩ := and_e hr0
  obtain ⟨g1, hr2⟩ := and_e hr1
  have g2 := hr2
  obtain ⟨w0, w1, w2, rfl⟩ : ∃ w0 w1 w2 : Value, args = #[w0, w1, w2] := by
    have hs : args.size = 3 := by simpa [Cond.value, given_1] using hcount
    obtain ⟨L⟩ := args
    match L, hs with
    | [w0, w1, w2], _ => exact ⟨w0, w1, w2, rfl⟩
  have hw := fun d (hd : d ∈ tables_1) => atoms_spec (ws := Jvm.Cond.code x code maxLocals ret :: tables_1) hat d (List.mem_cons_of_mem _ hd)
  have hfit : Fit s := fun {y c} hc i hi => by
    obtain ⟨ha, rfl⟩ := Array.getElem?_eq_some_iff.mp hc
    have q := List.all_eq_true.mp ((Array.all_eq_true_iff_forall_mem.mp hF) _ (Array.getElem_mem ha)) i (List.mem_range.mpr hi)
    simpa [Array.getElem?_eq_getElem hi] using q
  obtain ⟨i0, e0⟩ := is_v g0
  obtain rfl : w0 = (.int i0) := Option.some.inj e0
  obtain ⟨i1, e1⟩ := is_v g1
  obtain rfl : w1 = (.int i1) := Option.some.inj e1
  obtain ⟨i2, e2⟩ := is_v g2
  obtain rfl : w2 = (.int i2) := Option.some.inj e2
  obtain ⟨n, o, h1, h2, h3, _, L, rfl, ⟨rfl, N⟩, hq⟩ := rm0 l s _ hw tables_1 i0 i1 i2 s.heap s.heap.size (Nat.le_refl _)  p e ha hc hk s m _ below hf ((Spec.applies_iff_loose hf).mp happ).1 ⟨rfl, State.Warmed39.refl s, rfl⟩ trivial
  refine ⟨n, _, h1, h2, h3, hpost _ _ _ _ _ _ ⟨Cond.after_iff.mpr rfl, Cond.after_iff.mpr (eq_i res_at (Term.int_eval (1)) rfl), trivial⟩ ⟨hq.1, hq.2.1, (hq.2.2.sift fun y hy => Or.inr (N y hy)).mono (by decide) (by decide)⟩⟩
theorem main_1_1 : Claimed_1_1 := comes_1 fun _ _ _ _ _ _ h hF => ⟨h.1, hF⟩
theorem main_1_2 : Claimed_1_2 := comes_1 fun _ _ _ _ _ _ h hF => ⟨h.2.1, hF⟩
end Jvm.Pilot.@@N@@
namespace Jvm.Pilot.@@N@@
open Jvm Jvm.ClassFile Sem Op Lib Jvm.Free Jvm.Stand Jvm.Pilot.@@N@@.Jvm.D
/-! MADE BY PROGRAM (witnessworld.py) out of the Statement's table words and the real class files: 11 classes; the members and pool entries that the words name. The judged class is class 1, her method 5. -/
namespace start1
open Jvm.ClassFile
def u (s : String) : CpInfo := .utf8 (stringToUtf16 s)
/-- a pool by its gaps: so many unusable entries, then the entry; so many at the end -/
def gap : Nat → List CpInfo → List CpInfo
  | 0, r => r
  | n + 1, r => .unusable :: gap n r
def poolList (es : List (Nat × CpInfo)) (last : Nat) : List CpInfo := es.foldr (fun e r => gap e.1 (e.2 :: r)) (gap last [])
def pool (es : List (Nat × CpInfo)) (last : Nat) : Array CpInfo := ⟨poolList es last⟩
def fileOf (pool : Array CpInfo) (this : Nat) (attrs : Array Attribute := #[]) (ms : Array MethodInfo := #[]) (fl : Nat := 33) (sup : Nat := 0) (ifs : Array Nat := #[]) (fds : Array FieldInfo := #[]) : ClassFile where
  minorVersion := 0
  majorVersion := 65
  constantPool := pool
  accessFlags := fl
  thisClass := this
  superClass := sup
  interfaces := ifs
  fields := fds
  methods := ms
  attributes := attrs
def plain (name : String) (sup : Option ClassId) : Class where
  name := name
  kind := .ordinary
  loader := none
  accessFlags := 33
  super := sup
  interfaces := #[]
  cf := none
  fields := #[]
  methods := #[]
  instanceTypes := #[]
  staticTypes := #[]
  resolved := #[]
  callSites := []
  init := .initialized
  statics := none
  mirror := none

def pool0 : Array CpInfo := pool [(5, u "<init>"), (0, u "()V"), (1, .class_ 10), (1, u "java/lang/Object")] 113

def k0m0 : Method := { name := "<init>", desc := "()V", sig := { parameters := [], returnType := none }, accessFlags := 1, code := none }
/-- java/lang/Object -/
def k0 : Class := { plain "java/lang/Object" none with
  accessFlags := 33
  interfaces := #[]
  cf := some (fileOf pool0 8 #[] #[{ accessFlags := 1, nameIndex := 5, descriptorIndex := 6, attributes := #[] }] 33 0 #[] #[])
  fields := #[]
  methods := #[k0m0]
  instanceTypes := #[]
  staticTypes := #[]
  resolved := Array.replicate 124 none
  statics := none }

def pool1 : Array CpInfo := pool [(2, .class_ 4), (1, u "java/lang/Object"), (0, u "<init>"), (0, u "()V"), (0, .methodref 8 9), (0, .class_ 10), (0, .nameAndType 11 12), (0, u "com/example/pareto_loom/paretoloom/model/NondominatedSetCompareKeysPinLaw"), (0, u "dv"), (0, u "(III)D"), (0, .methodref 8 14), (0, .nameAndType 15 16), (0, u "iv"), (0, u "(III)I"), (0, .methodref 8 18), (0, .nameAndType 19 20), (0, u "sgn"), (0, u "(II)I"), (0, .methodref 22 23), (0, .class_ 24), (0, .nameAndType 25 26), (0, u "com/example/pareto_loom/paretoloom/model/NondominatedSet"), (0, u "compareKeys"), (0, u "([D[D)I"), (0, .methodref 8 28), (0, .nameAndType 29 30), (0, u "sign"), (0, u "(I)I"), (3, u "law"), (0, u "(III)Z")] 4

def k1m0 : Method := { name := "<init>", desc := "()V", sig := { parameters := [], returnType := none }, accessFlags := 1, code := none }
def k1c1 : Code := { maxStack := 3, maxLocals := 4, code := method_2_code, exceptionTable := #[], attributes := #[] }
def k1m1 : Method := { name := "iv", desc := "(III)I", sig := { parameters := [.int, .int, .int], returnType := some .int }, accessFlags := 10, code := some k1c1 }
def k1c2 : Code := { maxStack := 3, maxLocals := 6, code := method_3_code, exceptionTable := #[], attributes := #[] }
def k1m2 : Method := { name := "dv", desc := "(III)D", sig := { parameters := [.int, .int, .int], returnType := some .double }, accessFlags := 10, code := some k1c2 }
def k1c3 : Code := { maxStack := 2, maxLocals := 2, code := method_4_code, exceptionTable := #[], attributes := #[] }
def k1m3 : Method := { name := "sgn", desc := "(II)I", sig := { parameters := [.int, .int], returnType := some .int }, accessFlags := 10, code := some k1c3 }
def k1c4 : Code := { maxStack := 1, maxLocals := 1, code := method_5_code, exceptionTable := #[], attributes := #[] }
def k1m4 : Method := { name := "sign", desc := "(I)I", sig := { parameters := [.int], returnType := some .int }, accessFlags := 10, code := some k1c4 }
def k1c5 : Code := { maxStack := 5, maxLocals := 11, code := code, exceptionTable := #[], attributes := #[] }
def k1m5 : Method := { name := "law", desc := "(III)Z", sig := { parameters := [.int, .int, .int], returnType := some .boolean }, accessFlags := 9, code := some k1c5 }
/-- com/example/pareto_loom/paretoloom/model/NondominatedSetCompareKeysPinLaw -/
def k1 : Class := { plain "com/example/pareto_loom/paretoloom/model/NondominatedSetCompareKeysPinLaw" (some 0) with
  accessFlags := 49
  interfaces := #[]
  cf := some (fileOf pool1 8 #[] #[{ accessFlags := 1, nameIndex := 5, descriptorIndex := 6, attributes := #[] }, { accessFlags := 10, nameIndex := 15, descriptorIndex := 16, attributes := #[] }, { accessFlags := 10, nameIndex := 11, descriptorIndex := 12, attributes := #[] }, { accessFlags := 10, nameIndex := 19, descriptorIndex := 20, attributes := #[] }, { accessFlags := 10, nameIndex := 29, descriptorIndex := 30, attributes := #[] }, { accessFlags := 9, nameIndex := 34, descriptorIndex := 35, attributes := #[] }] 49 2 #[] #[])
  fields := #[]
  methods := #[k1m0, k1m1, k1m2, k1m3, k1m4, k1m5]
  instanceTypes := #[]
  staticTypes := #[]
  resolved := Array.replicate 40 none
  statics := none }

def pool2 : Array CpInfo := pool [(6, .class_ 8), (1, u "com/example/pareto_loom/paretoloom/model/NondominatedSet"), (0, u "<init>"), (2, .class_ 14), (1, u "java/lang/Object"), (0, u "()V"), (5, u "items"), (0, u "Ljava/util/List;"), (2, u "keys"), (2, u "lastBeater"), (0, u "I"), (2, u "sameItem"), (0, u "Ljava/util/function/BiPredicate;"), (59, u "compareKeys"), (0, u "([D[D)I")] 47

def k2m0 : Method := { name := "<init>", desc := "()V", sig := { parameters := [], returnType := none }, accessFlags := 1, code := none }
def k2c1 : Code := { maxStack := 4, maxLocals := 3, code := prog_48_method_11_code, exceptionTable := #[], attributes := #[] }
def k2m1 : Method := { name := "compareKeys", desc := "([D[D)I", sig := { parameters := [(.array .double), (.array .double)], returnType := some .int }, accessFlags := 9, code := some k2c1 }
/-- com/example/pareto_loom/paretoloom/model/NondominatedSet -/
def k2 : Class := { plain "com/example/pareto_loom/paretoloom/model/NondominatedSet" (some 0) with
  accessFlags := 49
  interfaces := #[]
  cf := some (fileOf pool2 6 #[] #[{ accessFlags := 1, nameIndex := 9, descriptorIndex := 15, attributes := #[] }, { accessFlags := 9, nameIndex := 93, descriptorIndex := 94, attributes := #[] }] 49 12 #[] #[{ accessFlags := 18, nameIndex := 21, descriptorIndex := 22, attributes := #[] }, { accessFlags := 18, nameIndex := 25, descriptorIndex := 22, attributes := #[] }, { accessFlags := 18, nameIndex := 32, descriptorIndex := 33, attributes := #[] }, { accessFlags := 2, nameIndex := 28, descriptorIndex := 29, attributes := #[] }])
  fields := #[{ name := "items", type := (.object "java/util/List"), accessFlags := 18, slot := 0, constantValue := 0 }, { name := "keys", type := (.object "java/util/List"), accessFlags := 18, slot := 1, constantValue := 0 }, { name := "sameItem", type := (.object "java/util/function/BiPredicate"), accessFlags := 18, slot := 2, constantValue := 0 }, { name := "lastBeater", type := .int, accessFlags := 2, slot := 3, constantValue := 0 }]
  methods := #[k2m0, k2m1]
  instanceTypes := #[(.object "java/util/List"), (.object "java/util/List"), (.object "java/util/function/BiPredicate"), .int]
  staticTypes := #[]
  resolved := Array.replicate 142 none
  statics := none }

def pool3 : Array CpInfo := pool [(1, u "java/lang/Cloneable"), (0, .class_ 1), (0, u "java/lang/Object"), (0, .class_ 3)] 3

/-- java/lang/Cloneable -/
def k3 : Class := { plain "java/lang/Cloneable" (some 0) with
  accessFlags := 1537
  interfaces := #[]
  cf := some (fileOf pool3 2 #[] #[] 1537 4 #[] #[])
  fields := #[]
  methods := #[]
  instanceTypes := #[]
  staticTypes := #[]
  resolved := Array.replicate 8 none
  statics := none }

def pool4 : Array CpInfo := pool [(1, u "java/io/Serializable"), (0, .class_ 1), (0, u "java/lang/Object"), (0, .class_ 3)] 3

/-- java/io/Serializable -/
def k4 : Class := { plain "java/io/Serializable" (some 0) with
  accessFlags := 1537
  interfaces := #[]
  cf := some (fileOf pool4 2 #[] #[] 1537 4 #[] #[])
  fields := #[]
  methods := #[]
  instanceTypes := #[]
  staticTypes := #[]
  resolved := Array.replicate 8 none
  statics := none }

/-- the primitive byte -/
def k5 : Class := { plain "byte" none with kind := .primitive 'B', accessFlags := 0x411 }
/-- [B -/
def k6 : Class := { plain "[B" (some 0) with kind := .array 5 .byte, interfaces := #[3, 4], accessFlags := 1041 }

/-- the primitive double -/
def k7 : Class := { plain "double" none with kind := .primitive 'D', accessFlags := 0x411 }
/-- [D -/
def k8 : Class := { plain "[D" (some 0) with kind := .array 7 .double, interfaces := #[3, 4], accessFlags := 1041 }

/-- the primitive int -/
def k9 : Class := { plain "int" none with kind := .primitive 'I', accessFlags := 0x411 }
/-- [I -/
def k10 : Class := { plain "[I" (some 0) with kind := .array 9 .int, interfaces := #[3, 4], accessFlags := 1041 }

def heap : Heap := #[]
def classes : Array Class := #[k0, k1, k2, k3, k4, k5, k6, k7, k8, k9, k10]
def interned : List (Array UInt16 × Addr) := []
def slotsUsed : Nat := 0
def theMethod : MethodId := ⟨1, 5⟩
def args0 : Array Value := #[.int 5, .int 3, .int 7]
def aboutOver (below : List Frame) : State where
  vm := { classes := classes, interned := interned.toArray }
  heap := heap
  slotsUsed := slotsUsed
  threads := #[{ frames := .invoking theMethod args0 :: below }]
def below0 : List Frame := [.native { method := ⟨0, 0⟩, args := #[] }]
def about1 : State := aboutOver below0
def p0 : Program := .bare "" "" ""
def e0 : Env := launch0.env 0 0 0
theorem w_frames : about1.frames = Frame.invoking theMethod args0 :: below0 := rfl
set_option maxRecDepth 65536 in
theorem w_args : argsFit about1.vm theMethod args0 = true := by decide +kernel
set_option maxRecDepth 65536 in
theorem w_heap : heapFits about1 = true := by decide +kernel
set_option maxRecDepth 65536 in
theorem w_runnable : about1.curStatus? = some .runnable := by decide +kernel
set_option maxRecDepth 65536 in
theorem w_alone : about1.alone = true := by decide +kernel
set_option maxRecDepth 65536 in
theorem w_named : about1.methodNamed? x = some theMethod := by decide +kernel
set_option maxRecDepth 65536 in
theorem w_hears : about1.hears theMethod below0 = true := by decide +kernel
set_option maxRecDepth 65536 in
theorem w_ripe : about1.ripe theMethod args0 below0 = true := by decide +kernel
theorem w_running : about1.status = .running := rfl
set_option maxRecDepth 65536 in
theorem w_room : about1.hasRoom e0.platform room_1 = true :=
  launch0.hasRoom_least _ room_1 (by decide +kernel) (by decide +kernel) (by decide +kernel) (by decide +kernel) (by decide +kernel) (by decide +kernel)
theorem allAtoms_all (ts : List Jvm.Cond) (a : Array Jvm.Value) (st : Jvm.State) : (allAtoms ts).before a st = ts.all (fun c => c.before a st) := by
  induction ts with
  | nil => rfl
  | cons c t ih =>
    show (Jvm.Cond.and c (allAtoms t)).before a st = _
    rw [Jvm.Cond.before_and, ih, List.all_cons]
def words1 : List Jvm.Cond := Jvm.Cond.code x code maxLocals ret :: tables_1
/-- a 'code' word, met by the world's own term for the bytes: nothing is compared byte by byte -/
theorem code_word {y : MethodName} {bytes : ByteArray} {mx : Nat} {rt : Option FieldType} {a : Array Value} {s : State} {m : MethodId} {meth : Method} {c : Code} (h1 : s.methodNamed? y = some m) (h2 : s.vm.method? m = some meth) (h3 : meth.code = some c) (h4 : c.code = bytes)
    (h5 : (c.maxLocals == mx && c.exceptionTable.isEmpty && decide (c.maxStack ≤ mostOperands) && decide (meth.sig.returnType = rt) && !meth.locks && decide (parseMethodDescriptor y.desc = some meth.sig)) = true) : (Jvm.Cond.code y bytes mx rt).before a s = true := by
  simp only [Bool.and_eq_true, beq_iff_eq, Bool.not_eq_true', decide_eq_true_eq] at h5
  obtain ⟨⟨⟨⟨⟨g1, g2⟩, g3⟩, g4⟩, g5⟩, g6⟩ := h5
  simp [Cond.before, Cond.holds, Cond.value, h1, h2, h3, h4, g1, g2, g3, g4, g5, g6]
def isCode : Jvm.Cond → Bool
  | .code _ _ _ _ => true
  | _ => false
theorem all_split {L : List Jvm.Cond} {P : Jvm.Cond → Bool} (h1 : L.all (fun c => isCode c || P c) = true) (h2 : ∀ c ∈ L.filter isCode, P c = true) : L.all P = true := by
  refine List.all_eq_true.mpr fun c hc => ?_
  have h := List.all_eq_true.mp h1 c hc
  rcases Bool.eq_false_or_eq_true (isCode c) with hi | hi
  · exact h2 c (List.mem_filter.mpr ⟨hc, hi⟩)
  · simpa [hi] using h
set_option maxRecDepth 65536 in
theorem w_c0 : (Jvm.Cond.code x code maxLocals ret).before args0 about1 = true := code_word (m := ⟨1, 5⟩) (meth := k1m5) (c := k1c5) (by decide +kernel) rfl rfl rfl (by decide +kernel)
set_option maxRecDepth 65536 in
theorem w_c1 : (Jvm.Cond.code ({ cls := "com/example/pareto_loom/paretoloom/model/NondominatedSet", name := "compareKeys", desc := "([D[D)I" } : Jvm.MethodName) prog_48_method_11_code (3 : Nat) (Option.some Jvm.ClassFile.FieldType.int)).before args0 about1 = true := code_word (m := ⟨2, 1⟩) (meth := k2m1) (c := k2c1) (by decide +kernel) rfl rfl rfl (by decide +kernel)
set_option maxRecDepth 65536 in
theorem w_c2 : (Jvm.Cond.code ({ cls := "com/example/pareto_loom/paretoloom/model/NondominatedSetCompareKeysPinLaw", name := "sign", desc := "(I)I" } : Jvm.MethodName) method_5_code (1 : Nat) (Option.some Jvm.ClassFile.FieldType.int)).before args0 about1 = true := code_word (m := ⟨1, 4⟩) (meth := k1m4) (c := k1c4) (by decide +kernel) rfl rfl rfl (by decide +kernel)
set_option maxRecDepth 65536 in
theorem w_c3 : (Jvm.Cond.code ({ cls := "com/example/pareto_loom/paretoloom/model/NondominatedSetCompareKeysPinLaw", name := "dv", desc := "(III)D" } : Jvm.MethodName) method_3_code (6 : Nat) (Option.some Jvm.ClassFile.FieldType.double)).before args0 about1 = true := code_word (m := ⟨1, 2⟩) (meth := k1m2) (c := k1c2) (by decide +kernel) rfl rfl rfl (by decide +kernel)
set_option maxRecDepth 65536 in
theorem w_c4 : (Jvm.Cond.code ({ cls := "com/example/pareto_loom/paretoloom/model/NondominatedSetCompareKeysPinLaw", name := "iv", desc := "(III)I" } : Jvm.MethodName) method_2_code (4 : Nat) (Option.some Jvm.ClassFile.FieldType.int)).before args0 about1 = true := code_word (m := ⟨1, 1⟩) (meth := k1m1) (c := k1c1) (by decide +kernel) rfl rfl rfl (by decide +kernel)
set_option maxRecDepth 65536 in
theorem w_c5 : (Jvm.Cond.code ({ cls := "com/example/pareto_loom/paretoloom/model/NondominatedSetCompareKeysPinLaw", name := "sgn", desc := "(II)I" } : Jvm.MethodName) method_4_code (2 : Nat) (Option.some Jvm.ClassFile.FieldType.int)).before args0 about1 = true := code_word (m := ⟨1, 3⟩) (meth := k1m3) (c := k1c3) (by decide +kernel) rfl rfl rfl (by decide +kernel)
def codes1 : List Jvm.Cond := [Jvm.Cond.code x code maxLocals ret, Jvm.Cond.code ({ cls := "com/example/pareto_loom/paretoloom/model/NondominatedSet", name := "compareKeys", desc := "([D[D)I" } : Jvm.MethodName) prog_48_method_11_code (3 : Nat) (Option.some Jvm.ClassFile.FieldType.int), Jvm.Cond.code ({ cls := "com/example/pareto_loom/paretoloom/model/NondominatedSetCompareKeysPinLaw", name := "sign", desc := "(I)I" } : Jvm.MethodName) method_5_code (1 : Nat) (Option.some Jvm.ClassFile.FieldType.int), Jvm.Cond.code ({ cls := "com/example/pareto_loom/paretoloom/model/NondominatedSetCompareKeysPinLaw", name := "dv", desc := "(III)D" } : Jvm.MethodName) method_3_code (6 : Nat) (Option.some Jvm.ClassFile.FieldType.double), Jvm.Cond.code ({ cls := "com/example/pareto_loom/paretoloom/model/NondominatedSetCompareKeysPinLaw", name := "iv", desc := "(III)I" } : Jvm.MethodName) method_2_code (4 : Nat) (Option.some Jvm.ClassFile.FieldType.int), Jvm.Cond.code ({ cls := "com/example/pareto_loom/paretoloom/model/NondominatedSetCompareKeysPinLaw", name := "sgn", desc := "(II)I" } : Jvm.MethodName) method_4_code (2 : Nat) (Option.some Jvm.ClassFile.FieldType.int)]
set_option maxRecDepth 65536 in
theorem codes_eq : words1.filter isCode = codes1 := rfl
theorem w_codes : ∀ c ∈ words1.filter isCode, c.before args0 about1 = true := by
  rw [codes_eq]
  intro c hc
  simp only [codes1, List.mem_cons, List.not_mem_nil, or_false] at hc
  rcases hc with rfl | rfl | rfl | rfl | rfl | rfl
  · exact w_c0
  · exact w_c1
  · exact w_c2
  · exact w_c3
  · exact w_c4
  · exact w_c5
set_option maxRecDepth 65536 in
theorem w_t1 : words1.all (fun c => isCode c || c.before args0 about1) = true := by decide +kernel
theorem w_tables : (allAtoms (Jvm.Cond.code x code maxLocals ret :: tables_1)).before args0 about1 = true := by
  rw [allAtoms_all]
  show words1.all (fun c => c.before args0 about1) = true
  refine all_split ?_ w_codes
  rw [w_t1]
set_option maxRecDepth 65536 in
theorem w_case : (Jvm.Cond.and given_1 narrow_1).before args0 about1 = true := by decide +kernel
theorem w_applies : (headSpec (Jvm.Cond.code x code maxLocals ret :: tables_1) room_1).applies x e0.platform about1 = true :=
  (Spec.applies_iff w_frames).mpr ⟨w_running, w_runnable, w_alone, w_named, w_hears, w_ripe, w_room, w_tables⟩
theorem atStart : AtStart classFile x code maxLocals ret World_1 tables_1 room_1 Calls_1 rest_1 Pre_1 launch0 p0 e0 about1 theMethod args0 below0 :=
  ⟨lists_1, trivial, launch0.admits_env _ _ _, launch0.least_env, fairChoices_fair.cas, fairChoices_fair.clock, w_frames, w_args, w_heap, w_applies, trivial, trivial, w_case⟩
end start1
theorem witness_1 : WitnessClaimed_1 := ⟨start1.p0, start1.e0, start1.about1, start1.theMethod, start1.args0, start1.below0, start1.atStart⟩
end Jvm.Pilot.@@N@@
