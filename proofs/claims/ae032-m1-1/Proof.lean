import JvmDerived
import JvmDerived.Pilot.@@N@@Statement
import JvmDerived.Pilot.@@N@@Code
set_option linter.unusedVariables false
set_option linter.unusedSimpArgs false
namespace Jvm.RoadKit
open Sem ClassFile Op Lib Jvm.Stand Jvm.Free Jvm.LawKit
section New
variable {p : Program} {l : Launch} {e : Env} {R : Room} {s : State} {m : MethodId} {args : Array Value} {below : List Frame} {meth : Method} {c : Code} {T : State} {locs : List Loc} {cells slots : Nat}
theorem retI (X : Stand p l e R s m args below meth c T locs cells slots) (hx : p.tables.exec = Jvm.exec) {pc : Nat} {Ls : Array Slot} {z : Int32} {rest : List Value} (hret : meth.sig.returnType = some .int) (hd : decode c.code pc = .ok (.ireturn, 1)) {fs : List Frame}
    (hl : ∀ (f : JFrame) (acts : List Action), f.method = m → f.locked = none → f.entered = [] → (doReturn e (T.setTop f) acts (some (.int z))).1 = T.setFrames fs) : Steps p.tables e below (T.setTop (mkF m pc Ls (.int z :: rest))) (T.setFrames fs) := by
  have hm' : T.vm.method? m = some meth := X.method'
  have hn : narrow .int (.int z) = .int z := rfl
  show Steps p.tables e below (T.setTop { method := m, pc := pc, locals := Ls, stack := _ :: rest, locked := none }) _
  jvm_step X.here [X.here.top, hx, hd, hm', hret, hn]
  first | (intro acts; rw [hl _ acts rfl rfl rfl]) | rw [hl _ _ rfl rfl rfl]
  exact Steps.refl _
end New
end Jvm.RoadKit
namespace Jvm.Pilot.@@N@@
open Jvm Jvm.ClassFile Sem Op Lib Jvm.Free Jvm.Stand Jvm.LawKit Jvm.RoadKit Bundle Jvm.Pilot.@@N@@.Jvm.D
theorem o_iload {tb : Tables} [Ours tb] {e : Env} {below : List Frame} {T target : State} {m : MethodId} {c : Code} {pc : Nat} {ls : Array Slot} {st : List Value} {k : Nat} {v : Int32} (h : At T m c below) (hx : tb.exec = Jvm.exec) (hd : decode c.code pc = .ok (.iload k, 2)) (hl : ls[k]? = some (.val (.int v))) (hr : Steps tb e below (T.setTop (mkF m (pc + 2) ls (.int v :: st))) target) : Steps tb e below (T.setTop (mkF m pc ls st)) target := XS.iload (g := mkF m pc ls st) h hx rfl hd hl hr
theorem o_iloadN {tb : Tables} [Ours tb] {e : Env} {below : List Frame} {T target : State} {m : MethodId} {c : Code} {pc : Nat} {ls : Array Slot} {st : List Value} {k : Fin 4} {v : Int32} (h : At T m c below) (hx : tb.exec = Jvm.exec) (hd : decode c.code pc = .ok (.iload_n k, 1)) (hl : ls[k.val]? = some (.val (.int v))) (hr : Steps tb e below (T.setTop (mkF m (pc + 1) ls (.int v :: st))) target) : Steps tb e below (T.setTop (mkF m pc ls st)) target := XS.iloadN (g := mkF m pc ls st) h hx rfl hd hl hr
theorem o_dload {tb : Tables} [Ours tb] {e : Env} {below : List Frame} {T target : State} {m : MethodId} {c : Code} {pc : Nat} {ls : Array Slot} {st : List Value} {k : Nat} {v : UInt64} (h : At T m c below) (hx : tb.exec = Jvm.exec) (hd : decode c.code pc = .ok (.dload k, 2)) (hl : ls[k]? = some (.val (.double v))) (hr : Steps tb e below (T.setTop (mkF m (pc + 2) ls (.double v :: st))) target) : Steps tb e below (T.setTop (mkF m pc ls st)) target := XS.dload (g := mkF m pc ls st) h hx rfl hd hl hr
theorem o_dloadN {tb : Tables} [Ours tb] {e : Env} {below : List Frame} {T target : State} {m : MethodId} {c : Code} {pc : Nat} {ls : Array Slot} {st : List Value} {k : Fin 4} {v : UInt64} (h : At T m c below) (hx : tb.exec = Jvm.exec) (hd : decode c.code pc = .ok (.dload_n k, 1)) (hl : ls[k.val]? = some (.val (.double v))) (hr : Steps tb e below (T.setTop (mkF m (pc + 1) ls (.double v :: st))) target) : Steps tb e below (T.setTop (mkF m pc ls st)) target := XS.dloadN (g := mkF m pc ls st) h hx rfl hd hl hr
theorem o_istore {tb : Tables} [Ours tb] {e : Env} {below : List Frame} {T target : State} {m : MethodId} {c : Code} {pc : Nat} {ls : Array Slot} {st : List Value} {k : Nat} {x : Int32} {l' : Array Slot} (h : At T m c below) (hx : tb.exec = Jvm.exec) (hd : decode c.code pc = .ok (.istore k, 2)) (hl : storeLocals ls k (.int x) = some l') (hr : Steps tb e below (T.setTop (mkF m (pc + 2) l' st)) target) : Steps tb e below (T.setTop (mkF m pc ls (.int x :: st))) target := XS.istore (g := mkF m pc ls (.int x :: st)) h hx rfl hd rfl hl hr
theorem o_dstore {tb : Tables} [Ours tb] {e : Env} {below : List Frame} {T target : State} {m : MethodId} {c : Code} {pc : Nat} {ls : Array Slot} {st : List Value} {k : Nat} {x : UInt64} {l' : Array Slot} (h : At T m c below) (hx : tb.exec = Jvm.exec) (hd : decode c.code pc = .ok (.dstore k, 2)) (hl : storeLocals ls k (.double x) = some l') (hr : Steps tb e below (T.setTop (mkF m (pc + 2) l' st)) target) : Steps tb e below (T.setTop (mkF m pc ls (.double x :: st))) target := XS.dstore (g := mkF m pc ls (.double x :: st)) h hx rfl hd rfl hl hr
theorem o_dstoreN {tb : Tables} [Ours tb] {e : Env} {below : List Frame} {T target : State} {m : MethodId} {c : Code} {pc : Nat} {ls : Array Slot} {st : List Value} {k : Fin 4} {x : UInt64} {l' : Array Slot} (h : At T m c below) (hx : tb.exec = Jvm.exec) (hd : decode c.code pc = .ok (.dstore_n k, 1)) (hl : storeLocals ls k.val (.double x) = some l') (hr : Steps tb e below (T.setTop (mkF m (pc + 1) l' st)) target) : Steps tb e below (T.setTop (mkF m pc ls (.double x :: st))) target := XS.dstoreN (g := mkF m pc ls (.double x :: st)) h hx rfl hd rfl hl hr
theorem o_aload {tb : Tables} [Ours tb] {e : Env} {below : List Frame} {T target : State} {m : MethodId} {c : Code} {pc : Nat} {ls : Array Slot} {st : List Value} {k : Nat} {v : Value} (h : At T m c below) (hx : tb.exec = Jvm.exec) (hd : decode c.code pc = .ok (.aload k, 2)) (hl : ls[k]? = some (.val v)) (hv : v.isRef = true) (hr : Steps tb e below (T.setTop (mkF m (pc + 2) ls (v :: st))) target) : Steps tb e below (T.setTop (mkF m pc ls st)) target := XS.aload (g := mkF m pc ls st) h hx rfl hd hl hv hr
theorem o_aloadN {tb : Tables} [Ours tb] {e : Env} {below : List Frame} {T target : State} {m : MethodId} {c : Code} {pc : Nat} {ls : Array Slot} {st : List Value} {k : Fin 4} {v : Value} (h : At T m c below) (hx : tb.exec = Jvm.exec) (hd : decode c.code pc = .ok (.aload_n k, 1)) (hl : ls[k.val]? = some (.val v)) (hv : v.isRef = true) (hr : Steps tb e below (T.setTop (mkF m (pc + 1) ls (v :: st))) target) : Steps tb e below (T.setTop (mkF m pc ls st)) target := XS.aloadN (g := mkF m pc ls st) h hx rfl hd hl hv hr
theorem o_astore {tb : Tables} [Ours tb] {e : Env} {below : List Frame} {T target : State} {m : MethodId} {c : Code} {pc : Nat} {ls : Array Slot} {st : List Value} {k : Nat} {x : Value} {l' : Array Slot} (h : At T m c below) (hx : tb.exec = Jvm.exec) (hd : decode c.code pc = .ok (.astore k, 2)) (hv : x.isRef = true) (hl : storeLocals ls k x = some l') (hr : Steps tb e below (T.setTop (mkF m (pc + 2) l' st)) target) : Steps tb e below (T.setTop (mkF m pc ls (x :: st))) target := XS.astore (g := mkF m pc ls (x :: st)) h hx rfl hd rfl hv hl hr
theorem o_iconstV {tb : Tables} [Ours tb] {e : Env} {below : List Frame} {T target : State} {m : MethodId} {c : Code} {pc : Nat} {ls : Array Slot} {st : List Value} {i : Int} (h : At T m c below) (hx : tb.exec = Jvm.exec) (v : Int32) (hd : decode c.code pc = .ok (.iconst i, 1)) (hv : Int32.ofInt i = v) (hr : Steps tb e below (T.setTop (mkF m (pc + 1) ls (.int v :: st))) target) : Steps tb e below (T.setTop (mkF m pc ls st)) target := XT.iconstV (g := mkF m pc ls st) h hx rfl v hd hv hr
theorem o_dconst0 {tb : Tables} [Ours tb] {e : Env} {below : List Frame} {T target : State} {m : MethodId} {c : Code} {pc : Nat} {ls : Array Slot} {st : List Value} {v : UInt64} (h : At T m c below) (hx : tb.exec = Jvm.exec) (hd : decode c.code pc = .ok (.dconst 0, 1)) (hv : FP.dconst0 = v) (hr : Steps tb e below (T.setTop (mkF m (pc + 1) ls (.double v :: st))) target) : Steps tb e below (T.setTop (mkF m pc ls st)) target := XS.dconst0 (g := mkF m pc ls st) h hx rfl hd hv hr
theorem o_iand {tb : Tables} [Ours tb] {e : Env} {below : List Frame} {T target : State} {m : MethodId} {c : Code} {pc : Nat} {ls : Array Slot} {st : List Value} {x y : Int32} (h : At T m c below) (hx : tb.exec = Jvm.exec) (hd : decode c.code pc = .ok (.iand, 1)) (hr : Steps tb e below (T.setTop (mkF m (pc + 1) ls (.int (x &&& y) :: st))) target) : Steps tb e below (T.setTop (mkF m pc ls (.int y :: .int x :: st))) target := XS.iand (g := mkF m pc ls (.int y :: .int x :: st)) h hx rfl hd rfl hr
theorem o_irem {tb : Tables} [Ours tb] {e : Env} {below : List Frame} {T target : State} {m : MethodId} {c : Code} {pc : Nat} {ls : Array Slot} {st : List Value} {x y : Int32} (h : At T m c below) (hx : tb.exec = Jvm.exec) (hd : decode c.code pc = .ok (.irem, 1)) (hy : y ≠ 0) (hr : Steps tb e below (T.setTop (mkF m (pc + 1) ls (.int (x - (x / y) * y) :: st))) target) : Steps tb e below (T.setTop (mkF m pc ls (.int y :: .int x :: st))) target := XS.irem (g := mkF m pc ls (.int y :: .int x :: st)) h hx rfl hd rfl hy hr
theorem o_dup {tb : Tables} [Ours tb] {e : Env} {below : List Frame} {T target : State} {m : MethodId} {c : Code} {pc : Nat} {ls : Array Slot} {st : List Value} {x : Value} (h : At T m c below) (hx : tb.exec = Jvm.exec) (hd : decode c.code pc = .ok (.dup, 1)) (hc : x.category = 1) (hr : Steps tb e below (T.setTop (mkF m (pc + 1) ls (x :: x :: st))) target) : Steps tb e below (T.setTop (mkF m pc ls (x :: st))) target := XS.dup (g := mkF m pc ls (x :: st)) h hx rfl hd rfl hc hr
theorem o_i2dS {tb : Tables} [Ours tb] {e : Env} {below : List Frame} {T target : State} {m : MethodId} {c : Code} {pc : Nat} {ls : Array Slot} {st : List Value} {x : Int32} {v : UInt64} (h : At T m c below) (hx : tb.exec = Jvm.exec) (hd : decode c.code pc = .ok (.i2d, 1)) (hv : FP.i2d x = v) (hr : Steps tb e below (T.setTop (mkF m (pc + 1) ls (.double v :: st))) target) : Steps tb e below (T.setTop (mkF m pc ls (.int x :: st))) target := XS.i2dS (g := mkF m pc ls (.int x :: st)) h hx rfl hd rfl hv hr
theorem o_daddS {tb : Tables} [Ours tb] {e : Env} {below : List Frame} {T target : State} {m : MethodId} {c : Code} {pc : Nat} {ls : Array Slot} {st : List Value} {x y v : UInt64} (h : At T m c below) (hx : tb.exec = Jvm.exec) (hd : decode c.code pc = .ok (.dadd, 1)) (hn : Jvm.Free.Fl.NoNaN64 (FP.dadd x y)) (hv : FP.dadd x y = v) (hr : Steps tb e below (T.setTop (mkF m (pc + 1) ls (.double v :: st))) target) : Steps tb e below (T.setTop (mkF m pc ls (.double y :: .double x :: st))) target := XS.daddS (g := mkF m pc ls (.double y :: .double x :: st)) h hx rfl hd rfl hn hv hr
theorem o_dcmpS {tb : Tables} [Ours tb] {e : Env} {below : List Frame} {T target : State} {m : MethodId} {c : Code} {pc : Nat} {ls : Array Slot} {st : List Value} {o : CmpOp} {x y : UInt64} {v : Int32} (h : At T m c below) (hx : tb.exec = Jvm.exec) (hd : decode c.code pc = .ok (.dcmp o, 1)) (hv : cmpValue (FP.dcmp x y) o = v) (hr : Steps tb e below (T.setTop (mkF m (pc + 1) ls (.int v :: st))) target) : Steps tb e below (T.setTop (mkF m pc ls (.double y :: .double x :: st))) target := XS.dcmpS (g := mkF m pc ls (.double y :: .double x :: st)) h hx rfl hd rfl hv hr
theorem o_goto {tb : Tables} [Ours tb] {e : Env} {below : List Frame} {T target : State} {m : MethodId} {c : Code} {pc : Nat} {ls : Array Slot} {st : List Value} {o : Int} {pc' : Nat}  (h : At T m c below) (hx : tb.exec = Jvm.exec) (hd : decode c.code pc = .ok (.goto o, 3)) (ho : 0 ≤ (pc : Int) + o) (hp : ((pc : Int) + o).toNat = pc') (hr : Steps tb e below (T.setTop (mkF m pc' ls st)) target) : Steps tb e below (T.setTop (mkF m pc ls st)) target := XS.goto (g := mkF m pc ls st) h hx rfl rfl hd ho hp hr
theorem o_ifYes {tb : Tables} [Ours tb] {e : Env} {below : List Frame} {T target : State} {m : MethodId} {c : Code} {pc : Nat} {ls : Array Slot} {st : List Value} {o : Int} {pc' : Nat} {cd : ClassFile.Cond} {x : Int32} (h : At T m c below) (hx : tb.exec = Jvm.exec) (hd : decode c.code pc = .ok (.ifCond cd o, 3)) (hc : ifCond.holds cd x = true) (ho : 0 ≤ (pc : Int) + o) (hp : ((pc : Int) + o).toNat = pc') (hr : Steps tb e below (T.setTop (mkF m pc' ls st)) target) : Steps tb e below (T.setTop (mkF m pc ls (.int x :: st))) target := XS.ifYes (g := mkF m pc ls (.int x :: st)) h hx rfl rfl hd rfl hc ho hp hr
theorem o_ifNo {tb : Tables} [Ours tb] {e : Env} {below : List Frame} {T target : State} {m : MethodId} {c : Code} {pc : Nat} {ls : Array Slot} {st : List Value} {o : Int} {cd : ClassFile.Cond} {x : Int32} (h : At T m c below) (hx : tb.exec = Jvm.exec) (hd : decode c.code pc = .ok (.ifCond cd o, 3)) (hc : ifCond.holds cd x = false) (hr : Steps tb e below (T.setTop (mkF m (pc + 3) ls st)) target) : Steps tb e below (T.setTop (mkF m pc ls (.int x :: st))) target := XS.ifNo (g := mkF m pc ls (.int x :: st)) h hx rfl hd rfl hc hr
theorem o_icmpNo {tb : Tables} [Ours tb] {e : Env} {below : List Frame} {T target : State} {m : MethodId} {c : Code} {pc : Nat} {ls : Array Slot} {st : List Value} {o : Int} {cd : ClassFile.Cond} {x y : Int32} (h : At T m c below) (hx : tb.exec = Jvm.exec) (hd : decode c.code pc = .ok (.if_icmp cd o, 3)) (hc : if_icmp.holds cd x y = false) (hr : Steps tb e below (T.setTop (mkF m (pc + 3) ls st)) target) : Steps tb e below (T.setTop (mkF m pc ls (.int y :: .int x :: st))) target := XS.icmpNo (g := mkF m pc ls (.int y :: .int x :: st)) h hx rfl hd rfl hc hr
open Jvm.FP Jvm.Free.Fl in
def OBd (n : Int) (a : Int64) : Prop := -n ≤ a.toInt ∧ a.toInt ≤ n
theorem own_bd_b53 {n : Int} {a : Int64} (h : OBd n a) (q : n < 9007199254740992) : B53 a := ⟨by have := h.1; omega, by have := h.2; omega⟩
theorem own_bd_add {n m : Int} {a b : Int64} (h : OBd n a) (g : OBd m b) (q : n + m < 9007199254740992) : OBd (n + m) (a + b) := by
  obtain ⟨h1, h2⟩ := h
  obtain ⟨g1, g2⟩ := g
  have e : (a + b).toInt = a.toInt + b.toInt := by rw [Int64.toInt_add]; exact Int.bmod_eq_of_le (by omega) (by omega)
  exact ⟨by rw [e]; omega, by rw [e]; omega⟩
theorem own_bd_i (x : Int32) : OBd 2147483648 x.toInt64 := by
  have h1 := x.toInt_lt; have h2 := x.le_toInt
  exact ⟨by rw [Int32.toInt_toInt64]; omega, by rw [Int32.toInt_toInt64]; omega⟩
theorem own_bd_lit0 : OBd 0 (0 : Int64) := ⟨by decide, by decide⟩
theorem own_bd_lit1 : OBd 1 (1 : Int64) := ⟨by decide, by decide⟩
theorem own_dconst0 : FP.dconst0 = FP.l2d 0 := by decide +kernel
theorem own_dconst1 : FP.dconst1 = FP.l2d 1 := by decide +kernel
theorem own_dadd0 {a : Int64} (h : B53 a) : FP.dadd (FP.l2d a) (FP.l2d 0) = FP.l2d a := by
  rw [dadd_w h (own_bd_b53 own_bd_lit0 (by decide)), Int64.add_zero]

theorem own_i64_zero (d : Int32) : d.toInt64 = 0 ↔ d = 0 := by
  constructor
  · intro h
    have q := congrArg Int64.toInt h
    rw [Int32.toInt_toInt64] at q
    exact Int32.toInt_inj.mp q
  · rintro rfl; rfl
theorem own_crisp (va d1 d2 d3 : Int32) : (if va.toInt64 = va.toInt64 + d1.toInt64 ∧ va.toInt64 + d1.toInt64 + d2.toInt64 = va.toInt64 + d1.toInt64 + d2.toInt64 + d3.toInt64 then (1 : Int32) else 0) = if d1 = 0 ∧ d3 = 0 then 1 else 0 := by
  have e : ∀ a d : Int64, (a = a + d) ↔ d = 0 := fun a d => by
    constructor
    · intro h
      have q : a + 0 = a + d := by rw [Int64.add_zero]; exact h
      exact ((Int64.add_right_inj a).mp q).symm
    · rintro rfl; rw [Int64.add_zero]
  simp only [e, own_i64_zero]
theorem own_and3 (y : Int32) : 0 ≤ (y &&& 3).toInt64.toInt ∧ (y &&& 3).toInt64.toInt ≤ 3 := by
  rw [Int32.toInt_toInt64]
  have h := c_mask y 3 2 (by decide) (by decide)
  omega
theorem own_up {n : Int} {a b : Int64} (h : OBd n a) (g1 : 0 ≤ b.toInt) (g2 : b.toInt ≤ 3) (q : n < 9007199254740992) : ¬ a + b < a := by
  obtain ⟨h1, h2⟩ := h
  have e : (a + b).toInt = a.toInt + b.toInt := by rw [Int64.toInt_add]; exact Int.bmod_eq_of_le (by omega) (by omega)
  rw [Int64.lt_iff_toInt_lt, e]; omega
theorem own_wide {n m : Int} {a : Int64} (h : OBd n a) (q : n ≤ m) : OBd m a := ⟨by have := h.1; omega, by have := h.2; omega⟩

theorem dR_0 : decode jdk_30_method_1_code 0 = .ok (.aload_n 0, 1) := by decide +kernel
theorem dR_1 : decode jdk_30_method_1_code 1 = .ok (.invokespecial 1, 3) := by decide +kernel
theorem dR_4 : decode jdk_30_method_1_code 4 = .ok (.return_, 1) := by decide +kernel
theorem pn_java_lang_Record : plainName "java/lang/Record" = true := by first | (simp [plainName, overriddenIn]; done) | decide +kernel
theorem efR (m : MethodId) (x0 : Addr) : entryFrame m #[(.ref x0)] 1 = (mkF m 0 #[.val (.ref x0)] []) := by first | (simp [entryFrame, mkF, argsToLocals, Value.category]; done) | rfl
def QR (Z : State) (a1 : Addr) (h0 : Heap) (n0 : Nat) (v : Option Value) (h : Heap) (L : List Loc) : Prop := v = none ∧ Fr n0 L ∧ h = h0
set_option maxRecDepth 65536 in
set_option maxHeartbeats 40000000 in
theorem rmR (l : Launch) (Z : State) (a0 : Array Value) (hw : ∀ d ∈ tables_1, d.before a0 Z = true) (ws : List Jvm.Cond) (a1 : Addr) (h0 : Heap) (n0 : Nat) (Z0 : n0 ≤ h0.size) :
    MetFree l (⟨"java/lang/Record", "<init>", "()V"⟩ : MethodName) (head1 (Jvm.Cond.code (⟨"java/lang/Record", "<init>", "()V"⟩ : MethodName) jdk_30_method_1_code 1 none :: ws) ({ frames := 1, cells := 0, slots := 0, locals := 12 } : Room)) (fun a U => a = #[(.ref a1)] ∧ Z.Warmed39 U.vm ∧ U.heap = h0) (fun _ _ _ _ _ => True) (fun _ U o U' => ∃ v L, o = .returned v ∧ QR Z a1 h0 n0 v U'.heap L ∧ FrameEnd U o U' L ({ frames := 1, cells := 0, slots := 0, locals := 12 } : Room).cells ({ frames := 1, cells := 0, slots := 0, locals := 12 } : Room).slots) := by
  refine MetFree.of_bodySF (plainFor_of_name pn_java_lang_Record) hisR ?_
  intro p e s m args below meth c s₁ Bd hml0 hP hK
  obtain ⟨rfl, hZ, hh⟩ := hP
  have hx := Bd.exec
  have hby := Bd.bytes
  have hml : c.maxLocals = 1 := hml0
  have hown : s.vm.findClass "java/lang/Record" = some m.cls := findClass_of_methodNamed Bd.named
  have hnm := (name_of_methodNamed Bd.named Bd.method).1
  have X0 : Stand p l e ({ frames := 1, cells := 0, slots := 0, locals := 12 } : Room) s m #[(.ref a1)] below meth c s₁ [] 0 0 := Stand.of_body Bd
  have e0 : s₁.heap = h0 := by rw [← hh, Bd.state]; rfl
  have N0 := Fr.nil n0
  have pre0 : ∀ t, Steps p.tables e below (s₁.setTop (mkF m 0 #[.val (.ref a1)] [])) t → Steps p.tables e below (s₁.setTop (entryFrame m #[(.ref a1)] 1)) t := fun t k => castTop (efR m a1) k
  have k1 : ∀ t, Steps p.tables e below (s₁.setTop (mkF m 1 #[.val (.ref a1)] [(.ref a1)])) t → Steps p.tables e below (s₁.setTop (entryFrame m #[(.ref a1)] 1)) t := by
    intro t k
    refine pre0 t ?_
    refine o_aloadN X0.here hx (hb hby dR_0) rfl rfl ?_
    exact k
  obtain ⟨T2, X2, e2, st2⟩ := initO X0 hx hZ hown (hw _ (List.mem_of_getElem? (i := 12) rfl)) (hw _ (List.mem_of_getElem? (i := 13) rfl)) (hw _ (List.mem_of_getElem? (i := 14) rfl)) e0 (g := (mkF m 1 #[.val (.ref a1)] [(.ref a1)])) rfl (by rw [hml]; rfl) rfl (hb hby dR_1) (by decide) (W := 0) (by show 2 * 0 + _ ≤ _; exact Nat.le_of_eq rfl) (by decide)
  have k3 : ∀ t, Steps p.tables e below (T2.setTop (mkF m 4 #[.val (.ref a1)] [])) t → Steps p.tables e below (s₁.setTop (entryFrame m #[(.ref a1)] 1)) t := fun t k => k1 t (st2 _ k)
  obtain ⟨fs, hr, hrun, hended, hW, hsame⟩ := X2.leave (v := none) (fun _ => rfl)
  refine ⟨_, _, k3 _ ?_, hrun, hended, _, _, rfl, ?_, ⟨_, rfl⟩, hW, hsame.mono (by decide) (by decide)⟩
  · exact X2.returnOut hx Bd.returns (hb hby dR_4) hr
  · show QR Z a1 h0 n0 _ T2.heap _
    rw [e2]
    exact ⟨rfl, N0, rfl⟩

theorem dC_0 : decode prog_31_method_1_code 0 = .ok (.aload_n 0, 1) := by decide +kernel
theorem dC_1 : decode prog_31_method_1_code 1 = .ok (.invokespecial 1, 3) := by decide +kernel
theorem dC_4 : decode prog_31_method_1_code 4 = .ok (.dload_n 1, 1) := by decide +kernel
theorem dC_5 : decode prog_31_method_1_code 5 = .ok (.dload_n 3, 1) := by decide +kernel
theorem dC_6 : decode prog_31_method_1_code 6 = .ok (.dcmp .g, 1) := by decide +kernel
theorem dC_7 : decode prog_31_method_1_code 7 = .ok (.ifCond .gt 18, 3) := by decide +kernel
theorem dC_10 : decode prog_31_method_1_code 10 = .ok (.dload_n 3, 1) := by decide +kernel
theorem dC_11 : decode prog_31_method_1_code 11 = .ok (.dload 5, 2) := by decide +kernel
theorem dC_13 : decode prog_31_method_1_code 13 = .ok (.dcmp .g, 1) := by decide +kernel
theorem dC_14 : decode prog_31_method_1_code 14 = .ok (.ifCond .gt 11, 3) := by decide +kernel
theorem dC_17 : decode prog_31_method_1_code 17 = .ok (.dload 5, 2) := by decide +kernel
theorem dC_19 : decode prog_31_method_1_code 19 = .ok (.dload 7, 2) := by decide +kernel
theorem dC_21 : decode prog_31_method_1_code 21 = .ok (.dcmp .g, 1) := by decide +kernel
theorem dC_22 : decode prog_31_method_1_code 22 = .ok (.ifCond .le 40, 3) := by decide +kernel
theorem dC_62 : decode prog_31_method_1_code 62 = .ok (.dload_n 1, 1) := by decide +kernel
theorem dC_63 : decode prog_31_method_1_code 63 = .ok (.dconst 0, 1) := by decide +kernel
theorem dC_64 : decode prog_31_method_1_code 64 = .ok (.dadd, 1) := by decide +kernel
theorem dC_65 : decode prog_31_method_1_code 65 = .ok (.dstore_n 1, 1) := by decide +kernel
theorem dC_66 : decode prog_31_method_1_code 66 = .ok (.dload_n 3, 1) := by decide +kernel
theorem dC_67 : decode prog_31_method_1_code 67 = .ok (.dconst 0, 1) := by decide +kernel
theorem dC_68 : decode prog_31_method_1_code 68 = .ok (.dadd, 1) := by decide +kernel
theorem dC_69 : decode prog_31_method_1_code 69 = .ok (.dstore_n 3, 1) := by decide +kernel
theorem dC_70 : decode prog_31_method_1_code 70 = .ok (.dload 5, 2) := by decide +kernel
theorem dC_72 : decode prog_31_method_1_code 72 = .ok (.dconst 0, 1) := by decide +kernel
theorem dC_73 : decode prog_31_method_1_code 73 = .ok (.dadd, 1) := by decide +kernel
theorem dC_74 : decode prog_31_method_1_code 74 = .ok (.dstore 5, 2) := by decide +kernel
theorem dC_76 : decode prog_31_method_1_code 76 = .ok (.dload 7, 2) := by decide +kernel
theorem dC_78 : decode prog_31_method_1_code 78 = .ok (.dconst 0, 1) := by decide +kernel
theorem dC_79 : decode prog_31_method_1_code 79 = .ok (.dadd, 1) := by decide +kernel
theorem dC_80 : decode prog_31_method_1_code 80 = .ok (.dstore 7, 2) := by decide +kernel
theorem dC_82 : decode prog_31_method_1_code 82 = .ok (.aload_n 0, 1) := by decide +kernel
theorem dC_83 : decode prog_31_method_1_code 83 = .ok (.dload_n 1, 1) := by decide +kernel
theorem dC_84 : decode prog_31_method_1_code 84 = .ok (.putfield 33, 3) := by decide +kernel
theorem dC_87 : decode prog_31_method_1_code 87 = .ok (.aload_n 0, 1) := by decide +kernel
theorem dC_88 : decode prog_31_method_1_code 88 = .ok (.dload_n 3, 1) := by decide +kernel
theorem dC_89 : decode prog_31_method_1_code 89 = .ok (.putfield 39, 3) := by decide +kernel
theorem dC_92 : decode prog_31_method_1_code 92 = .ok (.aload_n 0, 1) := by decide +kernel
theorem dC_93 : decode prog_31_method_1_code 93 = .ok (.dload 5, 2) := by decide +kernel
theorem dC_95 : decode prog_31_method_1_code 95 = .ok (.putfield 42, 3) := by decide +kernel
theorem dC_98 : decode prog_31_method_1_code 98 = .ok (.aload_n 0, 1) := by decide +kernel
theorem dC_99 : decode prog_31_method_1_code 99 = .ok (.dload 7, 2) := by decide +kernel
theorem dC_101 : decode prog_31_method_1_code 101 = .ok (.putfield 45, 3) := by decide +kernel
theorem dC_104 : decode prog_31_method_1_code 104 = .ok (.return_, 1) := by decide +kernel
theorem pd_ocV : parseMethodDescriptor "()V" = some ⟨[], none⟩ := by decide +kernel
theorem pn_com_example_diotima_diotima_kb_FuzzyDatatype : plainName "com/example/diotima/diotima/kb/FuzzyDatatype" = true := by first | (simp [plainName, overriddenIn]; done) | decide +kernel
theorem efC (m : MethodId) (x0 : Addr) (x1 : UInt64) (x2 : UInt64) (x3 : UInt64) (x4 : UInt64) : entryFrame m #[(.ref x0), (.double x1), (.double x2), (.double x3), (.double x4)] 9 = (mkF m 0 #[.val (.ref x0), .val (.double x1), .second, .val (.double x2), .second, .val (.double x3), .second, .val (.double x4), .second] []) := by first | (simp [entryFrame, mkF, argsToLocals, Value.category]; done) | rfl
def QC (Z : State) (a1 : Addr) (w1 : Int64) (w2 : Int64) (w3 : Int64) (w4 : Int64) (h0 : Heap) (n0 : Nat) (v : Option Value) (h : Heap) (L : List Loc) : Prop := v = none ∧ Fr n0 L ∧ Keep h0 h [a1] ∧ Exa Z h a1 "com/example/diotima/diotima/kb/FuzzyDatatype" ∧ Fld Z h a1 "com/example/diotima/diotima/kb/FuzzyDatatype" "riseStart" "D" (.double (FP.l2d w1)) ∧ Fld Z h a1 "com/example/diotima/diotima/kb/FuzzyDatatype" "riseEnd" "D" (.double (FP.l2d w2)) ∧ Fld Z h a1 "com/example/diotima/diotima/kb/FuzzyDatatype" "fallStart" "D" (.double (FP.l2d w3)) ∧ Fld Z h a1 "com/example/diotima/diotima/kb/FuzzyDatatype" "fallEnd" "D" (.double (FP.l2d w4))
set_option maxRecDepth 65536 in
set_option maxHeartbeats 40000000 in
theorem rmC (l : Launch) (Z : State) (a0 : Array Value) (hw : ∀ d ∈ tables_1, d.before a0 Z = true) (ws : List Jvm.Cond) (a1 : Addr) (w1 : Int64) (w2 : Int64) (w3 : Int64) (w4 : Int64) (h0 : Heap) (n0 : Nat) (Z0 : n0 ≤ h0.size) (E1 : Exa Z h0 a1 "com/example/diotima/diotima/kb/FuzzyDatatype") (H1 : n0 ≤ a1) (FriseStart : Fld Z h0 a1 "com/example/diotima/diotima/kb/FuzzyDatatype" "riseStart" "D" (.double (0 : UInt64))) (FriseEnd : Fld Z h0 a1 "com/example/diotima/diotima/kb/FuzzyDatatype" "riseEnd" "D" (.double (0 : UInt64))) (FfallStart : Fld Z h0 a1 "com/example/diotima/diotima/kb/FuzzyDatatype" "fallStart" "D" (.double (0 : UInt64))) (FfallEnd : Fld Z h0 a1 "com/example/diotima/diotima/kb/FuzzyDatatype" "fallEnd" "D" (.double (0 : UInt64))) (H6 : OBd 9000000000000000 w1) (H7 : OBd 9000000000000000 w2) (H8 : OBd 9000000000000000 w3) (H9 : OBd 9000000000000000 w4) (H10 : ¬ w2 < w1) (H11 : ¬ w3 < w2) (H12 : ¬ w4 < w3) :
    MetFree l (⟨"com/example/diotima/diotima/kb/FuzzyDatatype", "<init>", "(DDDD)V"⟩ : MethodName) (head1 (Jvm.Cond.code (⟨"com/example/diotima/diotima/kb/FuzzyDatatype", "<init>", "(DDDD)V"⟩ : MethodName) prog_31_method_1_code 9 none :: ws) ({ frames := 3, cells := 0, slots := 0, locals := 40 } : Room)) (fun a U => a = #[(.ref a1), (.double (FP.l2d w1)), (.double (FP.l2d w2)), (.double (FP.l2d w3)), (.double (FP.l2d w4))] ∧ Z.Warmed39 U.vm ∧ U.heap = h0) (fun _ _ _ _ _ => True) (fun _ U o U' => ∃ v L, o = .returned v ∧ QC Z a1 w1 w2 w3 w4 h0 n0 v U'.heap L ∧ FrameEnd U o U' L ({ frames := 3, cells := 0, slots := 0, locals := 40 } : Room).cells ({ frames := 3, cells := 0, slots := 0, locals := 40 } : Room).slots) := by
  refine MetFree.of_bodySF (plainFor_of_name pn_com_example_diotima_diotima_kb_FuzzyDatatype) hisR ?_
  intro p e s m args below meth c s₁ Bd hml0 hP hK
  obtain ⟨rfl, hZ, hh⟩ := hP
  have hx := Bd.exec
  have hby := Bd.bytes
  have hml : c.maxLocals = 9 := hml0
  have hown : s.vm.findClass "com/example/diotima/diotima/kb/FuzzyDatatype" = some m.cls := findClass_of_methodNamed Bd.named
  have hnm := (name_of_methodNamed Bd.named Bd.method).1
  have X0 : Stand p l e ({ frames := 3, cells := 0, slots := 0, locals := 40 } : Room) s m #[(.ref a1), (.double (FP.l2d w1)), (.double (FP.l2d w2)), (.double (FP.l2d w3)), (.double (FP.l2d w4))] below meth c s₁ [] 0 0 := Stand.of_body Bd
  have e0 : s₁.heap = h0 := by rw [← hh, Bd.state]; rfl
  have N0 := Fr.nil n0
  have pre0 : ∀ t, Steps p.tables e below (s₁.setTop (mkF m 0 #[.val (.ref a1), .val (.double (FP.l2d w1)), .second, .val (.double (FP.l2d w2)), .second, .val (.double (FP.l2d w3)), .second, .val (.double (FP.l2d w4)), .second] [])) t → Steps p.tables e below (s₁.setTop (entryFrame m #[(.ref a1), (.double (FP.l2d w1)), (.double (FP.l2d w2)), (.double (FP.l2d w3)), (.double (FP.l2d w4))] 9)) t := fun t k => castTop (efC m a1 (FP.l2d w1) (FP.l2d w2) (FP.l2d w3) (FP.l2d w4)) k
  have k1 : ∀ t, Steps p.tables e below (s₁.setTop (mkF m 1 #[.val (.ref a1), .val (.double (FP.l2d w1)), .second, .val (.double (FP.l2d w2)), .second, .val (.double (FP.l2d w3)), .second, .val (.double (FP.l2d w4)), .second] [(.ref a1)])) t → Steps p.tables e below (s₁.setTop (entryFrame m #[(.ref a1), (.double (FP.l2d w1)), (.double (FP.l2d w2)), (.double (FP.l2d w3)), (.double (FP.l2d w4))] 9)) t := by
    intro t k
    refine pre0 t ?_
    refine o_aloadN X0.here hx (hb hby dC_0) rfl rfl ?_
    exact k
  obtain ⟨_, _, ⟨T2, L2, c2, n2⟩, -, X2, ⟨Lc2, hQ2, l2, y2, z2⟩, st2⟩ := X0.specialBack hx (y := (⟨"java/lang/Record", "<init>", "()V"⟩ : MethodName)) rfl hown (mvT hZ (hw _ (List.mem_of_getElem? (i := 7) rfl))) (mvT hZ (hw _ (List.mem_of_getElem? (i := 8) rfl))) (mvT hZ (hw _ (List.mem_of_getElem? (i := 11) rfl))) (by decide) (backOf (W := 0) (rmR l Z a0 hw [] a1 h0 n0 Z0) hZ (hw _ (List.mem_of_getElem? (i := 11) rfl)) (hw _ (List.mem_of_getElem? (i := 10) rfl)) (by decide) (by decide)) (g := (mkF m 1 #[.val (.ref a1), .val (.double (FP.l2d w1)), .second, .val (.double (FP.l2d w2)), .second, .val (.double (FP.l2d w3)), .second, .val (.double (FP.l2d w4)), .second] [(.ref a1)])) rfl (by rw [hml]; rfl) (Steps.refl _) (a := a1) (argsL := []) (rest := []) (lenOf pd_ocV rfl) rfl (by show 2 * 0 + _ ≤ _; exact Nat.le_of_eq rfl) (hb hby dC_1) (fun _ _ => ⟨rfl, e0, (by decide : 0 + 0 ≤ _), (by decide : 0 + 0 ≤ _)⟩)
  dsimp only [Pt.U, Pt.locs, Pt.cells, Pt.slots] at X2 l2 y2 z2 st2 hQ2
  subst l2 y2 z2
  obtain ⟨rfl, N2a, eh2⟩ := hQ2
  have N2 := Fr.app N0 N2a
  have e2 : T2.heap = h0 := eh2
  have k3 : ∀ t, Steps p.tables e below (T2.setTop (mkF m 4 #[.val (.ref a1), .val (.double (FP.l2d w1)), .second, .val (.double (FP.l2d w2)), .second, .val (.double (FP.l2d w3)), .second, .val (.double (FP.l2d w4)), .second] [])) t → Steps p.tables e below (s₁.setTop (entryFrame m #[(.ref a1), (.double (FP.l2d w1)), (.double (FP.l2d w2)), (.double (FP.l2d w3)), (.double (FP.l2d w4))] 9)) t := fun t k => k1 t (st2.trans k)
  have k4 : ∀ t, Steps p.tables e below (T2.setTop (mkF m 84 #[.val (.ref a1), .val (.double (FP.l2d w1)), .second, .val (.double (FP.l2d w2)), .second, .val (.double (FP.l2d w3)), .second, .val (.double (FP.l2d w4)), .second] [(.double (FP.l2d w1)), (.ref a1)])) t → Steps p.tables e below (s₁.setTop (entryFrame m #[(.ref a1), (.double (FP.l2d w1)), (.double (FP.l2d w2)), (.double (FP.l2d w3)), (.double (FP.l2d w4))] 9)) t := by
    intro t k
    refine k3 t ?_
    refine o_dloadN X2.here hx (hb hby dC_4) rfl ?_
    refine o_dloadN X2.here hx (hb hby dC_5) rfl ?_
    refine o_dcmpS X2.here hx (hb hby dC_6) (v := XT.cmpL w1 w2) (dcmpV_w (own_bd_b53 H6 (by decide)) (own_bd_b53 H7 (by decide)) _) ?_
    show Steps p.tables e below (T2.setTop (mkF m 7 #[.val (.ref a1), .val (.double (FP.l2d w1)), .second, .val (.double (FP.l2d w2)), .second, .val (.double (FP.l2d w3)), .second, .val (.double (FP.l2d w4)), .second] [(.int (XT.cmpL w1 w2))])) _
    refine o_ifNo X2.here hx (hb hby dC_7) (XT.ll_gt_f H10) ?_
    refine o_dloadN X2.here hx (hb hby dC_10) rfl ?_
    refine o_dload X2.here hx (hb hby dC_11) rfl ?_
    refine o_dcmpS X2.here hx (hb hby dC_13) (v := XT.cmpL w2 w3) (dcmpV_w (own_bd_b53 H7 (by decide)) (own_bd_b53 H8 (by decide)) _) ?_
    show Steps p.tables e below (T2.setTop (mkF m 14 #[.val (.ref a1), .val (.double (FP.l2d w1)), .second, .val (.double (FP.l2d w2)), .second, .val (.double (FP.l2d w3)), .second, .val (.double (FP.l2d w4)), .second] [(.int (XT.cmpL w2 w3))])) _
    refine o_ifNo X2.here hx (hb hby dC_14) (XT.ll_gt_f H11) ?_
    refine o_dload X2.here hx (hb hby dC_17) rfl ?_
    refine o_dload X2.here hx (hb hby dC_19) rfl ?_
    refine o_dcmpS X2.here hx (hb hby dC_21) (v := XT.cmpL w3 w4) (dcmpV_w (own_bd_b53 H8 (by decide)) (own_bd_b53 H9 (by decide)) _) ?_
    show Steps p.tables e below (T2.setTop (mkF m 22 #[.val (.ref a1), .val (.double (FP.l2d w1)), .second, .val (.double (FP.l2d w2)), .second, .val (.double (FP.l2d w3)), .second, .val (.double (FP.l2d w4)), .second] [(.int (XT.cmpL w3 w4))])) _
    refine o_ifYes X2.here hx (pc' := 62) (hb hby dC_22) (XT.ll_le_t H12) (by decide) (by decide) ?_
    refine o_dloadN X2.here hx (hb hby dC_62) rfl ?_
    refine o_dconst0 X2.here hx (hb hby dC_63) (v := FP.l2d (0 : Int64)) own_dconst0 ?_
    refine o_daddS X2.here hx (hb hby dC_64) (nn_w (own_dadd0 (own_bd_b53 H6 (by decide)))) (v := FP.l2d w1) (own_dadd0 (own_bd_b53 H6 (by decide))) ?_
    refine o_dstoreN X2.here hx (hb hby dC_65) (l' := #[.val (.ref a1), .val (.double (FP.l2d w1)), .second, .val (.double (FP.l2d w2)), .second, .val (.double (FP.l2d w3)), .second, .val (.double (FP.l2d w4)), .second]) rfl ?_
    refine o_dloadN X2.here hx (hb hby dC_66) rfl ?_
    refine o_dconst0 X2.here hx (hb hby dC_67) (v := FP.l2d (0 : Int64)) own_dconst0 ?_
    refine o_daddS X2.here hx (hb hby dC_68) (nn_w (own_dadd0 (own_bd_b53 H7 (by decide)))) (v := FP.l2d w2) (own_dadd0 (own_bd_b53 H7 (by decide))) ?_
    refine o_dstoreN X2.here hx (hb hby dC_69) (l' := #[.val (.ref a1), .val (.double (FP.l2d w1)), .second, .val (.double (FP.l2d w2)), .second, .val (.double (FP.l2d w3)), .second, .val (.double (FP.l2d w4)), .second]) rfl ?_
    refine o_dload X2.here hx (hb hby dC_70) rfl ?_
    refine o_dconst0 X2.here hx (hb hby dC_72) (v := FP.l2d (0 : Int64)) own_dconst0 ?_
    refine o_daddS X2.here hx (hb hby dC_73) (nn_w (own_dadd0 (own_bd_b53 H8 (by decide)))) (v := FP.l2d w3) (own_dadd0 (own_bd_b53 H8 (by decide))) ?_
    refine o_dstore X2.here hx (hb hby dC_74) (l' := #[.val (.ref a1), .val (.double (FP.l2d w1)), .second, .val (.double (FP.l2d w2)), .second, .val (.double (FP.l2d w3)), .second, .val (.double (FP.l2d w4)), .second]) rfl ?_
    refine o_dload X2.here hx (hb hby dC_76) rfl ?_
    refine o_dconst0 X2.here hx (hb hby dC_78) (v := FP.l2d (0 : Int64)) own_dconst0 ?_
    refine o_daddS X2.here hx (hb hby dC_79) (nn_w (own_dadd0 (own_bd_b53 H9 (by decide)))) (v := FP.l2d w4) (own_dadd0 (own_bd_b53 H9 (by decide))) ?_
    refine o_dstore X2.here hx (hb hby dC_80) (l' := #[.val (.ref a1), .val (.double (FP.l2d w1)), .second, .val (.double (FP.l2d w2)), .second, .val (.double (FP.l2d w3)), .second, .val (.double (FP.l2d w4)), .second]) rfl ?_
    refine o_aloadN X2.here hx (hb hby dC_82) rfl rfl ?_
    refine o_dloadN X2.here hx (hb hby dC_83) rfl ?_
    exact k
  obtain ⟨T5, h5, X5, e5, W5, st5⟩ := putF X2 hx hZ hown (host := "") (Or.inl (hw _ (List.mem_of_getElem? (i := 15) rfl))) Via.refl e2 FriseStart E1 (Or.inr ⟨(hw _ (List.mem_of_getElem? (i := 16) rfl)), rfl, hnm⟩) (hw _ (List.mem_of_getElem? (i := 2) rfl)) (ty := .double) (by decide) rfl rfl (g := (mkF m 84 #[.val (.ref a1), .val (.double (FP.l2d w1)), .second, .val (.double (FP.l2d w2)), .second, .val (.double (FP.l2d w3)), .second, .val (.double (FP.l2d w4)), .second] [(.double (FP.l2d w1)), (.ref a1)])) rfl rfl (hb hby dC_84)
  have N5 := Fr.snoc X5 N2 H1
  have P5 : Keep h0 h5 [a1] := ((Keep.refl h0 [a1]).wr W5 (Or.inl (List.mem_of_getElem? (i := 0) rfl)))
  have Z5 : n0 ≤ h5.size := (by rw [W5.size]; exact Z0)
  have E6 : Exa Z h5 a1 "com/example/diotima/diotima/kb/FuzzyDatatype" := (Exa.wr W5 E1)
  have F7 : Fld Z h5 a1 "com/example/diotima/diotima/kb/FuzzyDatatype" "riseStart" "D" (.double (FP.l2d w1)) := (Fld.same W5 FriseStart)
  have F8 : Fld Z h5 a1 "com/example/diotima/diotima/kb/FuzzyDatatype" "riseEnd" "D" (.double (0 : UInt64)) := (Fld.other W5 FriseEnd (Or.inr (slot_ne (C := "com/example/diotima/diotima/kb/FuzzyDatatype") (Or.inr (hw _ (List.mem_of_getElem? (i := 18) rfl))) (Or.inr (hw _ (List.mem_of_getElem? (i := 16) rfl))) (by decide) (t := .double) (t' := .double) (by decide) (by decide))))
  have F9 : Fld Z h5 a1 "com/example/diotima/diotima/kb/FuzzyDatatype" "fallStart" "D" (.double (0 : UInt64)) := (Fld.other W5 FfallStart (Or.inr (slot_ne (C := "com/example/diotima/diotima/kb/FuzzyDatatype") (Or.inr (hw _ (List.mem_of_getElem? (i := 20) rfl))) (Or.inr (hw _ (List.mem_of_getElem? (i := 16) rfl))) (by decide) (t := .double) (t' := .double) (by decide) (by decide))))
  have F10 : Fld Z h5 a1 "com/example/diotima/diotima/kb/FuzzyDatatype" "fallEnd" "D" (.double (0 : UInt64)) := (Fld.other W5 FfallEnd (Or.inr (slot_ne (C := "com/example/diotima/diotima/kb/FuzzyDatatype") (Or.inr (hw _ (List.mem_of_getElem? (i := 22) rfl))) (Or.inr (hw _ (List.mem_of_getElem? (i := 16) rfl))) (by decide) (t := .double) (t' := .double) (by decide) (by decide))))
  have k11 : ∀ t, Steps p.tables e below (T5.setTop (mkF m 87 #[.val (.ref a1), .val (.double (FP.l2d w1)), .second, .val (.double (FP.l2d w2)), .second, .val (.double (FP.l2d w3)), .second, .val (.double (FP.l2d w4)), .second] [])) t → Steps p.tables e below (s₁.setTop (entryFrame m #[(.ref a1), (.double (FP.l2d w1)), (.double (FP.l2d w2)), (.double (FP.l2d w3)), (.double (FP.l2d w4))] 9)) t := fun t k => k4 t (st5 _ k)
  have k12 : ∀ t, Steps p.tables e below (T5.setTop (mkF m 89 #[.val (.ref a1), .val (.double (FP.l2d w1)), .second, .val (.double (FP.l2d w2)), .second, .val (.double (FP.l2d w3)), .second, .val (.double (FP.l2d w4)), .second] [(.double (FP.l2d w2)), (.ref a1)])) t → Steps p.tables e below (s₁.setTop (entryFrame m #[(.ref a1), (.double (FP.l2d w1)), (.double (FP.l2d w2)), (.double (FP.l2d w3)), (.double (FP.l2d w4))] 9)) t := by
    intro t k
    refine k11 t ?_
    refine o_aloadN X5.here hx (hb hby dC_87) rfl rfl ?_
    refine o_dloadN X5.here hx (hb hby dC_88) rfl ?_
    exact k
  obtain ⟨T13, h13, X13, e13, W13, st13⟩ := putF X5 hx hZ hown (host := "") (Or.inl (hw _ (List.mem_of_getElem? (i := 17) rfl))) Via.refl e5 F8 E6 (Or.inr ⟨(hw _ (List.mem_of_getElem? (i := 18) rfl)), rfl, hnm⟩) (hw _ (List.mem_of_getElem? (i := 2) rfl)) (ty := .double) (by decide) rfl rfl (g := (mkF m 89 #[.val (.ref a1), .val (.double (FP.l2d w1)), .second, .val (.double (FP.l2d w2)), .second, .val (.double (FP.l2d w3)), .second, .val (.double (FP.l2d w4)), .second] [(.double (FP.l2d w2)), (.ref a1)])) rfl rfl (hb hby dC_89)
  have N13 := Fr.snoc X13 N5 H1
  have P13 : Keep h0 h13 [a1] := (P5.wr W13 (Or.inl (List.mem_of_getElem? (i := 0) rfl)))
  have Z13 : n0 ≤ h13.size := (by rw [W13.size]; exact Z5)
  have E14 : Exa Z h13 a1 "com/example/diotima/diotima/kb/FuzzyDatatype" := (Exa.wr W13 E6)
  have F15 : Fld Z h13 a1 "com/example/diotima/diotima/kb/FuzzyDatatype" "riseStart" "D" (.double (FP.l2d w1)) := (Fld.other W13 F7 (Or.inr (slot_ne (C := "com/example/diotima/diotima/kb/FuzzyDatatype") (Or.inr (hw _ (List.mem_of_getElem? (i := 16) rfl))) (Or.inr (hw _ (List.mem_of_getElem? (i := 18) rfl))) (by decide) (t := .double) (t' := .double) (by decide) (by decide))))
  have F16 : Fld Z h13 a1 "com/example/diotima/diotima/kb/FuzzyDatatype" "riseEnd" "D" (.double (FP.l2d w2)) := (Fld.same W13 F8)
  have F17 : Fld Z h13 a1 "com/example/diotima/diotima/kb/FuzzyDatatype" "fallStart" "D" (.double (0 : UInt64)) := (Fld.other W13 F9 (Or.inr (slot_ne (C := "com/example/diotima/diotima/kb/FuzzyDatatype") (Or.inr (hw _ (List.mem_of_getElem? (i := 20) rfl))) (Or.inr (hw _ (List.mem_of_getElem? (i := 18) rfl))) (by decide) (t := .double) (t' := .double) (by decide) (by decide))))
  have F18 : Fld Z h13 a1 "com/example/diotima/diotima/kb/FuzzyDatatype" "fallEnd" "D" (.double (0 : UInt64)) := (Fld.other W13 F10 (Or.inr (slot_ne (C := "com/example/diotima/diotima/kb/FuzzyDatatype") (Or.inr (hw _ (List.mem_of_getElem? (i := 22) rfl))) (Or.inr (hw _ (List.mem_of_getElem? (i := 18) rfl))) (by decide) (t := .double) (t' := .double) (by decide) (by decide))))
  have k19 : ∀ t, Steps p.tables e below (T13.setTop (mkF m 92 #[.val (.ref a1), .val (.double (FP.l2d w1)), .second, .val (.double (FP.l2d w2)), .second, .val (.double (FP.l2d w3)), .second, .val (.double (FP.l2d w4)), .second] [])) t → Steps p.tables e below (s₁.setTop (entryFrame m #[(.ref a1), (.double (FP.l2d w1)), (.double (FP.l2d w2)), (.double (FP.l2d w3)), (.double (FP.l2d w4))] 9)) t := fun t k => k12 t (st13 _ k)
  have k20 : ∀ t, Steps p.tables e below (T13.setTop (mkF m 95 #[.val (.ref a1), .val (.double (FP.l2d w1)), .second, .val (.double (FP.l2d w2)), .second, .val (.double (FP.l2d w3)), .second, .val (.double (FP.l2d w4)), .second] [(.double (FP.l2d w3)), (.ref a1)])) t → Steps p.tables e below (s₁.setTop (entryFrame m #[(.ref a1), (.double (FP.l2d w1)), (.double (FP.l2d w2)), (.double (FP.l2d w3)), (.double (FP.l2d w4))] 9)) t := by
    intro t k
    refine k19 t ?_
    refine o_aloadN X13.here hx (hb hby dC_92) rfl rfl ?_
    refine o_dload X13.here hx (hb hby dC_93) rfl ?_
    exact k
  obtain ⟨T21, h21, X21, e21, W21, st21⟩ := putF X13 hx hZ hown (host := "") (Or.inl (hw _ (List.mem_of_getElem? (i := 19) rfl))) Via.refl e13 F17 E14 (Or.inr ⟨(hw _ (List.mem_of_getElem? (i := 20) rfl)), rfl, hnm⟩) (hw _ (List.mem_of_getElem? (i := 2) rfl)) (ty := .double) (by decide) rfl rfl (g := (mkF m 95 #[.val (.ref a1), .val (.double (FP.l2d w1)), .second, .val (.double (FP.l2d w2)), .second, .val (.double (FP.l2d w3)), .second, .val (.double (FP.l2d w4)), .second] [(.double (FP.l2d w3)), (.ref a1)])) rfl rfl (hb hby dC_95)
  have N21 := Fr.snoc X21 N13 H1
  have P21 : Keep h0 h21 [a1] := (P13.wr W21 (Or.inl (List.mem_of_getElem? (i := 0) rfl)))
  have Z21 : n0 ≤ h21.size := (by rw [W21.size]; exact Z13)
  have E22 : Exa Z h21 a1 "com/example/diotima/diotima/kb/FuzzyDatatype" := (Exa.wr W21 E14)
  have F23 : Fld Z h21 a1 "com/example/diotima/diotima/kb/FuzzyDatatype" "riseStart" "D" (.double (FP.l2d w1)) := (Fld.other W21 F15 (Or.inr (slot_ne (C := "com/example/diotima/diotima/kb/FuzzyDatatype") (Or.inr (hw _ (List.mem_of_getElem? (i := 16) rfl))) (Or.inr (hw _ (List.mem_of_getElem? (i := 20) rfl))) (by decide) (t := .double) (t' := .double) (by decide) (by decide))))
  have F24 : Fld Z h21 a1 "com/example/diotima/diotima/kb/FuzzyDatatype" "riseEnd" "D" (.double (FP.l2d w2)) := (Fld.other W21 F16 (Or.inr (slot_ne (C := "com/example/diotima/diotima/kb/FuzzyDatatype") (Or.inr (hw _ (List.mem_of_getElem? (i := 18) rfl))) (Or.inr (hw _ (List.mem_of_getElem? (i := 20) rfl))) (by decide) (t := .double) (t' := .double) (by decide) (by decide))))
  have F25 : Fld Z h21 a1 "com/example/diotima/diotima/kb/FuzzyDatatype" "fallStart" "D" (.double (FP.l2d w3)) := (Fld.same W21 F17)
  have F26 : Fld Z h21 a1 "com/example/diotima/diotima/kb/FuzzyDatatype" "fallEnd" "D" (.double (0 : UInt64)) := (Fld.other W21 F18 (Or.inr (slot_ne (C := "com/example/diotima/diotima/kb/FuzzyDatatype") (Or.inr (hw _ (List.mem_of_getElem? (i := 22) rfl))) (Or.inr (hw _ (List.mem_of_getElem? (i := 20) rfl))) (by decide) (t := .double) (t' := .double) (by decide) (by decide))))
  have k27 : ∀ t, Steps p.tables e below (T21.setTop (mkF m 98 #[.val (.ref a1), .val (.double (FP.l2d w1)), .second, .val (.double (FP.l2d w2)), .second, .val (.double (FP.l2d w3)), .second, .val (.double (FP.l2d w4)), .second] [])) t → Steps p.tables e below (s₁.setTop (entryFrame m #[(.ref a1), (.double (FP.l2d w1)), (.double (FP.l2d w2)), (.double (FP.l2d w3)), (.double (FP.l2d w4))] 9)) t := fun t k => k20 t (st21 _ k)
  have k28 : ∀ t, Steps p.tables e below (T21.setTop (mkF m 101 #[.val (.ref a1), .val (.double (FP.l2d w1)), .second, .val (.double (FP.l2d w2)), .second, .val (.double (FP.l2d w3)), .second, .val (.double (FP.l2d w4)), .second] [(.double (FP.l2d w4)), (.ref a1)])) t → Steps p.tables e below (s₁.setTop (entryFrame m #[(.ref a1), (.double (FP.l2d w1)), (.double (FP.l2d w2)), (.double (FP.l2d w3)), (.double (FP.l2d w4))] 9)) t := by
    intro t k
    refine k27 t ?_
    refine o_aloadN X21.here hx (hb hby dC_98) rfl rfl ?_
    refine o_dload X21.here hx (hb hby dC_99) rfl ?_
    exact k
  obtain ⟨T29, h29, X29, e29, W29, st29⟩ := putF X21 hx hZ hown (host := "") (Or.inl (hw _ (List.mem_of_getElem? (i := 21) rfl))) Via.refl e21 F26 E22 (Or.inr ⟨(hw _ (List.mem_of_getElem? (i := 22) rfl)), rfl, hnm⟩) (hw _ (List.mem_of_getElem? (i := 2) rfl)) (ty := .double) (by decide) rfl rfl (g := (mkF m 101 #[.val (.ref a1), .val (.double (FP.l2d w1)), .second, .val (.double (FP.l2d w2)), .second, .val (.double (FP.l2d w3)), .second, .val (.double (FP.l2d w4)), .second] [(.double (FP.l2d w4)), (.ref a1)])) rfl rfl (hb hby dC_101)
  have N29 := Fr.snoc X29 N21 H1
  have P29 : Keep h0 h29 [a1] := (P21.wr W29 (Or.inl (List.mem_of_getElem? (i := 0) rfl)))
  have Z29 : n0 ≤ h29.size := (by rw [W29.size]; exact Z21)
  have E30 : Exa Z h29 a1 "com/example/diotima/diotima/kb/FuzzyDatatype" := (Exa.wr W29 E22)
  have F31 : Fld Z h29 a1 "com/example/diotima/diotima/kb/FuzzyDatatype" "riseStart" "D" (.double (FP.l2d w1)) := (Fld.other W29 F23 (Or.inr (slot_ne (C := "com/example/diotima/diotima/kb/FuzzyDatatype") (Or.inr (hw _ (List.mem_of_getElem? (i := 16) rfl))) (Or.inr (hw _ (List.mem_of_getElem? (i := 22) rfl))) (by decide) (t := .double) (t' := .double) (by decide) (by decide))))
  have F32 : Fld Z h29 a1 "com/example/diotima/diotima/kb/FuzzyDatatype" "riseEnd" "D" (.double (FP.l2d w2)) := (Fld.other W29 F24 (Or.inr (slot_ne (C := "com/example/diotima/diotima/kb/FuzzyDatatype") (Or.inr (hw _ (List.mem_of_getElem? (i := 18) rfl))) (Or.inr (hw _ (List.mem_of_getElem? (i := 22) rfl))) (by decide) (t := .double) (t' := .double) (by decide) (by decide))))
  have F33 : Fld Z h29 a1 "com/example/diotima/diotima/kb/FuzzyDatatype" "fallStart" "D" (.double (FP.l2d w3)) := (Fld.other W29 F25 (Or.inr (slot_ne (C := "com/example/diotima/diotima/kb/FuzzyDatatype") (Or.inr (hw _ (List.mem_of_getElem? (i := 20) rfl))) (Or.inr (hw _ (List.mem_of_getElem? (i := 22) rfl))) (by decide) (t := .double) (t' := .double) (by decide) (by decide))))
  have F34 : Fld Z h29 a1 "com/example/diotima/diotima/kb/FuzzyDatatype" "fallEnd" "D" (.double (FP.l2d w4)) := (Fld.same W29 F26)
  have k35 : ∀ t, Steps p.tables e below (T29.setTop (mkF m 104 #[.val (.ref a1), .val (.double (FP.l2d w1)), .second, .val (.double (FP.l2d w2)), .second, .val (.double (FP.l2d w3)), .second, .val (.double (FP.l2d w4)), .second] [])) t → Steps p.tables e below (s₁.setTop (entryFrame m #[(.ref a1), (.double (FP.l2d w1)), (.double (FP.l2d w2)), (.double (FP.l2d w3)), (.double (FP.l2d w4))] 9)) t := fun t k => k28 t (st29 _ k)
  obtain ⟨fs, hr, hrun, hended, hW, hsame⟩ := X29.leave (v := none) (fun _ => rfl)
  refine ⟨_, _, k35 _ ?_, hrun, hended, _, _, rfl, ?_, ⟨_, rfl⟩, hW, hsame.mono (by decide) (by decide)⟩
  · exact X29.returnOut hx Bd.returns (hb hby dC_104) hr
  · show QC Z a1 w1 w2 w3 w4 h0 n0 _ T29.heap _
    rw [e29]
    exact ⟨rfl, N29, P29, E30, F31, F32, F33, F34⟩

theorem dI_0 : decode prog_31_method_10_code 0 = .ok (.aload_n 0, 1) := by decide +kernel
theorem dI_1 : decode prog_31_method_10_code 1 = .ok (.getfield 33, 3) := by decide +kernel
theorem dI_4 : decode prog_31_method_10_code 4 = .ok (.aload_n 0, 1) := by decide +kernel
theorem dI_5 : decode prog_31_method_10_code 5 = .ok (.getfield 39, 3) := by decide +kernel
theorem dI_8 : decode prog_31_method_10_code 8 = .ok (.dcmp .l, 1) := by decide +kernel
theorem dI_9 : decode prog_31_method_10_code 9 = .ok (.ifCond .ne 19, 3) := by decide +kernel
theorem dI_12 : decode prog_31_method_10_code 12 = .ok (.aload_n 0, 1) := by decide +kernel
theorem dI_13 : decode prog_31_method_10_code 13 = .ok (.getfield 42, 3) := by decide +kernel
theorem dI_16 : decode prog_31_method_10_code 16 = .ok (.aload_n 0, 1) := by decide +kernel
theorem dI_17 : decode prog_31_method_10_code 17 = .ok (.getfield 45, 3) := by decide +kernel
theorem dI_20 : decode prog_31_method_10_code 20 = .ok (.dcmp .l, 1) := by decide +kernel
theorem dI_21 : decode prog_31_method_10_code 21 = .ok (.ifCond .ne 7, 3) := by decide +kernel
theorem dI_24 : decode prog_31_method_10_code 24 = .ok (.iconst 1, 1) := by decide +kernel
theorem dI_25 : decode prog_31_method_10_code 25 = .ok (.goto 4, 3) := by decide +kernel
theorem dI_28 : decode prog_31_method_10_code 28 = .ok (.iconst 0, 1) := by decide +kernel
theorem dI_29 : decode prog_31_method_10_code 29 = .ok (.ireturn, 1) := by decide +kernel
theorem efI (m : MethodId) (x0 : Addr) : entryFrame m #[(.ref x0)] 1 = (mkF m 0 #[.val (.ref x0)] []) := by first | (simp [entryFrame, mkF, argsToLocals, Value.category]; done) | rfl
def QI (Z : State) (a1 : Addr) (w1 : Int64) (w2 : Int64) (w3 : Int64) (w4 : Int64) (h0 : Heap) (n0 : Nat) (v : Option Value) (h : Heap) (L : List Loc) : Prop := v = some (.int (if w1 = w2 ∧ w3 = w4 then (1 : Int32) else 0)) ∧ Fr n0 L ∧ h = h0
set_option maxRecDepth 65536 in
set_option maxHeartbeats 40000000 in
theorem rmI (l : Launch) (Z : State) (a0 : Array Value) (hw : ∀ d ∈ tables_1, d.before a0 Z = true) (ws : List Jvm.Cond) (a1 : Addr) (w1 : Int64) (w2 : Int64) (w3 : Int64) (w4 : Int64) (h0 : Heap) (n0 : Nat) (Z0 : n0 ≤ h0.size) (FriseStart : Fld Z h0 a1 "com/example/diotima/diotima/kb/FuzzyDatatype" "riseStart" "D" (.double (FP.l2d w1))) (FriseEnd : Fld Z h0 a1 "com/example/diotima/diotima/kb/FuzzyDatatype" "riseEnd" "D" (.double (FP.l2d w2))) (FfallStart : Fld Z h0 a1 "com/example/diotima/diotima/kb/FuzzyDatatype" "fallStart" "D" (.double (FP.l2d w3))) (FfallEnd : Fld Z h0 a1 "com/example/diotima/diotima/kb/FuzzyDatatype" "fallEnd" "D" (.double (FP.l2d w4))) (H4 : OBd 9000000000000000 w1) (H5 : OBd 9000000000000000 w2) (H6 : OBd 9000000000000000 w3) (H7 : OBd 9000000000000000 w4) :
    MetFree l (⟨"com/example/diotima/diotima/kb/FuzzyDatatype", "isCrisp", "()Z"⟩ : MethodName) (head1 (Jvm.Cond.code (⟨"com/example/diotima/diotima/kb/FuzzyDatatype", "isCrisp", "()Z"⟩ : MethodName) prog_31_method_10_code 1 (some .boolean) :: ws) ({ frames := 0, cells := 0, slots := 0, locals := 0 } : Room)) (fun a U => a = #[(.ref a1)] ∧ Z.Warmed39 U.vm ∧ U.heap = h0) (fun _ _ _ _ _ => True) (fun _ U o U' => ∃ v L, o = .returned v ∧ QI Z a1 w1 w2 w3 w4 h0 n0 v U'.heap L ∧ FrameEnd U o U' L ({ frames := 0, cells := 0, slots := 0, locals := 0 } : Room).cells ({ frames := 0, cells := 0, slots := 0, locals := 0 } : Room).slots) := by
  refine MetFree.of_bodySF (plainFor_of_name pn_com_example_diotima_diotima_kb_FuzzyDatatype) hisR ?_
  intro p e s m args below meth c s₁ Bd hml0 hP hK
  obtain ⟨rfl, hZ, hh⟩ := hP
  have hx := Bd.exec
  have hby := Bd.bytes
  have hml : c.maxLocals = 1 := hml0
  have hown : s.vm.findClass "com/example/diotima/diotima/kb/FuzzyDatatype" = some m.cls := findClass_of_methodNamed Bd.named
  have hnm := (name_of_methodNamed Bd.named Bd.method).1
  have X0 : Stand p l e ({ frames := 0, cells := 0, slots := 0, locals := 0 } : Room) s m #[(.ref a1)] below meth c s₁ [] 0 0 := Stand.of_body Bd
  have e0 : s₁.heap = h0 := by rw [← hh, Bd.state]; rfl
  have N0 := Fr.nil n0
  have pre0 : ∀ t, Steps p.tables e below (s₁.setTop (mkF m 0 #[.val (.ref a1)] [])) t → Steps p.tables e below (s₁.setTop (entryFrame m #[(.ref a1)] 1)) t := fun t k => castTop (efI m a1) k
  have k1 : ∀ t, Steps p.tables e below (s₁.setTop (mkF m 1 #[.val (.ref a1)] [(.ref a1)])) t → Steps p.tables e below (s₁.setTop (entryFrame m #[(.ref a1)] 1)) t := by
    intro t k
    refine pre0 t ?_
    refine o_aloadN X0.here hx (hb hby dI_0) rfl rfl ?_
    exact k
  obtain ⟨T2, X2, e2, st2⟩ := getF X0 hx hZ hown (host := "") (Or.inl (hw _ (List.mem_of_getElem? (i := 15) rfl))) Via.refl e0 FriseStart (g := (mkF m 1 #[.val (.ref a1)] [(.ref a1)])) rfl rfl (hb hby dI_1)
  have k3 : ∀ t, Steps p.tables e below (T2.setTop (mkF m 4 #[.val (.ref a1)] [(.double (FP.l2d w1))])) t → Steps p.tables e below (s₁.setTop (entryFrame m #[(.ref a1)] 1)) t := fun t k => k1 t (st2 _ k)
  have k4 : ∀ t, Steps p.tables e below (T2.setTop (mkF m 5 #[.val (.ref a1)] [(.ref a1), (.double (FP.l2d w1))])) t → Steps p.tables e below (s₁.setTop (entryFrame m #[(.ref a1)] 1)) t := by
    intro t k
    refine k3 t ?_
    refine o_aloadN X2.here hx (hb hby dI_4) rfl rfl ?_
    exact k
  obtain ⟨T5, X5, e5, st5⟩ := getF X2 hx hZ hown (host := "") (Or.inl (hw _ (List.mem_of_getElem? (i := 17) rfl))) Via.refl e2 FriseEnd (g := (mkF m 5 #[.val (.ref a1)] [(.ref a1), (.double (FP.l2d w1))])) rfl rfl (hb hby dI_5)
  have k6 : ∀ t, Steps p.tables e below (T5.setTop (mkF m 8 #[.val (.ref a1)] [(.double (FP.l2d w2)), (.double (FP.l2d w1))])) t → Steps p.tables e below (s₁.setTop (entryFrame m #[(.ref a1)] 1)) t := fun t k => k4 t (st5 _ k)
  have k7 : ∀ t, Steps p.tables e below (T5.setTop (mkF m 9 #[.val (.ref a1)] [(.int (XT.cmpL w1 w2))])) t → Steps p.tables e below (s₁.setTop (entryFrame m #[(.ref a1)] 1)) t := by
    intro t k
    refine k6 t ?_
    refine o_dcmpS X5.here hx (hb hby dI_8) (v := XT.cmpL w1 w2) (dcmpV_w (own_bd_b53 H4 (by decide)) (own_bd_b53 H5 (by decide)) _) ?_
    exact k
  by_cases h9_8 : w1 = w2
  · -- pc 9 not taken
    have k9 : ∀ t, Steps p.tables e below (T5.setTop (mkF m 13 #[.val (.ref a1)] [(.ref a1)])) t → Steps p.tables e below (s₁.setTop (entryFrame m #[(.ref a1)] 1)) t := by
      intro t k
      refine k7 t ?_
      refine o_ifNo X5.here hx (hb hby dI_9) (XT.ll_ne_f h9_8) ?_
      refine o_aloadN X5.here hx (hb hby dI_12) rfl rfl ?_
      exact k
    obtain ⟨T10, X10, e10, st10⟩ := getF X5 hx hZ hown (host := "") (Or.inl (hw _ (List.mem_of_getElem? (i := 19) rfl))) Via.refl e5 FfallStart (g := (mkF m 13 #[.val (.ref a1)] [(.ref a1)])) rfl rfl (hb hby dI_13)
    have k11 : ∀ t, Steps p.tables e below (T10.setTop (mkF m 16 #[.val (.ref a1)] [(.double (FP.l2d w3))])) t → Steps p.tables e below (s₁.setTop (entryFrame m #[(.ref a1)] 1)) t := fun t k => k9 t (st10 _ k)
    have k12 : ∀ t, Steps p.tables e below (T10.setTop (mkF m 17 #[.val (.ref a1)] [(.ref a1), (.double (FP.l2d w3))])) t → Steps p.tables e below (s₁.setTop (entryFrame m #[(.ref a1)] 1)) t := by
      intro t k
      refine k11 t ?_
      refine o_aloadN X10.here hx (hb hby dI_16) rfl rfl ?_
      exact k
    obtain ⟨T13, X13, e13, st13⟩ := getF X10 hx hZ hown (host := "") (Or.inl (hw _ (List.mem_of_getElem? (i := 21) rfl))) Via.refl e10 FfallEnd (g := (mkF m 17 #[.val (.ref a1)] [(.ref a1), (.double (FP.l2d w3))])) rfl rfl (hb hby dI_17)
    have k14 : ∀ t, Steps p.tables e below (T13.setTop (mkF m 20 #[.val (.ref a1)] [(.double (FP.l2d w4)), (.double (FP.l2d w3))])) t → Steps p.tables e below (s₁.setTop (entryFrame m #[(.ref a1)] 1)) t := fun t k => k12 t (st13 _ k)
    have k15 : ∀ t, Steps p.tables e below (T13.setTop (mkF m 21 #[.val (.ref a1)] [(.int (XT.cmpL w3 w4))])) t → Steps p.tables e below (s₁.setTop (entryFrame m #[(.ref a1)] 1)) t := by
      intro t k
      refine k14 t ?_
      refine o_dcmpS X13.here hx (hb hby dI_20) (v := XT.cmpL w3 w4) (dcmpV_w (own_bd_b53 H6 (by decide)) (own_bd_b53 H7 (by decide)) _) ?_
      exact k
    by_cases h21_16 : w3 = w4
    · -- pc 21 not taken
      have k17 : ∀ t, Steps p.tables e below (T13.setTop (mkF m 29 #[.val (.ref a1)] [(.int (1 : Int32))])) t → Steps p.tables e below (s₁.setTop (entryFrame m #[(.ref a1)] 1)) t := by
        intro t k
        refine k15 t ?_
        refine o_ifNo X13.here hx (hb hby dI_21) (XT.ll_ne_f h21_16) ?_
        refine o_iconstV X13.here hx (1 : Int32) (hb hby dI_24) rfl ?_
        show Steps p.tables e below (T13.setTop (mkF m 25 #[.val (.ref a1)] [(.int (1 : Int32))])) _
        refine o_goto X13.here hx (pc' := 29) (hb hby dI_25) (by decide) (by decide) ?_
        exact k
      obtain ⟨fs, hr, hrun, hended, hW, hsame⟩ := X13.leave (v := some (.int (1 : Int32))) (fun h => by rw [Bd.returns] at h; cases h)
      refine ⟨_, _, k17 _ ?_, hrun, hended, _, _, rfl, ?_, ⟨_, rfl⟩, hW, hsame.mono (by decide) (by decide)⟩
      · exact retN X13 hx (t := .boolean) Bd.returns (by simp) (hb hby dI_29) hr
      · show QI Z a1 w1 w2 w3 w4 h0 n0 _ T13.heap _
        rw [e13]
        exact ⟨(by simp [h9_8, h21_16]), N0, rfl⟩
    · -- pc 21 taken
      have k18 : ∀ t, Steps p.tables e below (T13.setTop (mkF m 29 #[.val (.ref a1)] [(.int (0 : Int32))])) t → Steps p.tables e below (s₁.setTop (entryFrame m #[(.ref a1)] 1)) t := by
        intro t k
        refine k15 t ?_
        refine o_ifYes X13.here hx (pc' := 28) (hb hby dI_21) (XT.ll_ne_t h21_16) (by decide) (by decide) ?_
        refine o_iconstV X13.here hx (0 : Int32) (hb hby dI_28) rfl ?_
        exact k
      obtain ⟨fs, hr, hrun, hended, hW, hsame⟩ := X13.leave (v := some (.int (0 : Int32))) (fun h => by rw [Bd.returns] at h; cases h)
      refine ⟨_, _, k18 _ ?_, hrun, hended, _, _, rfl, ?_, ⟨_, rfl⟩, hW, hsame.mono (by decide) (by decide)⟩
      · exact retN X13 hx (t := .boolean) Bd.returns (by simp) (hb hby dI_29) hr
      · show QI Z a1 w1 w2 w3 w4 h0 n0 _ T13.heap _
        rw [e13]
        exact ⟨(by simp [h9_8, h21_16]), N0, rfl⟩
  · -- pc 9 taken
    have k19 : ∀ t, Steps p.tables e below (T5.setTop (mkF m 29 #[.val (.ref a1)] [(.int (0 : Int32))])) t → Steps p.tables e below (s₁.setTop (entryFrame m #[(.ref a1)] 1)) t := by
      intro t k
      refine k7 t ?_
      refine o_ifYes X5.here hx (pc' := 28) (hb hby dI_9) (XT.ll_ne_t h9_8) (by decide) (by decide) ?_
      refine o_iconstV X5.here hx (0 : Int32) (hb hby dI_28) rfl ?_
      exact k
    obtain ⟨fs, hr, hrun, hended, hW, hsame⟩ := X5.leave (v := some (.int (0 : Int32))) (fun h => by rw [Bd.returns] at h; cases h)
    refine ⟨_, _, k19 _ ?_, hrun, hended, _, _, rfl, ?_, ⟨_, rfl⟩, hW, hsame.mono (by decide) (by decide)⟩
    · exact retN X5 hx (t := .boolean) Bd.returns (by simp) (hb hby dI_29) hr
    · show QI Z a1 w1 w2 w3 w4 h0 n0 _ T5.heap _
      rw [e5]
      exact ⟨(by simp [h9_8]), N0, rfl⟩

theorem pd_oDDDDcV : parseMethodDescriptor "(DDDD)V" = some ⟨[.double, .double, .double, .double], none⟩ := by decide +kernel
theorem pd_ocZ : parseMethodDescriptor "()Z" = some ⟨[], some .boolean⟩ := by decide +kernel
theorem pn_com_example_diotima_diotima_kb_FuzzyDatatypeIsCrispPinLaw : plainName "com/example/diotima/diotima/kb/FuzzyDatatypeIsCrispPinLaw" = true := by first | (simp [plainName, overriddenIn]; done) | decide +kernel
theorem ef0 (m : MethodId) (x0 : Int32) (x1 : Int32) (x2 : Int32) (x3 : Int32) : entryFrame m #[(.int x0), (.int x1), (.int x2), (.int x3)] maxLocals = (mkF m 0 #[.val (.int x0), .val (.int x1), .val (.int x2), .val (.int x3), .unset, .unset, .unset, .unset, .unset, .unset, .unset, .unset, .unset, .unset, .unset, .unset, .unset, .unset] []) := by first | (simp [entryFrame, mkF, argsToLocals, Value.category, maxLocals]; done) | rfl
def Q0 (Z : State) (p1 : Int32) (p2 : Int32) (p3 : Int32) (p4 : Int32) (h0 : Heap) (n0 : Nat) (v : Option Value) (h : Heap) (L : List Loc) : Prop := v = some (.int (1 : Int32)) ∧ Fr n0 L
set_option maxRecDepth 65536 in
set_option maxHeartbeats 40000000 in
theorem rm0 (l : Launch) (Z : State) (a0 : Array Value) (hw : ∀ d ∈ tables_1, d.before a0 Z = true) (ws : List Jvm.Cond) (p1 : Int32) (p2 : Int32) (p3 : Int32) (p4 : Int32) (h0 : Heap) (n0 : Nat) (Z0 : n0 ≤ h0.size) :
    MetFree l x (head1 (Jvm.Cond.code x code maxLocals ret :: ws) room_1) (fun a U => a = #[(.int p1), (.int p2), (.int p3), (.int p4)] ∧ Z.Warmed39 U.vm ∧ U.heap = h0) (fun _ _ _ _ _ => True) (fun _ U o U' => ∃ v L, o = .returned v ∧ Q0 Z p1 p2 p3 p4 h0 n0 v U'.heap L ∧ FrameEnd U o U' L room_1.cells room_1.slots) := by
  refine MetFree.of_bodySF (plainFor_of_name pn_com_example_diotima_diotima_kb_FuzzyDatatypeIsCrispPinLaw) hisR ?_
  intro p e s m args below meth c s₁ Bd hml0 hP hK
  obtain ⟨rfl, hZ, hh⟩ := hP
  have hx := Bd.exec
  have hby := Bd.bytes
  have hml : c.maxLocals = 18 := hml0
  have hown : s.vm.findClass "com/example/diotima/diotima/kb/FuzzyDatatypeIsCrispPinLaw" = some m.cls := findClass_of_methodNamed Bd.named
  have hnm := (name_of_methodNamed Bd.named Bd.method).1
  have X0 : Stand p l e room_1 s m #[(.int p1), (.int p2), (.int p3), (.int p4)] below meth c s₁ [] 0 0 := Stand.of_body Bd
  have e0 : s₁.heap = h0 := by rw [← hh, Bd.state]; rfl
  have N0 := Fr.nil n0
  have pre0 : ∀ t, Steps p.tables e below (s₁.setTop (mkF m 0 #[.val (.int p1), .val (.int p2), .val (.int p3), .val (.int p4), .unset, .unset, .unset, .unset, .unset, .unset, .unset, .unset, .unset, .unset, .unset, .unset, .unset, .unset] [])) t → Steps p.tables e below (s₁.setTop (entryFrame m #[(.int p1), (.int p2), (.int p3), (.int p4)] maxLocals)) t := fun t k => castTop (ef0 m p1 p2 p3 p4) k
  obtain ⟨va, h_va⟩ : ∃ z : Int32, z = p1 - (p1 / (100000 : Int32)) * (100000 : Int32) := ⟨_, rfl⟩
  obtain ⟨d1, h_d1⟩ : ∃ z : Int32, z = p2 &&& (3 : Int32) := ⟨_, rfl⟩
  obtain ⟨d2, h_d2⟩ : ∃ z : Int32, z = p3 &&& (3 : Int32) := ⟨_, rfl⟩
  obtain ⟨d3, h_d3⟩ : ∃ z : Int32, z = p4 &&& (3 : Int32) := ⟨_, rfl⟩
  have k1 : ∀ t, Steps p.tables e below (s₁.setTop (mkF m 50 #[.val (.int p1), .val (.int p2), .val (.int p3), .val (.int p4), .val (.int va), .val (.int d1), .val (.int d2), .val (.int d3), .val (.double (FP.l2d (va.toInt64))), .second, .val (.double (FP.l2d ((va.toInt64) + (d1.toInt64)))), .second, .val (.double (FP.l2d (((va.toInt64) + (d1.toInt64)) + (d2.toInt64)))), .second, .val (.double (FP.l2d ((((va.toInt64) + (d1.toInt64)) + (d2.toInt64)) + (d3.toInt64)))), .second, .unset, .unset] [])) t → Steps p.tables e below (s₁.setTop (entryFrame m #[(.int p1), (.int p2), (.int p3), (.int p4)] maxLocals)) t := by
    intro t k
    refine pre0 t ?_
    refine o_iloadN X0.here hx (hb hby at_0) rfl ?_
    refine X0.ldcI hx hown (mvT hZ (hw _ (List.mem_of_getElem? (i := 0) rfl))) rfl (hb hby at_1) ?_
    show Steps p.tables e below (s₁.setTop (mkF m 3 #[.val (.int p1), .val (.int p2), .val (.int p3), .val (.int p4), .unset, .unset, .unset, .unset, .unset, .unset, .unset, .unset, .unset, .unset, .unset, .unset, .unset, .unset] [(.int (100000 : Int32)), (.int p1)])) _
    refine o_irem X0.here hx (hb hby at_3) (by decide) ?_
    rw [← h_va]
    refine o_istore X0.here hx (hb hby at_4) (l' := #[.val (.int p1), .val (.int p2), .val (.int p3), .val (.int p4), .val (.int va), .unset, .unset, .unset, .unset, .unset, .unset, .unset, .unset, .unset, .unset, .unset, .unset, .unset]) rfl ?_
    refine o_iloadN X0.here hx (hb hby at_6) rfl ?_
    refine o_iconstV X0.here hx (3 : Int32) (hb hby at_7) rfl ?_
    refine o_iand X0.here hx (hb hby at_8) ?_
    rw [← h_d1]
    refine o_istore X0.here hx (hb hby at_9) (l' := #[.val (.int p1), .val (.int p2), .val (.int p3), .val (.int p4), .val (.int va), .val (.int d1), .unset, .unset, .unset, .unset, .unset, .unset, .unset, .unset, .unset, .unset, .unset, .unset]) rfl ?_
    refine o_iloadN X0.here hx (hb hby at_11) rfl ?_
    refine o_iconstV X0.here hx (3 : Int32) (hb hby at_12) rfl ?_
    refine o_iand X0.here hx (hb hby at_13) ?_
    rw [← h_d2]
    refine o_istore X0.here hx (hb hby at_14) (l' := #[.val (.int p1), .val (.int p2), .val (.int p3), .val (.int p4), .val (.int va), .val (.int d1), .val (.int d2), .unset, .unset, .unset, .unset, .unset, .unset, .unset, .unset, .unset, .unset, .unset]) rfl ?_
    refine o_iloadN X0.here hx (hb hby at_16) rfl ?_
    refine o_iconstV X0.here hx (3 : Int32) (hb hby at_17) rfl ?_
    refine o_iand X0.here hx (hb hby at_18) ?_
    rw [← h_d3]
    refine o_istore X0.here hx (hb hby at_19) (l' := #[.val (.int p1), .val (.int p2), .val (.int p3), .val (.int p4), .val (.int va), .val (.int d1), .val (.int d2), .val (.int d3), .unset, .unset, .unset, .unset, .unset, .unset, .unset, .unset, .unset, .unset]) rfl ?_
    refine o_iload X0.here hx (hb hby at_21) rfl ?_
    refine o_i2dS X0.here hx (hb hby at_23) (v := FP.l2d (va.toInt64)) (i2d_w _) ?_
    refine o_dstore X0.here hx (hb hby at_24) (l' := #[.val (.int p1), .val (.int p2), .val (.int p3), .val (.int p4), .val (.int va), .val (.int d1), .val (.int d2), .val (.int d3), .val (.double (FP.l2d (va.toInt64))), .second, .unset, .unset, .unset, .unset, .unset, .unset, .unset, .unset]) rfl ?_
    refine o_dload X0.here hx (hb hby at_26) rfl ?_
    refine o_iload X0.here hx (hb hby at_28) rfl ?_
    refine o_i2dS X0.here hx (hb hby at_30) (v := FP.l2d (d1.toInt64)) (i2d_w _) ?_
    refine o_daddS X0.here hx (hb hby at_31) (nn_w (dadd_w (own_bd_b53 (own_bd_i va) (by decide)) (own_bd_b53 (own_bd_i d1) (by decide)))) (v := FP.l2d ((va.toInt64) + (d1.toInt64))) (dadd_w (own_bd_b53 (own_bd_i va) (by decide)) (own_bd_b53 (own_bd_i d1) (by decide))) ?_
    refine o_dstore X0.here hx (hb hby at_32) (l' := #[.val (.int p1), .val (.int p2), .val (.int p3), .val (.int p4), .val (.int va), .val (.int d1), .val (.int d2), .val (.int d3), .val (.double (FP.l2d (va.toInt64))), .second, .val (.double (FP.l2d ((va.toInt64) + (d1.toInt64)))), .second, .unset, .unset, .unset, .unset, .unset, .unset]) rfl ?_
    refine o_dload X0.here hx (hb hby at_34) rfl ?_
    refine o_iload X0.here hx (hb hby at_36) rfl ?_
    refine o_i2dS X0.here hx (hb hby at_38) (v := FP.l2d (d2.toInt64)) (i2d_w _) ?_
    refine o_daddS X0.here hx (hb hby at_39) (nn_w (dadd_w (own_bd_b53 (own_bd_add (own_bd_i va) (own_bd_i d1) (by decide)) (by decide)) (own_bd_b53 (own_bd_i d2) (by decide)))) (v := FP.l2d (((va.toInt64) + (d1.toInt64)) + (d2.toInt64))) (dadd_w (own_bd_b53 (own_bd_add (own_bd_i va) (own_bd_i d1) (by decide)) (by decide)) (own_bd_b53 (own_bd_i d2) (by decide))) ?_
    refine o_dstore X0.here hx (hb hby at_40) (l' := #[.val (.int p1), .val (.int p2), .val (.int p3), .val (.int p4), .val (.int va), .val (.int d1), .val (.int d2), .val (.int d3), .val (.double (FP.l2d (va.toInt64))), .second, .val (.double (FP.l2d ((va.toInt64) + (d1.toInt64)))), .second, .val (.double (FP.l2d (((va.toInt64) + (d1.toInt64)) + (d2.toInt64)))), .second, .unset, .unset, .unset, .unset]) rfl ?_
    refine o_dload X0.here hx (hb hby at_42) rfl ?_
    refine o_iload X0.here hx (hb hby at_44) rfl ?_
    refine o_i2dS X0.here hx (hb hby at_46) (v := FP.l2d (d3.toInt64)) (i2d_w _) ?_
    refine o_daddS X0.here hx (hb hby at_47) (nn_w (dadd_w (own_bd_b53 (own_bd_add (own_bd_add (own_bd_i va) (own_bd_i d1) (by decide)) (own_bd_i d2) (by decide)) (by decide)) (own_bd_b53 (own_bd_i d3) (by decide)))) (v := FP.l2d ((((va.toInt64) + (d1.toInt64)) + (d2.toInt64)) + (d3.toInt64))) (dadd_w (own_bd_b53 (own_bd_add (own_bd_add (own_bd_i va) (own_bd_i d1) (by decide)) (own_bd_i d2) (by decide)) (by decide)) (own_bd_b53 (own_bd_i d3) (by decide))) ?_
    refine o_dstore X0.here hx (hb hby at_48) (l' := #[.val (.int p1), .val (.int p2), .val (.int p3), .val (.int p4), .val (.int va), .val (.int d1), .val (.int d2), .val (.int d3), .val (.double (FP.l2d (va.toInt64))), .second, .val (.double (FP.l2d ((va.toInt64) + (d1.toInt64)))), .second, .val (.double (FP.l2d (((va.toInt64) + (d1.toInt64)) + (d2.toInt64)))), .second, .val (.double (FP.l2d ((((va.toInt64) + (d1.toInt64)) + (d2.toInt64)) + (d3.toInt64)))), .second, .unset, .unset]) rfl ?_
    exact k
  obtain ⟨T2, h2, X2, e2, E2, A2, D2, -, st2⟩ := newO X0 hx hZ hown (hw _ (List.mem_of_getElem? (i := 1) rfl)) (hw _ (List.mem_of_getElem? (i := 2) rfl)) (hw _ (List.mem_of_getElem? (i := 3) rfl)) e0 (g := (mkF m 50 #[.val (.int p1), .val (.int p2), .val (.int p3), .val (.int p4), .val (.int va), .val (.int d1), .val (.int d2), .val (.int d3), .val (.double (FP.l2d (va.toInt64))), .second, .val (.double (FP.l2d ((va.toInt64) + (d1.toInt64)))), .second, .val (.double (FP.l2d (((va.toInt64) + (d1.toInt64)) + (d2.toInt64)))), .second, .val (.double (FP.l2d ((((va.toInt64) + (d1.toInt64)) + (d2.toInt64)) + (d3.toInt64)))), .second, .unset, .unset] [])) rfl (hb hby at_50) (by decide) (by decide)
  obtain ⟨a2, g2⟩ : ∃ z, z = h0.size := ⟨_, rfl⟩
  rw [← g2] at A2 D2 st2
  have Z2 : n0 ≤ h2.size := (Nat.le_trans Z0 E2.1)
  have G2 : n0 ≤ a2 := (Nat.le_trans Z0 (Nat.le_of_eq g2.symm))
  have F3 : Fld Z h2 a2 "com/example/diotima/diotima/kb/FuzzyDatatype" "riseStart" "D" (.double (0 : UInt64)) := (D2 (Or.inr (hw _ (List.mem_of_getElem? (i := 16) rfl))) (ty := .double) (by decide))
  have F4 : Fld Z h2 a2 "com/example/diotima/diotima/kb/FuzzyDatatype" "riseEnd" "D" (.double (0 : UInt64)) := (D2 (Or.inr (hw _ (List.mem_of_getElem? (i := 18) rfl))) (ty := .double) (by decide))
  have F5 : Fld Z h2 a2 "com/example/diotima/diotima/kb/FuzzyDatatype" "fallStart" "D" (.double (0 : UInt64)) := (D2 (Or.inr (hw _ (List.mem_of_getElem? (i := 20) rfl))) (ty := .double) (by decide))
  have F6 : Fld Z h2 a2 "com/example/diotima/diotima/kb/FuzzyDatatype" "fallEnd" "D" (.double (0 : UInt64)) := (D2 (Or.inr (hw _ (List.mem_of_getElem? (i := 22) rfl))) (ty := .double) (by decide))
  have k7 : ∀ t, Steps p.tables e below (T2.setTop (mkF m 53 #[.val (.int p1), .val (.int p2), .val (.int p3), .val (.int p4), .val (.int va), .val (.int d1), .val (.int d2), .val (.int d3), .val (.double (FP.l2d (va.toInt64))), .second, .val (.double (FP.l2d ((va.toInt64) + (d1.toInt64)))), .second, .val (.double (FP.l2d (((va.toInt64) + (d1.toInt64)) + (d2.toInt64)))), .second, .val (.double (FP.l2d ((((va.toInt64) + (d1.toInt64)) + (d2.toInt64)) + (d3.toInt64)))), .second, .unset, .unset] [(.ref a2)])) t → Steps p.tables e below (s₁.setTop (entryFrame m #[(.int p1), (.int p2), (.int p3), (.int p4)] maxLocals)) t := fun t k => k1 t (st2 _ k)
  have k8 : ∀ t, Steps p.tables e below (T2.setTop (mkF m 62 #[.val (.int p1), .val (.int p2), .val (.int p3), .val (.int p4), .val (.int va), .val (.int d1), .val (.int d2), .val (.int d3), .val (.double (FP.l2d (va.toInt64))), .second, .val (.double (FP.l2d ((va.toInt64) + (d1.toInt64)))), .second, .val (.double (FP.l2d (((va.toInt64) + (d1.toInt64)) + (d2.toInt64)))), .second, .val (.double (FP.l2d ((((va.toInt64) + (d1.toInt64)) + (d2.toInt64)) + (d3.toInt64)))), .second, .unset, .unset] [(.double (FP.l2d ((((va.toInt64) + (d1.toInt64)) + (d2.toInt64)) + (d3.toInt64)))), (.double (FP.l2d (((va.toInt64) + (d1.toInt64)) + (d2.toInt64)))), (.double (FP.l2d ((va.toInt64) + (d1.toInt64)))), (.double (FP.l2d (va.toInt64))), (.ref a2), (.ref a2)])) t → Steps p.tables e below (s₁.setTop (entryFrame m #[(.int p1), (.int p2), (.int p3), (.int p4)] maxLocals)) t := by
    intro t k
    refine k7 t ?_
    refine o_dup X2.here hx (hb hby at_53) rfl ?_
    refine o_dload X2.here hx (hb hby at_54) rfl ?_
    refine o_dload X2.here hx (hb hby at_56) rfl ?_
    refine o_dload X2.here hx (hb hby at_58) rfl ?_
    refine o_dload X2.here hx (hb hby at_60) rfl ?_
    exact k
  obtain ⟨_, _, ⟨T9, L9, c9, n9⟩, -, X9, ⟨Lc9, hQ9, l9, y9, z9⟩, st9⟩ := X2.specialBack hx (y := (⟨"com/example/diotima/diotima/kb/FuzzyDatatype", "<init>", "(DDDD)V"⟩ : MethodName)) rfl hown (mvT hZ (hw _ (List.mem_of_getElem? (i := 4) rfl))) (mvT hZ (hw _ (List.mem_of_getElem? (i := 5) rfl))) (mvT hZ (hw _ (List.mem_of_getElem? (i := 6) rfl))) (by decide) (backOf (W := 1) (rmC l Z a0 hw [] a2 (va.toInt64) ((va.toInt64) + (d1.toInt64)) (((va.toInt64) + (d1.toInt64)) + (d2.toInt64)) ((((va.toInt64) + (d1.toInt64)) + (d2.toInt64)) + (d3.toInt64)) h2 n0 Z2 A2 G2 F3 F4 F5 F6 (own_wide (own_bd_i va) (by decide)) (own_wide (own_bd_add (own_bd_i va) (own_bd_i d1) (by decide)) (by decide)) (own_wide (own_bd_add (own_bd_add (own_bd_i va) (own_bd_i d1) (by decide)) (own_bd_i d2) (by decide)) (by decide)) (own_wide (own_bd_add (own_bd_add (own_bd_add (own_bd_i va) (own_bd_i d1) (by decide)) (own_bd_i d2) (by decide)) (own_bd_i d3) (by decide)) (by decide)) (own_up (own_bd_i va) (by rw [h_d1]; exact (own_and3 p2).1) (by rw [h_d1]; exact (own_and3 p2).2) (by decide)) (own_up (own_bd_add (own_bd_i va) (own_bd_i d1) (by decide)) (by rw [h_d2]; exact (own_and3 p3).1) (by rw [h_d2]; exact (own_and3 p3).2) (by decide)) (own_up (own_bd_add (own_bd_add (own_bd_i va) (own_bd_i d1) (by decide)) (own_bd_i d2) (by decide)) (by rw [h_d3]; exact (own_and3 p4).1) (by rw [h_d3]; exact (own_and3 p4).2) (by decide))) hZ (hw _ (List.mem_of_getElem? (i := 6) rfl)) (hw _ (List.mem_of_getElem? (i := 3) rfl)) (by decide) (by decide)) (g := (mkF m 62 #[.val (.int p1), .val (.int p2), .val (.int p3), .val (.int p4), .val (.int va), .val (.int d1), .val (.int d2), .val (.int d3), .val (.double (FP.l2d (va.toInt64))), .second, .val (.double (FP.l2d ((va.toInt64) + (d1.toInt64)))), .second, .val (.double (FP.l2d (((va.toInt64) + (d1.toInt64)) + (d2.toInt64)))), .second, .val (.double (FP.l2d ((((va.toInt64) + (d1.toInt64)) + (d2.toInt64)) + (d3.toInt64)))), .second, .unset, .unset] [(.double (FP.l2d ((((va.toInt64) + (d1.toInt64)) + (d2.toInt64)) + (d3.toInt64)))), (.double (FP.l2d (((va.toInt64) + (d1.toInt64)) + (d2.toInt64)))), (.double (FP.l2d ((va.toInt64) + (d1.toInt64)))), (.double (FP.l2d (va.toInt64))), (.ref a2), (.ref a2)])) rfl (by rw [hml]; rfl) (Steps.refl _) (a := a2) (argsL := [(.double (FP.l2d (va.toInt64))), (.double (FP.l2d ((va.toInt64) + (d1.toInt64)))), (.double (FP.l2d (((va.toInt64) + (d1.toInt64)) + (d2.toInt64)))), (.double (FP.l2d ((((va.toInt64) + (d1.toInt64)) + (d2.toInt64)) + (d3.toInt64))))]) (rest := [(.ref a2)]) (lenOf pd_oDDDDcV rfl) rfl (by show 2 * 0 + _ ≤ _; exact Nat.le_of_eq rfl) (hb hby at_62) (fun _ _ => ⟨rfl, e2, (by decide : 1 + 0 ≤ _), (by decide : 4 + 0 ≤ _)⟩)
  dsimp only [Pt.U, Pt.locs, Pt.cells, Pt.slots] at X9 l9 y9 z9 st9 hQ9
  subst l9 y9 z9
  obtain ⟨rfl, N9a, K9, Q9_0, Q9_1, Q9_2, Q9_3, Q9_4⟩ := hQ9
  have N9 := Fr.app N0 N9a
  have e9 : T9.heap = T9.heap := rfl
  have Z9 : n0 ≤ T9.heap.size := (Nat.le_trans Z2 K9.1)
  have E10 : Exa Z T9.heap a2 "com/example/diotima/diotima/kb/FuzzyDatatype" := (A2.keep K9)
  have k11 : ∀ t, Steps p.tables e below (T9.setTop (mkF m 65 #[.val (.int p1), .val (.int p2), .val (.int p3), .val (.int p4), .val (.int va), .val (.int d1), .val (.int d2), .val (.int d3), .val (.double (FP.l2d (va.toInt64))), .second, .val (.double (FP.l2d ((va.toInt64) + (d1.toInt64)))), .second, .val (.double (FP.l2d (((va.toInt64) + (d1.toInt64)) + (d2.toInt64)))), .second, .val (.double (FP.l2d ((((va.toInt64) + (d1.toInt64)) + (d2.toInt64)) + (d3.toInt64)))), .second, .unset, .unset] [(.ref a2)])) t → Steps p.tables e below (s₁.setTop (entryFrame m #[(.int p1), (.int p2), (.int p3), (.int p4)] maxLocals)) t := fun t k => k8 t (st9.trans k)
  have k12 : ∀ t, Steps p.tables e below (T9.setTop (mkF m 69 #[.val (.int p1), .val (.int p2), .val (.int p3), .val (.int p4), .val (.int va), .val (.int d1), .val (.int d2), .val (.int d3), .val (.double (FP.l2d (va.toInt64))), .second, .val (.double (FP.l2d ((va.toInt64) + (d1.toInt64)))), .second, .val (.double (FP.l2d (((va.toInt64) + (d1.toInt64)) + (d2.toInt64)))), .second, .val (.double (FP.l2d ((((va.toInt64) + (d1.toInt64)) + (d2.toInt64)) + (d3.toInt64)))), .second, .val (.ref a2), .unset] [(.int d1)])) t → Steps p.tables e below (s₁.setTop (entryFrame m #[(.int p1), (.int p2), (.int p3), (.int p4)] maxLocals)) t := by
    intro t k
    refine k11 t ?_
    refine o_astore X9.here hx (hb hby at_65) rfl (l' := #[.val (.int p1), .val (.int p2), .val (.int p3), .val (.int p4), .val (.int va), .val (.int d1), .val (.int d2), .val (.int d3), .val (.double (FP.l2d (va.toInt64))), .second, .val (.double (FP.l2d ((va.toInt64) + (d1.toInt64)))), .second, .val (.double (FP.l2d (((va.toInt64) + (d1.toInt64)) + (d2.toInt64)))), .second, .val (.double (FP.l2d ((((va.toInt64) + (d1.toInt64)) + (d2.toInt64)) + (d3.toInt64)))), .second, .val (.ref a2), .unset]) rfl ?_
    refine o_iload X9.here hx (hb hby at_67) rfl ?_
    exact k
  by_cases h69_13 : d1 = 0
  · -- pc 69 not taken
    have k14 : ∀ t, Steps p.tables e below (T9.setTop (mkF m 74 #[.val (.int p1), .val (.int p2), .val (.int p3), .val (.int p4), .val (.int va), .val (.int d1), .val (.int d2), .val (.int d3), .val (.double (FP.l2d (va.toInt64))), .second, .val (.double (FP.l2d ((va.toInt64) + (d1.toInt64)))), .second, .val (.double (FP.l2d (((va.toInt64) + (d1.toInt64)) + (d2.toInt64)))), .second, .val (.double (FP.l2d ((((va.toInt64) + (d1.toInt64)) + (d2.toInt64)) + (d3.toInt64)))), .second, .val (.ref a2), .unset] [(.int d3)])) t → Steps p.tables e below (s₁.setTop (entryFrame m #[(.int p1), (.int p2), (.int p3), (.int p4)] maxLocals)) t := by
      intro t k
      refine k12 t ?_
      refine o_ifNo X9.here hx (hb hby at_69) (XT.i0_ne_f h69_13) ?_
      refine o_iload X9.here hx (hb hby at_72) rfl ?_
      exact k
    by_cases h74_15 : d3 = 0
    · -- pc 74 not taken
      have k16 : ∀ t, Steps p.tables e below (T9.setTop (mkF m 86 #[.val (.int p1), .val (.int p2), .val (.int p3), .val (.int p4), .val (.int va), .val (.int d1), .val (.int d2), .val (.int d3), .val (.double (FP.l2d (va.toInt64))), .second, .val (.double (FP.l2d ((va.toInt64) + (d1.toInt64)))), .second, .val (.double (FP.l2d (((va.toInt64) + (d1.toInt64)) + (d2.toInt64)))), .second, .val (.double (FP.l2d ((((va.toInt64) + (d1.toInt64)) + (d2.toInt64)) + (d3.toInt64)))), .second, .val (.ref a2), .val (.int (1 : Int32))] [(.ref a2)])) t → Steps p.tables e below (s₁.setTop (entryFrame m #[(.int p1), (.int p2), (.int p3), (.int p4)] maxLocals)) t := by
        intro t k
        refine k14 t ?_
        refine o_ifNo X9.here hx (hb hby at_74) (XT.i0_ne_f h74_15) ?_
        refine o_iconstV X9.here hx (1 : Int32) (hb hby at_77) rfl ?_
        show Steps p.tables e below (T9.setTop (mkF m 78 #[.val (.int p1), .val (.int p2), .val (.int p3), .val (.int p4), .val (.int va), .val (.int d1), .val (.int d2), .val (.int d3), .val (.double (FP.l2d (va.toInt64))), .second, .val (.double (FP.l2d ((va.toInt64) + (d1.toInt64)))), .second, .val (.double (FP.l2d (((va.toInt64) + (d1.toInt64)) + (d2.toInt64)))), .second, .val (.double (FP.l2d ((((va.toInt64) + (d1.toInt64)) + (d2.toInt64)) + (d3.toInt64)))), .second, .val (.ref a2), .unset] [(.int (1 : Int32))])) _
        refine o_goto X9.here hx (pc' := 82) (hb hby at_78) (by decide) (by decide) ?_
        refine o_istore X9.here hx (hb hby at_82) (l' := #[.val (.int p1), .val (.int p2), .val (.int p3), .val (.int p4), .val (.int va), .val (.int d1), .val (.int d2), .val (.int d3), .val (.double (FP.l2d (va.toInt64))), .second, .val (.double (FP.l2d ((va.toInt64) + (d1.toInt64)))), .second, .val (.double (FP.l2d (((va.toInt64) + (d1.toInt64)) + (d2.toInt64)))), .second, .val (.double (FP.l2d ((((va.toInt64) + (d1.toInt64)) + (d2.toInt64)) + (d3.toInt64)))), .second, .val (.ref a2), .val (.int (1 : Int32))]) rfl ?_
        refine o_aload X9.here hx (hb hby at_84) rfl rfl ?_
        exact k
      obtain ⟨cq17, kq17, q17a, q17b, q17c⟩ := isOf hZ e9 Q9_0
      obtain ⟨_, _, ⟨T17, L17, c17, n17⟩, -, X17, ⟨Lc17, hQ17, l17, y17, z17⟩, st17⟩ := X9.virtualBack hx (y := (⟨"com/example/diotima/diotima/kb/FuzzyDatatype", "isCrisp", "()Z"⟩ : MethodName)) (z := (⟨"com/example/diotima/diotima/kb/FuzzyDatatype", "isCrisp", "()Z"⟩ : MethodName)) hown (mvT hZ (hw _ (List.mem_of_getElem? (i := 23) rfl))) (mvT hZ (hw _ (List.mem_of_getElem? (i := 24) rfl))) (notFace_of_selects (args := #[]) (mvT hZ (hw _ (List.mem_of_getElem? (i := 26) rfl)))) (mvT hZ (hw _ (List.mem_of_getElem? (i := 26) rfl))) (mvT hZ (hw _ (List.mem_of_getElem? (i := 25) rfl))) (by decide) (backOf (W := 0) (rmI l Z a0 hw [] a2 (va.toInt64) ((va.toInt64) + (d1.toInt64)) (((va.toInt64) + (d1.toInt64)) + (d2.toInt64)) ((((va.toInt64) + (d1.toInt64)) + (d2.toInt64)) + (d3.toInt64)) T9.heap n0 Z9 Q9_1 Q9_2 Q9_3 Q9_4 (own_wide (own_bd_i va) (by decide)) (own_wide (own_bd_add (own_bd_i va) (own_bd_i d1) (by decide)) (by decide)) (own_wide (own_bd_add (own_bd_add (own_bd_i va) (own_bd_i d1) (by decide)) (own_bd_i d2) (by decide)) (by decide)) (own_wide (own_bd_add (own_bd_add (own_bd_add (own_bd_i va) (own_bd_i d1) (by decide)) (own_bd_i d2) (by decide)) (own_bd_i d3) (by decide)) (by decide))) hZ (hw _ (List.mem_of_getElem? (i := 27) rfl)) (hw _ (List.mem_of_getElem? (i := 3) rfl)) (by decide) (by decide)) q17a q17c (g := (mkF m 86 #[.val (.int p1), .val (.int p2), .val (.int p3), .val (.int p4), .val (.int va), .val (.int d1), .val (.int d2), .val (.int d3), .val (.double (FP.l2d (va.toInt64))), .second, .val (.double (FP.l2d ((va.toInt64) + (d1.toInt64)))), .second, .val (.double (FP.l2d (((va.toInt64) + (d1.toInt64)) + (d2.toInt64)))), .second, .val (.double (FP.l2d ((((va.toInt64) + (d1.toInt64)) + (d2.toInt64)) + (d3.toInt64)))), .second, .val (.ref a2), .val (.int (1 : Int32))] [(.ref a2)])) rfl (by rw [hml]; rfl) (Steps.refl _) (argsL := []) (rest := []) (lenOf pd_ocZ rfl) rfl (by show 2 * 0 + _ ≤ _; exact Nat.le_of_eq rfl) (hb hby at_86) (fun _ _ => ⟨rfl, e9, (by decide : 1 + 0 ≤ _), (by decide : 4 + 0 ≤ _)⟩)
      dsimp only [Pt.U, Pt.locs, Pt.cells, Pt.slots] at X17 l17 y17 z17 st17 hQ17
      subst l17 y17 z17
      obtain ⟨rfl, N17a, eh17⟩ := hQ17
      have N17 := Fr.app N9 N17a
      have e17 : T17.heap = T9.heap := eh17
      have k18 : ∀ t, Steps p.tables e below (T17.setTop (mkF m 89 #[.val (.int p1), .val (.int p2), .val (.int p3), .val (.int p4), .val (.int va), .val (.int d1), .val (.int d2), .val (.int d3), .val (.double (FP.l2d (va.toInt64))), .second, .val (.double (FP.l2d ((va.toInt64) + (d1.toInt64)))), .second, .val (.double (FP.l2d (((va.toInt64) + (d1.toInt64)) + (d2.toInt64)))), .second, .val (.double (FP.l2d ((((va.toInt64) + (d1.toInt64)) + (d2.toInt64)) + (d3.toInt64)))), .second, .val (.ref a2), .val (.int (1 : Int32))] [(.int (if (va.toInt64) = ((va.toInt64) + (d1.toInt64)) ∧ (((va.toInt64) + (d1.toInt64)) + (d2.toInt64)) = ((((va.toInt64) + (d1.toInt64)) + (d2.toInt64)) + (d3.toInt64)) then (1 : Int32) else 0))])) t → Steps p.tables e below (s₁.setTop (entryFrame m #[(.int p1), (.int p2), (.int p3), (.int p4)] maxLocals)) t := fun t k => k16 t (st17.trans k)
      have k19 : ∀ t, Steps p.tables e below (T17.setTop (mkF m 99 #[.val (.int p1), .val (.int p2), .val (.int p3), .val (.int p4), .val (.int va), .val (.int d1), .val (.int d2), .val (.int d3), .val (.double (FP.l2d (va.toInt64))), .second, .val (.double (FP.l2d ((va.toInt64) + (d1.toInt64)))), .second, .val (.double (FP.l2d (((va.toInt64) + (d1.toInt64)) + (d2.toInt64)))), .second, .val (.double (FP.l2d ((((va.toInt64) + (d1.toInt64)) + (d2.toInt64)) + (d3.toInt64)))), .second, .val (.ref a2), .val (.int (1 : Int32))] [(.int (1 : Int32))])) t → Steps p.tables e below (s₁.setTop (entryFrame m #[(.int p1), (.int p2), (.int p3), (.int p4)] maxLocals)) t := by
        intro t k
        refine k18 t ?_
        refine o_iload X17.here hx (hb hby at_89) rfl ?_
        show Steps p.tables e below (T17.setTop (mkF m 91 #[.val (.int p1), .val (.int p2), .val (.int p3), .val (.int p4), .val (.int va), .val (.int d1), .val (.int d2), .val (.int d3), .val (.double (FP.l2d (va.toInt64))), .second, .val (.double (FP.l2d ((va.toInt64) + (d1.toInt64)))), .second, .val (.double (FP.l2d (((va.toInt64) + (d1.toInt64)) + (d2.toInt64)))), .second, .val (.double (FP.l2d ((((va.toInt64) + (d1.toInt64)) + (d2.toInt64)) + (d3.toInt64)))), .second, .val (.ref a2), .val (.int (1 : Int32))] [(.int (1 : Int32)), (.int (if (va.toInt64) = ((va.toInt64) + (d1.toInt64)) ∧ (((va.toInt64) + (d1.toInt64)) + (d2.toInt64)) = ((((va.toInt64) + (d1.toInt64)) + (d2.toInt64)) + (d3.toInt64)) then (1 : Int32) else 0))])) _
        refine o_icmpNo X17.here hx (hb hby at_91) (XT.ii_ne_f (by rw [own_crisp]; simp [h69_13, h74_15])) ?_
        refine o_iconstV X17.here hx (1 : Int32) (hb hby at_94) rfl ?_
        show Steps p.tables e below (T17.setTop (mkF m 95 #[.val (.int p1), .val (.int p2), .val (.int p3), .val (.int p4), .val (.int va), .val (.int d1), .val (.int d2), .val (.int d3), .val (.double (FP.l2d (va.toInt64))), .second, .val (.double (FP.l2d ((va.toInt64) + (d1.toInt64)))), .second, .val (.double (FP.l2d (((va.toInt64) + (d1.toInt64)) + (d2.toInt64)))), .second, .val (.double (FP.l2d ((((va.toInt64) + (d1.toInt64)) + (d2.toInt64)) + (d3.toInt64)))), .second, .val (.ref a2), .val (.int (1 : Int32))] [(.int (1 : Int32))])) _
        refine o_goto X17.here hx (pc' := 99) (hb hby at_95) (by decide) (by decide) ?_
        exact k
      obtain ⟨fs, hr, hrun, hended, hW, hsame⟩ := X17.leave (v := some (.int (1 : Int32))) (fun h => by rw [Bd.returns] at h; cases h)
      refine ⟨_, _, k19 _ ?_, hrun, hended, _, _, rfl, ?_, ⟨_, rfl⟩, hW, hsame.mono (by decide) (by decide)⟩
      · exact retN X17 hx (t := .boolean) Bd.returns (by simp) (hb hby at_99) hr
      · show Q0 Z p1 p2 p3 p4 h0 n0 _ T17.heap _
        rw [e17]
        exact ⟨rfl, N17⟩
    · -- pc 74 taken
      have k20 : ∀ t, Steps p.tables e below (T9.setTop (mkF m 86 #[.val (.int p1), .val (.int p2), .val (.int p3), .val (.int p4), .val (.int va), .val (.int d1), .val (.int d2), .val (.int d3), .val (.double (FP.l2d (va.toInt64))), .second, .val (.double (FP.l2d ((va.toInt64) + (d1.toInt64)))), .second, .val (.double (FP.l2d (((va.toInt64) + (d1.toInt64)) + (d2.toInt64)))), .second, .val (.double (FP.l2d ((((va.toInt64) + (d1.toInt64)) + (d2.toInt64)) + (d3.toInt64)))), .second, .val (.ref a2), .val (.int (0 : Int32))] [(.ref a2)])) t → Steps p.tables e below (s₁.setTop (entryFrame m #[(.int p1), (.int p2), (.int p3), (.int p4)] maxLocals)) t := by
        intro t k
        refine k14 t ?_
        refine o_ifYes X9.here hx (pc' := 81) (hb hby at_74) (XT.i0_ne_t h74_15) (by decide) (by decide) ?_
        refine o_iconstV X9.here hx (0 : Int32) (hb hby at_81) rfl ?_
        refine o_istore X9.here hx (hb hby at_82) (l' := #[.val (.int p1), .val (.int p2), .val (.int p3), .val (.int p4), .val (.int va), .val (.int d1), .val (.int d2), .val (.int d3), .val (.double (FP.l2d (va.toInt64))), .second, .val (.double (FP.l2d ((va.toInt64) + (d1.toInt64)))), .second, .val (.double (FP.l2d (((va.toInt64) + (d1.toInt64)) + (d2.toInt64)))), .second, .val (.double (FP.l2d ((((va.toInt64) + (d1.toInt64)) + (d2.toInt64)) + (d3.toInt64)))), .second, .val (.ref a2), .val (.int (0 : Int32))]) rfl ?_
        refine o_aload X9.here hx (hb hby at_84) rfl rfl ?_
        exact k
      obtain ⟨cq21, kq21, q21a, q21b, q21c⟩ := isOf hZ e9 Q9_0
      obtain ⟨_, _, ⟨T21, L21, c21, n21⟩, -, X21, ⟨Lc21, hQ21, l21, y21, z21⟩, st21⟩ := X9.virtualBack hx (y := (⟨"com/example/diotima/diotima/kb/FuzzyDatatype", "isCrisp", "()Z"⟩ : MethodName)) (z := (⟨"com/example/diotima/diotima/kb/FuzzyDatatype", "isCrisp", "()Z"⟩ : MethodName)) hown (mvT hZ (hw _ (List.mem_of_getElem? (i := 23) rfl))) (mvT hZ (hw _ (List.mem_of_getElem? (i := 24) rfl))) (notFace_of_selects (args := #[]) (mvT hZ (hw _ (List.mem_of_getElem? (i := 26) rfl)))) (mvT hZ (hw _ (List.mem_of_getElem? (i := 26) rfl))) (mvT hZ (hw _ (List.mem_of_getElem? (i := 25) rfl))) (by decide) (backOf (W := 0) (rmI l Z a0 hw [] a2 (va.toInt64) ((va.toInt64) + (d1.toInt64)) (((va.toInt64) + (d1.toInt64)) + (d2.toInt64)) ((((va.toInt64) + (d1.toInt64)) + (d2.toInt64)) + (d3.toInt64)) T9.heap n0 Z9 Q9_1 Q9_2 Q9_3 Q9_4 (own_wide (own_bd_i va) (by decide)) (own_wide (own_bd_add (own_bd_i va) (own_bd_i d1) (by decide)) (by decide)) (own_wide (own_bd_add (own_bd_add (own_bd_i va) (own_bd_i d1) (by decide)) (own_bd_i d2) (by decide)) (by decide)) (own_wide (own_bd_add (own_bd_add (own_bd_add (own_bd_i va) (own_bd_i d1) (by decide)) (own_bd_i d2) (by decide)) (own_bd_i d3) (by decide)) (by decide))) hZ (hw _ (List.mem_of_getElem? (i := 27) rfl)) (hw _ (List.mem_of_getElem? (i := 3) rfl)) (by decide) (by decide)) q21a q21c (g := (mkF m 86 #[.val (.int p1), .val (.int p2), .val (.int p3), .val (.int p4), .val (.int va), .val (.int d1), .val (.int d2), .val (.int d3), .val (.double (FP.l2d (va.toInt64))), .second, .val (.double (FP.l2d ((va.toInt64) + (d1.toInt64)))), .second, .val (.double (FP.l2d (((va.toInt64) + (d1.toInt64)) + (d2.toInt64)))), .second, .val (.double (FP.l2d ((((va.toInt64) + (d1.toInt64)) + (d2.toInt64)) + (d3.toInt64)))), .second, .val (.ref a2), .val (.int (0 : Int32))] [(.ref a2)])) rfl (by rw [hml]; rfl) (Steps.refl _) (argsL := []) (rest := []) (lenOf pd_ocZ rfl) rfl (by show 2 * 0 + _ ≤ _; exact Nat.le_of_eq rfl) (hb hby at_86) (fun _ _ => ⟨rfl, e9, (by decide : 1 + 0 ≤ _), (by decide : 4 + 0 ≤ _)⟩)
      dsimp only [Pt.U, Pt.locs, Pt.cells, Pt.slots] at X21 l21 y21 z21 st21 hQ21
      subst l21 y21 z21
      obtain ⟨rfl, N21a, eh21⟩ := hQ21
      have N21 := Fr.app N9 N21a
      have e21 : T21.heap = T9.heap := eh21
      have k22 : ∀ t, Steps p.tables e below (T21.setTop (mkF m 89 #[.val (.int p1), .val (.int p2), .val (.int p3), .val (.int p4), .val (.int va), .val (.int d1), .val (.int d2), .val (.int d3), .val (.double (FP.l2d (va.toInt64))), .second, .val (.double (FP.l2d ((va.toInt64) + (d1.toInt64)))), .second, .val (.double (FP.l2d (((va.toInt64) + (d1.toInt64)) + (d2.toInt64)))), .second, .val (.double (FP.l2d ((((va.toInt64) + (d1.toInt64)) + (d2.toInt64)) + (d3.toInt64)))), .second, .val (.ref a2), .val (.int (0 : Int32))] [(.int (if (va.toInt64) = ((va.toInt64) + (d1.toInt64)) ∧ (((va.toInt64) + (d1.toInt64)) + (d2.toInt64)) = ((((va.toInt64) + (d1.toInt64)) + (d2.toInt64)) + (d3.toInt64)) then (1 : Int32) else 0))])) t → Steps p.tables e below (s₁.setTop (entryFrame m #[(.int p1), (.int p2), (.int p3), (.int p4)] maxLocals)) t := fun t k => k20 t (st21.trans k)
      have k23 : ∀ t, Steps p.tables e below (T21.setTop (mkF m 99 #[.val (.int p1), .val (.int p2), .val (.int p3), .val (.int p4), .val (.int va), .val (.int d1), .val (.int d2), .val (.int d3), .val (.double (FP.l2d (va.toInt64))), .second, .val (.double (FP.l2d ((va.toInt64) + (d1.toInt64)))), .second, .val (.double (FP.l2d (((va.toInt64) + (d1.toInt64)) + (d2.toInt64)))), .second, .val (.double (FP.l2d ((((va.toInt64) + (d1.toInt64)) + (d2.toInt64)) + (d3.toInt64)))), .second, .val (.ref a2), .val (.int (0 : Int32))] [(.int (1 : Int32))])) t → Steps p.tables e below (s₁.setTop (entryFrame m #[(.int p1), (.int p2), (.int p3), (.int p4)] maxLocals)) t := by
        intro t k
        refine k22 t ?_
        refine o_iload X21.here hx (hb hby at_89) rfl ?_
        show Steps p.tables e below (T21.setTop (mkF m 91 #[.val (.int p1), .val (.int p2), .val (.int p3), .val (.int p4), .val (.int va), .val (.int d1), .val (.int d2), .val (.int d3), .val (.double (FP.l2d (va.toInt64))), .second, .val (.double (FP.l2d ((va.toInt64) + (d1.toInt64)))), .second, .val (.double (FP.l2d (((va.toInt64) + (d1.toInt64)) + (d2.toInt64)))), .second, .val (.double (FP.l2d ((((va.toInt64) + (d1.toInt64)) + (d2.toInt64)) + (d3.toInt64)))), .second, .val (.ref a2), .val (.int (0 : Int32))] [(.int (0 : Int32)), (.int (if (va.toInt64) = ((va.toInt64) + (d1.toInt64)) ∧ (((va.toInt64) + (d1.toInt64)) + (d2.toInt64)) = ((((va.toInt64) + (d1.toInt64)) + (d2.toInt64)) + (d3.toInt64)) then (1 : Int32) else 0))])) _
        refine o_icmpNo X21.here hx (hb hby at_91) (XT.ii_ne_f (by rw [own_crisp]; simp [h69_13, h74_15])) ?_
        refine o_iconstV X21.here hx (1 : Int32) (hb hby at_94) rfl ?_
        show Steps p.tables e below (T21.setTop (mkF m 95 #[.val (.int p1), .val (.int p2), .val (.int p3), .val (.int p4), .val (.int va), .val (.int d1), .val (.int d2), .val (.int d3), .val (.double (FP.l2d (va.toInt64))), .second, .val (.double (FP.l2d ((va.toInt64) + (d1.toInt64)))), .second, .val (.double (FP.l2d (((va.toInt64) + (d1.toInt64)) + (d2.toInt64)))), .second, .val (.double (FP.l2d ((((va.toInt64) + (d1.toInt64)) + (d2.toInt64)) + (d3.toInt64)))), .second, .val (.ref a2), .val (.int (0 : Int32))] [(.int (1 : Int32))])) _
        refine o_goto X21.here hx (pc' := 99) (hb hby at_95) (by decide) (by decide) ?_
        exact k
      obtain ⟨fs, hr, hrun, hended, hW, hsame⟩ := X21.leave (v := some (.int (1 : Int32))) (fun h => by rw [Bd.returns] at h; cases h)
      refine ⟨_, _, k23 _ ?_, hrun, hended, _, _, rfl, ?_, ⟨_, rfl⟩, hW, hsame.mono (by decide) (by decide)⟩
      · exact retN X21 hx (t := .boolean) Bd.returns (by simp) (hb hby at_99) hr
      · show Q0 Z p1 p2 p3 p4 h0 n0 _ T21.heap _
        rw [e21]
        exact ⟨rfl, N21⟩
  · -- pc 69 taken
    have k24 : ∀ t, Steps p.tables e below (T9.setTop (mkF m 86 #[.val (.int p1), .val (.int p2), .val (.int p3), .val (.int p4), .val (.int va), .val (.int d1), .val (.int d2), .val (.int d3), .val (.double (FP.l2d (va.toInt64))), .second, .val (.double (FP.l2d ((va.toInt64) + (d1.toInt64)))), .second, .val (.double (FP.l2d (((va.toInt64) + (d1.toInt64)) + (d2.toInt64)))), .second, .val (.double (FP.l2d ((((va.toInt64) + (d1.toInt64)) + (d2.toInt64)) + (d3.toInt64)))), .second, .val (.ref a2), .val (.int (0 : Int32))] [(.ref a2)])) t → Steps p.tables e below (s₁.setTop (entryFrame m #[(.int p1), (.int p2), (.int p3), (.int p4)] maxLocals)) t := by
      intro t k
      refine k12 t ?_
      refine o_ifYes X9.here hx (pc' := 81) (hb hby at_69) (XT.i0_ne_t h69_13) (by decide) (by decide) ?_
      refine o_iconstV X9.here hx (0 : Int32) (hb hby at_81) rfl ?_
      refine o_istore X9.here hx (hb hby at_82) (l' := #[.val (.int p1), .val (.int p2), .val (.int p3), .val (.int p4), .val (.int va), .val (.int d1), .val (.int d2), .val (.int d3), .val (.double (FP.l2d (va.toInt64))), .second, .val (.double (FP.l2d ((va.toInt64) + (d1.toInt64)))), .second, .val (.double (FP.l2d (((va.toInt64) + (d1.toInt64)) + (d2.toInt64)))), .second, .val (.double (FP.l2d ((((va.toInt64) + (d1.toInt64)) + (d2.toInt64)) + (d3.toInt64)))), .second, .val (.ref a2), .val (.int (0 : Int32))]) rfl ?_
      refine o_aload X9.here hx (hb hby at_84) rfl rfl ?_
      exact k
    obtain ⟨cq25, kq25, q25a, q25b, q25c⟩ := isOf hZ e9 Q9_0
    obtain ⟨_, _, ⟨T25, L25, c25, n25⟩, -, X25, ⟨Lc25, hQ25, l25, y25, z25⟩, st25⟩ := X9.virtualBack hx (y := (⟨"com/example/diotima/diotima/kb/FuzzyDatatype", "isCrisp", "()Z"⟩ : MethodName)) (z := (⟨"com/example/diotima/diotima/kb/FuzzyDatatype", "isCrisp", "()Z"⟩ : MethodName)) hown (mvT hZ (hw _ (List.mem_of_getElem? (i := 23) rfl))) (mvT hZ (hw _ (List.mem_of_getElem? (i := 24) rfl))) (notFace_of_selects (args := #[]) (mvT hZ (hw _ (List.mem_of_getElem? (i := 26) rfl)))) (mvT hZ (hw _ (List.mem_of_getElem? (i := 26) rfl))) (mvT hZ (hw _ (List.mem_of_getElem? (i := 25) rfl))) (by decide) (backOf (W := 0) (rmI l Z a0 hw [] a2 (va.toInt64) ((va.toInt64) + (d1.toInt64)) (((va.toInt64) + (d1.toInt64)) + (d2.toInt64)) ((((va.toInt64) + (d1.toInt64)) + (d2.toInt64)) + (d3.toInt64)) T9.heap n0 Z9 Q9_1 Q9_2 Q9_3 Q9_4 (own_wide (own_bd_i va) (by decide)) (own_wide (own_bd_add (own_bd_i va) (own_bd_i d1) (by decide)) (by decide)) (own_wide (own_bd_add (own_bd_add (own_bd_i va) (own_bd_i d1) (by decide)) (own_bd_i d2) (by decide)) (by decide)) (own_wide (own_bd_add (own_bd_add (own_bd_add (own_bd_i va) (own_bd_i d1) (by decide)) (own_bd_i d2) (by decide)) (own_bd_i d3) (by decide)) (by decide))) hZ (hw _ (List.mem_of_getElem? (i := 27) rfl)) (hw _ (List.mem_of_getElem? (i := 3) rfl)) (by decide) (by decide)) q25a q25c (g := (mkF m 86 #[.val (.int p1), .val (.int p2), .val (.int p3), .val (.int p4), .val (.int va), .val (.int d1), .val (.int d2), .val (.int d3), .val (.double (FP.l2d (va.toInt64))), .second, .val (.double (FP.l2d ((va.toInt64) + (d1.toInt64)))), .second, .val (.double (FP.l2d (((va.toInt64) + (d1.toInt64)) + (d2.toInt64)))), .second, .val (.double (FP.l2d ((((va.toInt64) + (d1.toInt64)) + (d2.toInt64)) + (d3.toInt64)))), .second, .val (.ref a2), .val (.int (0 : Int32))] [(.ref a2)])) rfl (by rw [hml]; rfl) (Steps.refl _) (argsL := []) (rest := []) (lenOf pd_ocZ rfl) rfl (by show 2 * 0 + _ ≤ _; exact Nat.le_of_eq rfl) (hb hby at_86) (fun _ _ => ⟨rfl, e9, (by decide : 1 + 0 ≤ _), (by decide : 4 + 0 ≤ _)⟩)
    dsimp only [Pt.U, Pt.locs, Pt.cells, Pt.slots] at X25 l25 y25 z25 st25 hQ25
    subst l25 y25 z25
    obtain ⟨rfl, N25a, eh25⟩ := hQ25
    have N25 := Fr.app N9 N25a
    have e25 : T25.heap = T9.heap := eh25
    have k26 : ∀ t, Steps p.tables e below (T25.setTop (mkF m 89 #[.val (.int p1), .val (.int p2), .val (.int p3), .val (.int p4), .val (.int va), .val (.int d1), .val (.int d2), .val (.int d3), .val (.double (FP.l2d (va.toInt64))), .second, .val (.double (FP.l2d ((va.toInt64) + (d1.toInt64)))), .second, .val (.double (FP.l2d (((va.toInt64) + (d1.toInt64)) + (d2.toInt64)))), .second, .val (.double (FP.l2d ((((va.toInt64) + (d1.toInt64)) + (d2.toInt64)) + (d3.toInt64)))), .second, .val (.ref a2), .val (.int (0 : Int32))] [(.int (if (va.toInt64) = ((va.toInt64) + (d1.toInt64)) ∧ (((va.toInt64) + (d1.toInt64)) + (d2.toInt64)) = ((((va.toInt64) + (d1.toInt64)) + (d2.toInt64)) + (d3.toInt64)) then (1 : Int32) else 0))])) t → Steps p.tables e below (s₁.setTop (entryFrame m #[(.int p1), (.int p2), (.int p3), (.int p4)] maxLocals)) t := fun t k => k24 t (st25.trans k)
    have k27 : ∀ t, Steps p.tables e below (T25.setTop (mkF m 99 #[.val (.int p1), .val (.int p2), .val (.int p3), .val (.int p4), .val (.int va), .val (.int d1), .val (.int d2), .val (.int d3), .val (.double (FP.l2d (va.toInt64))), .second, .val (.double (FP.l2d ((va.toInt64) + (d1.toInt64)))), .second, .val (.double (FP.l2d (((va.toInt64) + (d1.toInt64)) + (d2.toInt64)))), .second, .val (.double (FP.l2d ((((va.toInt64) + (d1.toInt64)) + (d2.toInt64)) + (d3.toInt64)))), .second, .val (.ref a2), .val (.int (0 : Int32))] [(.int (1 : Int32))])) t → Steps p.tables e below (s₁.setTop (entryFrame m #[(.int p1), (.int p2), (.int p3), (.int p4)] maxLocals)) t := by
      intro t k
      refine k26 t ?_
      refine o_iload X25.here hx (hb hby at_89) rfl ?_
      show Steps p.tables e below (T25.setTop (mkF m 91 #[.val (.int p1), .val (.int p2), .val (.int p3), .val (.int p4), .val (.int va), .val (.int d1), .val (.int d2), .val (.int d3), .val (.double (FP.l2d (va.toInt64))), .second, .val (.double (FP.l2d ((va.toInt64) + (d1.toInt64)))), .second, .val (.double (FP.l2d (((va.toInt64) + (d1.toInt64)) + (d2.toInt64)))), .second, .val (.double (FP.l2d ((((va.toInt64) + (d1.toInt64)) + (d2.toInt64)) + (d3.toInt64)))), .second, .val (.ref a2), .val (.int (0 : Int32))] [(.int (0 : Int32)), (.int (if (va.toInt64) = ((va.toInt64) + (d1.toInt64)) ∧ (((va.toInt64) + (d1.toInt64)) + (d2.toInt64)) = ((((va.toInt64) + (d1.toInt64)) + (d2.toInt64)) + (d3.toInt64)) then (1 : Int32) else 0))])) _
      refine o_icmpNo X25.here hx (hb hby at_91) (XT.ii_ne_f (by rw [own_crisp]; simp [h69_13])) ?_
      refine o_iconstV X25.here hx (1 : Int32) (hb hby at_94) rfl ?_
      show Steps p.tables e below (T25.setTop (mkF m 95 #[.val (.int p1), .val (.int p2), .val (.int p3), .val (.int p4), .val (.int va), .val (.int d1), .val (.int d2), .val (.int d3), .val (.double (FP.l2d (va.toInt64))), .second, .val (.double (FP.l2d ((va.toInt64) + (d1.toInt64)))), .second, .val (.double (FP.l2d (((va.toInt64) + (d1.toInt64)) + (d2.toInt64)))), .second, .val (.double (FP.l2d ((((va.toInt64) + (d1.toInt64)) + (d2.toInt64)) + (d3.toInt64)))), .second, .val (.ref a2), .val (.int (0 : Int32))] [(.int (1 : Int32))])) _
      refine o_goto X25.here hx (pc' := 99) (hb hby at_95) (by decide) (by decide) ?_
      exact k
    obtain ⟨fs, hr, hrun, hended, hW, hsame⟩ := X25.leave (v := some (.int (1 : Int32))) (fun h => by rw [Bd.returns] at h; cases h)
    refine ⟨_, _, k27 _ ?_, hrun, hended, _, _, rfl, ?_, ⟨_, rfl⟩, hW, hsame.mono (by decide) (by decide)⟩
    · exact retN X25 hx (t := .boolean) Bd.returns (by simp) (hb hby at_99) hr
    · show Q0 Z p1 p2 p3 p4 h0 n0 _ T25.heap _
      rw [e25]
      exact ⟨rfl, N25⟩

set_option maxRecDepth 65536 in
set_option maxHeartbeats 40000000 in
theorem comes_1 {Post : Tables → Env → Array Value → State → Outcome → State → Prop} (hpost : ∀ tb e args s v u, (limb_1_1.after args s (.returned v) u = true ∧ limb_1_2.after args s (.returned v) u = true ∧ True) → FrameEnd s (.returned v) u (Jvm.fieldLocs frame_1_writes args s ++ Jvm.arrayLocs frame_1_arrays args s ++ Jvm.staticLocs frame_1_statics s) 16 128 → Post tb e args s (.returned v) u) :
    ArmFor flags0 classFile x code maxLocals ret World_1 tables_1 room_1 Calls_1 rest_1 Pre_1 Post := by
  intro l hfl _ _ p e ha hc hk s m args below hf hA hF happ hP
  obtain ⟨hcalls, hrest, hpre⟩ := hP
  obtain ⟨-, -, -, hnamed, -, -, -, hat⟩ := (Spec.applies_iff hf).mp happ
  obtain ⟨hg, hn⟩ := and_e (Cond.before_iff.mp (show (Jvm.Cond.and given_1 narrow_1).before args s = true from hpre))
  obtain ⟨hcount, hr0⟩ := and_e hg
  obtain ⟨g0, hr1⟩ := and_e hr0
  obtain ⟨g1, hr2⟩ := and_e hr1
  obtain ⟨g2, hr3⟩ := and_e hr2
  have g3 := hr3
  obtain ⟨w0, w1, w2, w3, rfl⟩ : ∃ w0 w1 w2 w3 : Value, args = #[w0, w1, w2, w3] := by
    have hs : args.size = 4 := by simpa [Cond.value, given_1] using hcount
    obtain ⟨L⟩ := args
    match L, hs with
    | [w0, w1, w2, w3], _ => exact ⟨w0, w1, w2, w3, rfl⟩
  have hw := fun d (hd : d ∈ tables_1) => atoms_spec (ws := Jvm.Cond.code x code maxLocals ret :: tables_1) hat d (List.mem_cons_of_mem _ hd)
  have hfit : Fit s := fun {y c} hc i hi => by
    obtain ⟨ha, rfl⟩ := Array.getElem?_eq_some_iff.mp hc
    have q := List.all_eq_true.mp ((Array.all_eq_true_iff_forall_mem.mp hF) _ (Array.getElem_mem ha)) i (List.mem_range.mpr hi)
    simpa [Array.getElem?_eq_getElem hi] using q
  obtain ⟨i0, e0⟩ := is_v g0
  obtain rfl : w0 = (.int i0) := Option.some.inj e0
  obtain ⟨i1, e1⟩ := is_v g1
  obtain rfl : w1 = (.int i1) := Option.some.inj e1
  obtain ⟨i2, e2⟩ := is_v g2
  obtain rfl : w2 = (.int i2) := Option.some.inj e2
  obtain ⟨i3, e3⟩ := is_v g3
  obtain rfl : w3 = (.int i3) := Option.some.inj e3
  obtain ⟨n, o, h1, h2, h3, _, L, rfl, ⟨rfl, N⟩, hq⟩ := rm0 l s _ hw tables_1 i0 i1 i2 i3 s.heap s.heap.size (Nat.le_refl _)  p e ha hc hk s m _ below hf ((Spec.applies_iff_loose hf).mp happ).1 ⟨rfl, State.Warmed39.refl s, rfl⟩ trivial
  refine ⟨n, _, h1, h2, h3, hpost _ _ _ _ _ _ ⟨Cond.after_iff.mpr rfl, Cond.after_iff.mpr (eq_i res_at (Term.int_eval (1)) rfl), trivial⟩ ⟨hq.1, hq.2.1, (hq.2.2.sift fun y hy => Or.inr (N y hy)).mono (by decide) (by decide)⟩⟩
theorem main_1_1 : Claimed_1_1 := comes_1 fun _ _ _ _ _ _ h hF => ⟨h.1, hF⟩
theorem main_1_2 : Claimed_1_2 := comes_1 fun _ _ _ _ _ _ h hF => ⟨h.2.1, hF⟩
end Jvm.Pilot.@@N@@
namespace Jvm.Pilot.@@N@@
open Jvm Jvm.ClassFile Sem Op Lib Jvm.Free Jvm.Stand Jvm.Pilot.@@N@@.Jvm.D
/-! MADE BY PROGRAM (witnessworld.py) out of the Statement's table words and the real class files: 10 classes; the members and pool entries that the words name. The judged class is class 1, her method 1. -/
namespace start1
open Jvm.ClassFile
def u (s : String) : CpInfo := .utf8 (stringToUtf16 s)
/-- a pool by its gaps: so many unusable entries, then the entry; so many at the end -/
def gap : Nat → List CpInfo → List CpInfo
  | 0, r => r
  | n + 1, r => .unusable :: gap n r
def poolList (es : List (Nat × CpInfo)) (last : Nat) : List CpInfo := es.foldr (fun e r => gap e.1 (e.2 :: r)) (gap last [])
def pool (es : List (Nat × CpInfo)) (last : Nat) : Array CpInfo := ⟨poolList es last⟩
def fileOf (pool : Array CpInfo) (this : Nat) (attrs : Array Attribute := #[]) (ms : Array MethodInfo := #[]) (fl : Nat := 33) (sup : Nat := 0) (ifs : Array Nat := #[]) (fds : Array FieldInfo := #[]) : ClassFile where
  minorVersion := 0
  majorVersion := 65
  constantPool := pool
  accessFlags := fl
  thisClass := this
  superClass := sup
  interfaces := ifs
  fields := fds
  methods := ms
  attributes := attrs
def plain (name : String) (sup : Option ClassId) : Class where
  name := name
  kind := .ordinary
  loader := none
  accessFlags := 33
  super := sup
  interfaces := #[]
  cf := none
  fields := #[]
  methods := #[]
  instanceTypes := #[]
  staticTypes := #[]
  resolved := #[]
  callSites := []
  init := .initialized
  statics := none
  mirror := none

def pool0 : Array CpInfo := pool [(5, u "<init>"), (0, u "()V"), (1, .class_ 10), (1, u "java/lang/Object")] 113

def k0c0 : Code := { maxStack := 0, maxLocals := 1, code := object_method_1_code, exceptionTable := #[], attributes := #[] }
def k0m0 : Method := { name := "<init>", desc := "()V", sig := { parameters := [], returnType := none }, accessFlags := 1, code := some k0c0 }
/-- java/lang/Object -/
def k0 : Class := { plain "java/lang/Object" none with
  accessFlags := 33
  interfaces := #[]
  cf := some (fileOf pool0 8 #[] #[{ accessFlags := 1, nameIndex := 5, descriptorIndex := 6, attributes := #[] }] 33 0 #[] #[])
  fields := #[]
  methods := #[k0m0]
  instanceTypes := #[]
  staticTypes := #[]
  resolved := Array.replicate 124 none
  statics := none }

def pool1 : Array CpInfo := pool [(2, .class_ 4), (1, u "java/lang/Object"), (0, u "<init>"), (0, u "()V"), (0, .integer 100000), (0, .class_ 9), (0, u "com/example/diotima/diotima/kb/FuzzyDatatype"), (0, .methodref 8 11), (0, .nameAndType 5 12), (0, u "(DDDD)V"), (0, .methodref 8 14), (0, .nameAndType 15 16), (0, u "isCrisp"), (0, u "()Z"), (0, .class_ 18), (0, u "com/example/diotima/diotima/kb/FuzzyDatatypeIsCrispPinLaw"), (2, u "law"), (0, u "(IIII)Z")] 3

def k1m0 : Method := { name := "<init>", desc := "()V", sig := { parameters := [], returnType := none }, accessFlags := 1, code := none }
def k1c1 : Code := { maxStack := 10, maxLocals := 18, code := code, exceptionTable := #[], attributes := #[] }
def k1m1 : Method := { name := "law", desc := "(IIII)Z", sig := { parameters := [.int, .int, .int, .int], returnType := some .boolean }, accessFlags := 9, code := some k1c1 }
/-- com/example/diotima/diotima/kb/FuzzyDatatypeIsCrispPinLaw -/
def k1 : Class := { plain "com/example/diotima/diotima/kb/FuzzyDatatypeIsCrispPinLaw" (some 0) with
  accessFlags := 49
  interfaces := #[]
  cf := some (fileOf pool1 17 #[] #[{ accessFlags := 1, nameIndex := 5, descriptorIndex := 6, attributes := #[] }, { accessFlags := 9, nameIndex := 21, descriptorIndex := 22, attributes := #[] }] 49 2 #[] #[])
  fields := #[]
  methods := #[k1m0, k1m1]
  instanceTypes := #[]
  staticTypes := #[]
  resolved := Array.replicate 26 none
  statics := none }

def pool2 : Array CpInfo := pool [(1, .methodref 2 3), (0, .class_ 4), (0, .nameAndType 5 6), (0, u "java/lang/Object"), (0, u "<init>"), (0, u "()V"), (0, .class_ 8), (0, u "java/lang/Record")] 13

def k2c0 : Code := { maxStack := 1, maxLocals := 1, code := jdk_30_method_1_code, exceptionTable := #[], attributes := #[] }
def k2m0 : Method := { name := "<init>", desc := "()V", sig := { parameters := [], returnType := none }, accessFlags := 4, code := some k2c0 }
/-- java/lang/Record -/
def k2 : Class := { plain "java/lang/Record" (some 0) with
  accessFlags := 1057
  interfaces := #[]
  cf := some (fileOf pool2 7 #[] #[{ accessFlags := 4, nameIndex := 5, descriptorIndex := 6, attributes := #[] }] 1057 2 #[] #[])
  fields := #[]
  methods := #[k2m0]
  instanceTypes := #[]
  staticTypes := #[]
  resolved := Array.replicate 22 none
  statics := none }

def pool3 : Array CpInfo := pool [(1, .methodref 2 3), (0, .class_ 4), (0, .nameAndType 5 6), (0, u "java/lang/Record"), (0, u "<init>"), (0, u "()V"), (26, .fieldref 34 35), (0, .class_ 36), (0, .nameAndType 37 38), (0, u "com/example/diotima/diotima/kb/FuzzyDatatype"), (0, u "riseStart"), (0, u "D"), (0, .fieldref 34 40), (0, .nameAndType 41 38), (0, u "riseEnd"), (0, .fieldref 34 43), (0, .nameAndType 44 38), (0, u "fallStart"), (0, .fieldref 34 46), (0, .nameAndType 47 38), (0, u "fallEnd"), (10, u "(DDDD)V"), (30, u "()Z"), (59, u "isCrisp")] 38

def k3c0 : Code := { maxStack := 7, maxLocals := 9, code := prog_31_method_1_code, exceptionTable := #[], attributes := #[] }
def k3m0 : Method := { name := "<init>", desc := "(DDDD)V", sig := { parameters := [.double, .double, .double, .double], returnType := none }, accessFlags := 1, code := some k3c0 }
def k3c1 : Code := { maxStack := 4, maxLocals := 1, code := prog_31_method_10_code, exceptionTable := #[], attributes := #[] }
def k3m1 : Method := { name := "isCrisp", desc := "()Z", sig := { parameters := [], returnType := some .boolean }, accessFlags := 1, code := some k3c1 }
/-- com/example/diotima/diotima/kb/FuzzyDatatype -/
def k3 : Class := { plain "com/example/diotima/diotima/kb/FuzzyDatatype" (some 2) with
  accessFlags := 49
  interfaces := #[]
  cf := some (fileOf pool3 34 #[] #[{ accessFlags := 1, nameIndex := 5, descriptorIndex := 58, attributes := #[] }, { accessFlags := 1, nameIndex := 149, descriptorIndex := 89, attributes := #[] }] 49 2 #[] #[{ accessFlags := 18, nameIndex := 37, descriptorIndex := 38, attributes := #[] }, { accessFlags := 18, nameIndex := 41, descriptorIndex := 38, attributes := #[] }, { accessFlags := 18, nameIndex := 44, descriptorIndex := 38, attributes := #[] }, { accessFlags := 18, nameIndex := 47, descriptorIndex := 38, attributes := #[] }])
  fields := #[{ name := "riseStart", type := .double, accessFlags := 18, slot := 0, constantValue := 0 }, { name := "riseEnd", type := .double, accessFlags := 18, slot := 1, constantValue := 0 }, { name := "fallStart", type := .double, accessFlags := 18, slot := 2, constantValue := 0 }, { name := "fallEnd", type := .double, accessFlags := 18, slot := 3, constantValue := 0 }]
  methods := #[k3m0, k3m1]
  instanceTypes := #[.double, .double, .double, .double]
  staticTypes := #[]
  resolved := Array.replicate 188 none
  statics := none }

def pool4 : Array CpInfo := pool [(1, u "java/lang/Cloneable"), (0, .class_ 1), (0, u "java/lang/Object"), (0, .class_ 3)] 3

/-- java/lang/Cloneable -/
def k4 : Class := { plain "java/lang/Cloneable" (some 0) with
  accessFlags := 1537
  interfaces := #[]
  cf := some (fileOf pool4 2 #[] #[] 1537 4 #[] #[])
  fields := #[]
  methods := #[]
  instanceTypes := #[]
  staticTypes := #[]
  resolved := Array.replicate 8 none
  statics := none }

def pool5 : Array CpInfo := pool [(1, u "java/io/Serializable"), (0, .class_ 1), (0, u "java/lang/Object"), (0, .class_ 3)] 3

/-- java/io/Serializable -/
def k5 : Class := { plain "java/io/Serializable" (some 0) with
  accessFlags := 1537
  interfaces := #[]
  cf := some (fileOf pool5 2 #[] #[] 1537 4 #[] #[])
  fields := #[]
  methods := #[]
  instanceTypes := #[]
  staticTypes := #[]
  resolved := Array.replicate 8 none
  statics := none }

/-- the primitive byte -/
def k6 : Class := { plain "byte" none with kind := .primitive 'B', accessFlags := 0x411 }
/-- [B -/
def k7 : Class := { plain "[B" (some 0) with kind := .array 6 .byte, interfaces := #[4, 5], accessFlags := 1041 }

/-- the primitive int -/
def k8 : Class := { plain "int" none with kind := .primitive 'I', accessFlags := 0x411 }
/-- [I -/
def k9 : Class := { plain "[I" (some 0) with kind := .array 8 .int, interfaces := #[4, 5], accessFlags := 1041 }

def heap : Heap := #[]
def classes : Array Class := #[k0, k1, k2, k3, k4, k5, k6, k7, k8, k9]
def interned : List (Array UInt16 × Addr) := []
def slotsUsed : Nat := 0
def theMethod : MethodId := ⟨1, 1⟩
def args0 : Array Value := #[.int 5, .int 1, .int 2, .int 3]
def aboutOver (below : List Frame) : State where
  vm := { classes := classes, interned := interned.toArray }
  heap := heap
  slotsUsed := slotsUsed
  threads := #[{ frames := .invoking theMethod args0 :: below }]
def below0 : List Frame := [.native { method := ⟨0, 0⟩, args := #[] }]
def about1 : State := aboutOver below0
def p0 : Program := .bare "" "" ""
def e0 : Env := launch0.env 0 0 0
theorem w_frames : about1.frames = Frame.invoking theMethod args0 :: below0 := rfl
set_option maxRecDepth 65536 in
theorem w_args : argsFit about1.vm theMethod args0 = true := by decide +kernel
set_option maxRecDepth 65536 in
theorem w_heap : heapFits about1 = true := by decide +kernel
set_option maxRecDepth 65536 in
theorem w_runnable : about1.curStatus? = some .runnable := by decide +kernel
set_option maxRecDepth 65536 in
theorem w_alone : about1.alone = true := by decide +kernel
set_option maxRecDepth 65536 in
theorem w_named : about1.methodNamed? x = some theMethod := by decide +kernel
set_option maxRecDepth 65536 in
theorem w_hears : about1.hears theMethod below0 = true := by decide +kernel
set_option maxRecDepth 65536 in
theorem w_ripe : about1.ripe theMethod args0 below0 = true := by decide +kernel
theorem w_running : about1.status = .running := rfl
set_option maxRecDepth 65536 in
theorem w_room : about1.hasRoom e0.platform room_1 = true :=
  launch0.hasRoom_least _ room_1 (by decide +kernel) (by decide +kernel) (by decide +kernel) (by decide +kernel) (by decide +kernel) (by decide +kernel)
theorem allAtoms_all (ts : List Jvm.Cond) (a : Array Jvm.Value) (st : Jvm.State) : (allAtoms ts).before a st = ts.all (fun c => c.before a st) := by
  induction ts with
  | nil => rfl
  | cons c t ih =>
    show (Jvm.Cond.and c (allAtoms t)).before a st = _
    rw [Jvm.Cond.before_and, ih, List.all_cons]
def words1 : List Jvm.Cond := Jvm.Cond.code x code maxLocals ret :: tables_1
/-- a 'code' word, met by the world's own term for the bytes: nothing is compared byte by byte -/
theorem code_word {y : MethodName} {bytes : ByteArray} {mx : Nat} {rt : Option FieldType} {a : Array Value} {s : State} {m : MethodId} {meth : Method} {c : Code} (h1 : s.methodNamed? y = some m) (h2 : s.vm.method? m = some meth) (h3 : meth.code = some c) (h4 : c.code = bytes)
    (h5 : (c.maxLocals == mx && c.exceptionTable.isEmpty && decide (c.maxStack ≤ mostOperands) && decide (meth.sig.returnType = rt) && !meth.locks && decide (parseMethodDescriptor y.desc = some meth.sig)) = true) : (Jvm.Cond.code y bytes mx rt).before a s = true := by
  simp only [Bool.and_eq_true, beq_iff_eq, Bool.not_eq_true', decide_eq_true_eq] at h5
  obtain ⟨⟨⟨⟨⟨g1, g2⟩, g3⟩, g4⟩, g5⟩, g6⟩ := h5
  simp [Cond.before, Cond.holds, Cond.value, h1, h2, h3, h4, g1, g2, g3, g4, g5, g6]
def isCode : Jvm.Cond → Bool
  | .code _ _ _ _ => true
  | _ => false
theorem all_split {L : List Jvm.Cond} {P : Jvm.Cond → Bool} (h1 : L.all (fun c => isCode c || P c) = true) (h2 : ∀ c ∈ L.filter isCode, P c = true) : L.all P = true := by
  refine List.all_eq_true.mpr fun c hc => ?_
  have h := List.all_eq_true.mp h1 c hc
  rcases Bool.eq_false_or_eq_true (isCode c) with hi | hi
  · exact h2 c (List.mem_filter.mpr ⟨hc, hi⟩)
  · simpa [hi] using h
set_option maxRecDepth 65536 in
theorem w_c0 : (Jvm.Cond.code x code maxLocals ret).before args0 about1 = true := code_word (m := ⟨1, 1⟩) (meth := k1m1) (c := k1c1) (by decide +kernel) rfl rfl rfl (by decide +kernel)
set_option maxRecDepth 65536 in
theorem w_c1 : (Jvm.Cond.code ({ cls := "com/example/diotima/diotima/kb/FuzzyDatatype", name := "<init>", desc := "(DDDD)V" } : Jvm.MethodName) prog_31_method_1_code (9 : Nat) (Option.none : Option Jvm.ClassFile.FieldType)).before args0 about1 = true := code_word (m := ⟨3, 0⟩) (meth := k3m0) (c := k3c0) (by decide +kernel) rfl rfl rfl (by decide +kernel)
set_option maxRecDepth 65536 in
theorem w_c2 : (Jvm.Cond.code ({ cls := "java/lang/Record", name := "<init>", desc := "()V" } : Jvm.MethodName) jdk_30_method_1_code (1 : Nat) (Option.none : Option Jvm.ClassFile.FieldType)).before args0 about1 = true := code_word (m := ⟨2, 0⟩) (meth := k2m0) (c := k2c0) (by decide +kernel) rfl rfl rfl (by decide +kernel)
set_option maxRecDepth 65536 in
theorem w_c3 : (Jvm.Cond.code ({ cls := "java/lang/Object", name := "<init>", desc := "()V" } : Jvm.MethodName) object_method_1_code (1 : Nat) (Option.none : Option Jvm.ClassFile.FieldType)).before args0 about1 = true := code_word (m := ⟨0, 0⟩) (meth := k0m0) (c := k0c0) (by decide +kernel) rfl rfl rfl (by decide +kernel)
set_option maxRecDepth 65536 in
theorem w_c4 : (Jvm.Cond.code ({ cls := "com/example/diotima/diotima/kb/FuzzyDatatype", name := "isCrisp", desc := "()Z" } : Jvm.MethodName) prog_31_method_10_code (1 : Nat) (Option.some Jvm.ClassFile.FieldType.boolean)).before args0 about1 = true := code_word (m := ⟨3, 1⟩) (meth := k3m1) (c := k3c1) (by decide +kernel) rfl rfl rfl (by decide +kernel)
def codes1 : List Jvm.Cond := [Jvm.Cond.code x code maxLocals ret, Jvm.Cond.code ({ cls := "com/example/diotima/diotima/kb/FuzzyDatatype", name := "<init>", desc := "(DDDD)V" } : Jvm.MethodName) prog_31_method_1_code (9 : Nat) (Option.none : Option Jvm.ClassFile.FieldType), Jvm.Cond.code ({ cls := "java/lang/Record", name := "<init>", desc := "()V" } : Jvm.MethodName) jdk_30_method_1_code (1 : Nat) (Option.none : Option Jvm.ClassFile.FieldType), Jvm.Cond.code ({ cls := "java/lang/Object", name := "<init>", desc := "()V" } : Jvm.MethodName) object_method_1_code (1 : Nat) (Option.none : Option Jvm.ClassFile.FieldType), Jvm.Cond.code ({ cls := "com/example/diotima/diotima/kb/FuzzyDatatype", name := "isCrisp", desc := "()Z" } : Jvm.MethodName) prog_31_method_10_code (1 : Nat) (Option.some Jvm.ClassFile.FieldType.boolean)]
set_option maxRecDepth 65536 in
theorem codes_eq : words1.filter isCode = codes1 := rfl
theorem w_codes : ∀ c ∈ words1.filter isCode, c.before args0 about1 = true := by
  rw [codes_eq]
  intro c hc
  simp only [codes1, List.mem_cons, List.not_mem_nil, or_false] at hc
  rcases hc with rfl | rfl | rfl | rfl | rfl
  · exact w_c0
  · exact w_c1
  · exact w_c2
  · exact w_c3
  · exact w_c4
set_option maxRecDepth 65536 in
theorem w_t1 : (words1.take 24).all (fun c => isCode c || c.before args0 about1) = true := by decide +kernel
set_option maxRecDepth 65536 in
theorem w_t2 : (words1.drop 24).all (fun c => isCode c || c.before args0 about1) = true := by decide +kernel
theorem w_tables : (allAtoms (Jvm.Cond.code x code maxLocals ret :: tables_1)).before args0 about1 = true := by
  rw [allAtoms_all]
  show words1.all (fun c => c.before args0 about1) = true
  refine all_split ?_ w_codes
  rw [← List.take_append_drop 24 words1, List.all_append, w_t1, w_t2]
  rfl
set_option maxRecDepth 65536 in
theorem w_case : (Jvm.Cond.and given_1 narrow_1).before args0 about1 = true := by decide +kernel
theorem w_applies : (headSpec (Jvm.Cond.code x code maxLocals ret :: tables_1) room_1).applies x e0.platform about1 = true :=
  (Spec.applies_iff w_frames).mpr ⟨w_running, w_runnable, w_alone, w_named, w_hears, w_ripe, w_room, w_tables⟩
theorem atStart : AtStart classFile x code maxLocals ret World_1 tables_1 room_1 Calls_1 rest_1 Pre_1 launch0 p0 e0 about1 theMethod args0 below0 :=
  ⟨lists_1, trivial, launch0.admits_env _ _ _, launch0.least_env, fairChoices_fair.cas, fairChoices_fair.clock, w_frames, w_args, w_heap, w_applies, trivial, trivial, w_case⟩
end start1
theorem witness_1 : WitnessClaimed_1 := ⟨start1.p0, start1.e0, start1.about1, start1.theMethod, start1.args0, start1.below0, start1.atStart⟩
end Jvm.Pilot.@@N@@
