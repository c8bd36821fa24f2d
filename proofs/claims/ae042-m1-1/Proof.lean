import JvmDerived
import JvmDerived.Pilot.@@N@@Statement
import JvmDerived.Pilot.@@N@@Code
set_option linter.unusedVariables false
set_option linter.unusedSimpArgs false
namespace Jvm.RoadKit
open Sem ClassFile Op Lib Jvm.Stand Jvm.Free Jvm.LawKit
section New
variable {p : Program} {l : Launch} {e : Env} {R : Room} {s : State} {m : MethodId} {args : Array Value} {below : List Frame} {meth : Method} {c : Code} {T : State} {locs : List Loc} {cells slots : Nat}
theorem retI (X : Stand p l e R s m args below meth c T locs cells slots) (hx : p.tables.exec = Jvm.exec) {pc : Nat} {Ls : Array Slot} {z : Int32} {rest : List Value} (hret : meth.sig.returnType = some .int) (hd : decode c.code pc = .ok (.ireturn, 1)) {fs : List Frame}
    (hl : ∀ (f : JFrame) (acts : List Action), f.method = m → f.locked = none → f.entered = [] → (doReturn e (T.setTop f) acts (some (.int z))).1 = T.setFrames fs) : Steps p.tables e below (T.setTop (mkF m pc Ls (.int z :: rest))) (T.setFrames fs) := by
  have hm' : T.vm.method? m = some meth := X.method'
  have hn : narrow .int (.int z) = .int z := rfl
  show Steps p.tables e below (T.setTop { method := m, pc := pc, locals := Ls, stack := _ :: rest, locked := none }) _
  jvm_step X.here [X.here.top, hx, hd, hm', hret, hn]
  first | (intro acts; rw [hl _ acts rfl rfl rfl]) | rw [hl _ _ rfl rfl rfl]
  exact Steps.refl _
end New
end Jvm.RoadKit
namespace Jvm.Pilot.@@N@@
open Jvm Jvm.ClassFile Sem Op Lib Jvm.Free Jvm.Stand Jvm.LawKit Jvm.RoadKit Bundle Jvm.Pilot.@@N@@.Jvm.D
theorem o_iload {tb : Tables} [Ours tb] {e : Env} {below : List Frame} {T target : State} {m : MethodId} {c : Code} {pc : Nat} {ls : Array Slot} {st : List Value} {k : Nat} {v : Int32} (h : At T m c below) (hx : tb.exec = Jvm.exec) (hd : decode c.code pc = .ok (.iload k, 2)) (hl : ls[k]? = some (.val (.int v))) (hr : Steps tb e below (T.setTop (mkF m (pc + 2) ls (.int v :: st))) target) : Steps tb e below (T.setTop (mkF m pc ls st)) target := XS.iload (g := mkF m pc ls st) h hx rfl hd hl hr
theorem o_iloadN {tb : Tables} [Ours tb] {e : Env} {below : List Frame} {T target : State} {m : MethodId} {c : Code} {pc : Nat} {ls : Array Slot} {st : List Value} {k : Fin 4} {v : Int32} (h : At T m c below) (hx : tb.exec = Jvm.exec) (hd : decode c.code pc = .ok (.iload_n k, 1)) (hl : ls[k.val]? = some (.val (.int v))) (hr : Steps tb e below (T.setTop (mkF m (pc + 1) ls (.int v :: st))) target) : Steps tb e below (T.setTop (mkF m pc ls st)) target := XS.iloadN (g := mkF m pc ls st) h hx rfl hd hl hr
theorem o_dload {tb : Tables} [Ours tb] {e : Env} {below : List Frame} {T target : State} {m : MethodId} {c : Code} {pc : Nat} {ls : Array Slot} {st : List Value} {k : Nat} {v : UInt64} (h : At T m c below) (hx : tb.exec = Jvm.exec) (hd : decode c.code pc = .ok (.dload k, 2)) (hl : ls[k]? = some (.val (.double v))) (hr : Steps tb e below (T.setTop (mkF m (pc + 2) ls (.double v :: st))) target) : Steps tb e below (T.setTop (mkF m pc ls st)) target := XS.dload (g := mkF m pc ls st) h hx rfl hd hl hr
theorem o_dloadN {tb : Tables} [Ours tb] {e : Env} {below : List Frame} {T target : State} {m : MethodId} {c : Code} {pc : Nat} {ls : Array Slot} {st : List Value} {k : Fin 4} {v : UInt64} (h : At T m c below) (hx : tb.exec = Jvm.exec) (hd : decode c.code pc = .ok (.dload_n k, 1)) (hl : ls[k.val]? = some (.val (.double v))) (hr : Steps tb e below (T.setTop (mkF m (pc + 1) ls (.double v :: st))) target) : Steps tb e below (T.setTop (mkF m pc ls st)) target := XS.dloadN (g := mkF m pc ls st) h hx rfl hd hl hr
theorem o_istore {tb : Tables} [Ours tb] {e : Env} {below : List Frame} {T target : State} {m : MethodId} {c : Code} {pc : Nat} {ls : Array Slot} {st : List Value} {k : Nat} {x : Int32} {l' : Array Slot} (h : At T m c below) (hx : tb.exec = Jvm.exec) (hd : decode c.code pc = .ok (.istore k, 2)) (hl : storeLocals ls k (.int x) = some l') (hr : Steps tb e below (T.setTop (mkF m (pc + 2) l' st)) target) : Steps tb e below (T.setTop (mkF m pc ls (.int x :: st))) target := XS.istore (g := mkF m pc ls (.int x :: st)) h hx rfl hd rfl hl hr
theorem o_istoreN {tb : Tables} [Ours tb] {e : Env} {below : List Frame} {T target : State} {m : MethodId} {c : Code} {pc : Nat} {ls : Array Slot} {st : List Value} {k : Fin 4} {x : Int32} {l' : Array Slot} (h : At T m c below) (hx : tb.exec = Jvm.exec) (hd : decode c.code pc = .ok (.istore_n k, 1)) (hl : storeLocals ls k.val (.int x) = some l') (hr : Steps tb e below (T.setTop (mkF m (pc + 1) l' st)) target) : Steps tb e below (T.setTop (mkF m pc ls (.int x :: st))) target := XS.istoreN (g := mkF m pc ls (.int x :: st)) h hx rfl hd rfl hl hr
theorem o_dstore {tb : Tables} [Ours tb] {e : Env} {below : List Frame} {T target : State} {m : MethodId} {c : Code} {pc : Nat} {ls : Array Slot} {st : List Value} {k : Nat} {x : UInt64} {l' : Array Slot} (h : At T m c below) (hx : tb.exec = Jvm.exec) (hd : decode c.code pc = .ok (.dstore k, 2)) (hl : storeLocals ls k (.double x) = some l') (hr : Steps tb e below (T.setTop (mkF m (pc + 2) l' st)) target) : Steps tb e below (T.setTop (mkF m pc ls (.double x :: st))) target := XS.dstore (g := mkF m pc ls (.double x :: st)) h hx rfl hd rfl hl hr
theorem o_aload {tb : Tables} [Ours tb] {e : Env} {below : List Frame} {T target : State} {m : MethodId} {c : Code} {pc : Nat} {ls : Array Slot} {st : List Value} {k : Nat} {v : Value} (h : At T m c below) (hx : tb.exec = Jvm.exec) (hd : decode c.code pc = .ok (.aload k, 2)) (hl : ls[k]? = some (.val v)) (hv : v.isRef = true) (hr : Steps tb e below (T.setTop (mkF m (pc + 2) ls (v :: st))) target) : Steps tb e below (T.setTop (mkF m pc ls st)) target := XS.aload (g := mkF m pc ls st) h hx rfl hd hl hv hr
theorem o_aloadN {tb : Tables} [Ours tb] {e : Env} {below : List Frame} {T target : State} {m : MethodId} {c : Code} {pc : Nat} {ls : Array Slot} {st : List Value} {k : Fin 4} {v : Value} (h : At T m c below) (hx : tb.exec = Jvm.exec) (hd : decode c.code pc = .ok (.aload_n k, 1)) (hl : ls[k.val]? = some (.val v)) (hv : v.isRef = true) (hr : Steps tb e below (T.setTop (mkF m (pc + 1) ls (v :: st))) target) : Steps tb e below (T.setTop (mkF m pc ls st)) target := XS.aloadN (g := mkF m pc ls st) h hx rfl hd hl hv hr
theorem o_astore {tb : Tables} [Ours tb] {e : Env} {below : List Frame} {T target : State} {m : MethodId} {c : Code} {pc : Nat} {ls : Array Slot} {st : List Value} {k : Nat} {x : Value} {l' : Array Slot} (h : At T m c below) (hx : tb.exec = Jvm.exec) (hd : decode c.code pc = .ok (.astore k, 2)) (hv : x.isRef = true) (hl : storeLocals ls k x = some l') (hr : Steps tb e below (T.setTop (mkF m (pc + 2) l' st)) target) : Steps tb e below (T.setTop (mkF m pc ls (x :: st))) target := XS.astore (g := mkF m pc ls (x :: st)) h hx rfl hd rfl hv hl hr
theorem o_iconstV {tb : Tables} [Ours tb] {e : Env} {below : List Frame} {T target : State} {m : MethodId} {c : Code} {pc : Nat} {ls : Array Slot} {st : List Value} {i : Int} (h : At T m c below) (hx : tb.exec = Jvm.exec) (v : Int32) (hd : decode c.code pc = .ok (.iconst i, 1)) (hv : Int32.ofInt i = v) (hr : Steps tb e below (T.setTop (mkF m (pc + 1) ls (.int v :: st))) target) : Steps tb e below (T.setTop (mkF m pc ls st)) target := XT.iconstV (g := mkF m pc ls st) h hx rfl v hd hv hr
theorem o_iand {tb : Tables} [Ours tb] {e : Env} {below : List Frame} {T target : State} {m : MethodId} {c : Code} {pc : Nat} {ls : Array Slot} {st : List Value} {x y : Int32} (h : At T m c below) (hx : tb.exec = Jvm.exec) (hd : decode c.code pc = .ok (.iand, 1)) (hr : Steps tb e below (T.setTop (mkF m (pc + 1) ls (.int (x &&& y) :: st))) target) : Steps tb e below (T.setTop (mkF m pc ls (.int y :: .int x :: st))) target := XS.iand (g := mkF m pc ls (.int y :: .int x :: st)) h hx rfl hd rfl hr
theorem o_ishr {tb : Tables} [Ours tb] {e : Env} {below : List Frame} {T target : State} {m : MethodId} {c : Code} {pc : Nat} {ls : Array Slot} {st : List Value} {x y : Int32} (h : At T m c below) (hx : tb.exec = Jvm.exec) (hd : decode c.code pc = .ok (.ishr, 1)) (hr : Steps tb e below (T.setTop (mkF m (pc + 1) ls (.int (x >>> (y &&& 31)) :: st))) target) : Steps tb e below (T.setTop (mkF m pc ls (.int y :: .int x :: st))) target := XT.ishr (g := mkF m pc ls (.int y :: .int x :: st)) h hx rfl hd rfl hr
theorem o_iincV {tb : Tables} [Ours tb] {e : Env} {below : List Frame} {T target : State} {m : MethodId} {c : Code} {pc : Nat} {ls : Array Slot} {st : List Value} {k : Nat} {cst : Int} {x : Int32} {l' : Array Slot} (h : At T m c below) (hx : tb.exec = Jvm.exec) (v : Int32) (hd : decode c.code pc = .ok (.iinc k cst, 3)) (hv : Int32.ofInt cst = v) (hl : ls[k]? = some (.val (.int x))) (hl' : storeLocals ls k (.int (x + v)) = some l') (hr : Steps tb e below (T.setTop (mkF m (pc + 3) l' st)) target) : Steps tb e below (T.setTop (mkF m pc ls st)) target := XT.iincV (g := mkF m pc ls st) h hx rfl v hd hv hl hl' hr
theorem o_i2dS {tb : Tables} [Ours tb] {e : Env} {below : List Frame} {T target : State} {m : MethodId} {c : Code} {pc : Nat} {ls : Array Slot} {st : List Value} {x : Int32} {v : UInt64} (h : At T m c below) (hx : tb.exec = Jvm.exec) (hd : decode c.code pc = .ok (.i2d, 1)) (hv : FP.i2d x = v) (hr : Steps tb e below (T.setTop (mkF m (pc + 1) ls (.double v :: st))) target) : Steps tb e below (T.setTop (mkF m pc ls (.int x :: st))) target := XS.i2dS (g := mkF m pc ls (.int x :: st)) h hx rfl hd rfl hv hr
theorem o_dcmpS {tb : Tables} [Ours tb] {e : Env} {below : List Frame} {T target : State} {m : MethodId} {c : Code} {pc : Nat} {ls : Array Slot} {st : List Value} {o : CmpOp} {x y : UInt64} {v : Int32} (h : At T m c below) (hx : tb.exec = Jvm.exec) (hd : decode c.code pc = .ok (.dcmp o, 1)) (hv : cmpValue (FP.dcmp x y) o = v) (hr : Steps tb e below (T.setTop (mkF m (pc + 1) ls (.int v :: st))) target) : Steps tb e below (T.setTop (mkF m pc ls (.double y :: .double x :: st))) target := XS.dcmpS (g := mkF m pc ls (.double y :: .double x :: st)) h hx rfl hd rfl hv hr
theorem o_goto {tb : Tables} [Ours tb] {e : Env} {below : List Frame} {T target : State} {m : MethodId} {c : Code} {pc : Nat} {ls : Array Slot} {st : List Value} {o : Int} {pc' : Nat}  (h : At T m c below) (hx : tb.exec = Jvm.exec) (hd : decode c.code pc = .ok (.goto o, 3)) (ho : 0 ≤ (pc : Int) + o) (hp : ((pc : Int) + o).toNat = pc') (hr : Steps tb e below (T.setTop (mkF m pc' ls st)) target) : Steps tb e below (T.setTop (mkF m pc ls st)) target := XS.goto (g := mkF m pc ls st) h hx rfl rfl hd ho hp hr
theorem o_ifYes {tb : Tables} [Ours tb] {e : Env} {below : List Frame} {T target : State} {m : MethodId} {c : Code} {pc : Nat} {ls : Array Slot} {st : List Value} {o : Int} {pc' : Nat} {cd : ClassFile.Cond} {x : Int32} (h : At T m c below) (hx : tb.exec = Jvm.exec) (hd : decode c.code pc = .ok (.ifCond cd o, 3)) (hc : ifCond.holds cd x = true) (ho : 0 ≤ (pc : Int) + o) (hp : ((pc : Int) + o).toNat = pc') (hr : Steps tb e below (T.setTop (mkF m pc' ls st)) target) : Steps tb e below (T.setTop (mkF m pc ls (.int x :: st))) target := XS.ifYes (g := mkF m pc ls (.int x :: st)) h hx rfl rfl hd rfl hc ho hp hr
theorem o_ifNo {tb : Tables} [Ours tb] {e : Env} {below : List Frame} {T target : State} {m : MethodId} {c : Code} {pc : Nat} {ls : Array Slot} {st : List Value} {o : Int} {cd : ClassFile.Cond} {x : Int32} (h : At T m c below) (hx : tb.exec = Jvm.exec) (hd : decode c.code pc = .ok (.ifCond cd o, 3)) (hc : ifCond.holds cd x = false) (hr : Steps tb e below (T.setTop (mkF m (pc + 3) ls st)) target) : Steps tb e below (T.setTop (mkF m pc ls (.int x :: st))) target := XS.ifNo (g := mkF m pc ls (.int x :: st)) h hx rfl hd rfl hc hr
theorem o_icmpYes {tb : Tables} [Ours tb] {e : Env} {below : List Frame} {T target : State} {m : MethodId} {c : Code} {pc : Nat} {ls : Array Slot} {st : List Value} {o : Int} {pc' : Nat} {cd : ClassFile.Cond} {x y : Int32} (h : At T m c below) (hx : tb.exec = Jvm.exec) (hd : decode c.code pc = .ok (.if_icmp cd o, 3)) (hc : if_icmp.holds cd x y = true) (ho : 0 ≤ (pc : Int) + o) (hp : ((pc : Int) + o).toNat = pc') (hr : Steps tb e below (T.setTop (mkF m pc' ls st)) target) : Steps tb e below (T.setTop (mkF m pc ls (.int y :: .int x :: st))) target := XS.icmpYes (g := mkF m pc ls (.int y :: .int x :: st)) h hx rfl rfl hd rfl hc ho hp hr
theorem o_icmpNo {tb : Tables} [Ours tb] {e : Env} {below : List Frame} {T target : State} {m : MethodId} {c : Code} {pc : Nat} {ls : Array Slot} {st : List Value} {o : Int} {cd : ClassFile.Cond} {x y : Int32} (h : At T m c below) (hx : tb.exec = Jvm.exec) (hd : decode c.code pc = .ok (.if_icmp cd o, 3)) (hc : if_icmp.holds cd x y = false) (hr : Steps tb e below (T.setTop (mkF m (pc + 3) ls st)) target) : Steps tb e below (T.setTop (mkF m pc ls (.int y :: .int x :: st))) target := XS.icmpNo (g := mkF m pc ls (.int y :: .int x :: st)) h hx rfl hd rfl hc hr
open Jvm.FP Jvm.Free.Fl in
def OBd (n : Int) (a : Int64) : Prop := -n ≤ a.toInt ∧ a.toInt ≤ n
theorem own_bd_b53 {n : Int} {a : Int64} (h : OBd n a) (q : n < 9007199254740992) : B53 a := ⟨by have := h.1; omega, by have := h.2; omega⟩
theorem own_bd_add {n m : Int} {a b : Int64} (h : OBd n a) (g : OBd m b) (q : n + m < 9007199254740992) : OBd (n + m) (a + b) := by
  obtain ⟨h1, h2⟩ := h
  obtain ⟨g1, g2⟩ := g
  have e : (a + b).toInt = a.toInt + b.toInt := by rw [Int64.toInt_add]; exact Int.bmod_eq_of_le (by omega) (by omega)
  exact ⟨by rw [e]; omega, by rw [e]; omega⟩
theorem own_bd_i (x : Int32) : OBd 2147483648 x.toInt64 := by
  have h1 := x.toInt_lt; have h2 := x.le_toInt
  exact ⟨by rw [Int32.toInt_toInt64]; omega, by rw [Int32.toInt_toInt64]; omega⟩
theorem own_bd_lit0 : OBd 0 (0 : Int64) := ⟨by decide, by decide⟩
theorem own_bd_lit1 : OBd 1 (1 : Int64) := ⟨by decide, by decide⟩
theorem own_dconst0 : FP.dconst0 = FP.l2d 0 := by decide +kernel
theorem own_dconst1 : FP.dconst1 = FP.l2d 1 := by decide +kernel
theorem own_dadd0 {a : Int64} (h : B53 a) : FP.dadd (FP.l2d a) (FP.l2d 0) = FP.l2d a := by
  rw [dadd_w h (own_bd_b53 own_bd_lit0 (by decide)), Int64.add_zero]
theorem own_irr (a : Int64) : ¬ a < a := by rw [Int64.lt_iff_toInt_lt]; omega
theorem own_asymm {a b : Int64} (h : a < b) : ¬ b < a := by
  rw [Int64.lt_iff_toInt_lt] at *; omega
theorem own_c3 (x : Int32) : x &&& 3 = 0 ∨ x &&& 3 = 1 ∨ x &&& 3 = 2 ∨ x &&& 3 = 3 := by
  have h := c_mask x 3 2 (by decide) (by decide)
  have e : ∀ k : Int32, (x &&& 3).toInt = k.toInt → x &&& 3 = k := fun k q => Int32.toInt_inj.mp q
  have h0 : (x &&& 3).toInt = 0 ∨ (x &&& 3).toInt = 1 ∨ (x &&& 3).toInt = 2 ∨ (x &&& 3).toInt = 3 := by omega
  rcases h0 with q | q | q | q
  · exact Or.inl (e 0 q)
  · exact Or.inr (Or.inl (e 1 q))
  · exact Or.inr (Or.inr (Or.inl (e 2 q)))
  · exact Or.inr (Or.inr (Or.inr (e 3 q)))
theorem own_ite0 {p : Prop} [Decidable p] : ((if p then (0 : Int32) else 1) = 0) ↔ p := by by_cases h : p <;> simp [h]
theorem own_ite1 {p : Prop} [Decidable p] : ((if p then (1 : Int32) else 0) = 0) ↔ ¬ p := by by_cases h : p <;> simp [h]
theorem own_ite1n {p : Prop} [Decidable p] : (¬ (if p then (1 : Int32) else 0) = 0) ↔ p := by by_cases h : p <;> simp [h]

def own_beats : List (Int64 × Int64) → Bool → Bool
  | [], b => b
  | (x, y) :: r, b => if y < x then false else own_beats r (b || decide (x < y))

theorem dB0_0 : decode prog_48_method_10_code 0 = .ok (.iconst 0, 1) := by decide +kernel
theorem dB0_1 : decode prog_48_method_10_code 1 = .ok (.istore_n 2, 1) := by decide +kernel
theorem dB0_2 : decode prog_48_method_10_code 2 = .ok (.iconst 0, 1) := by decide +kernel
theorem dB0_3 : decode prog_48_method_10_code 3 = .ok (.istore_n 3, 1) := by decide +kernel
theorem dB0_4 : decode prog_48_method_10_code 4 = .ok (.iload_n 3, 1) := by decide +kernel
theorem dB0_5 : decode prog_48_method_10_code 5 = .ok (.aload_n 0, 1) := by decide +kernel
theorem dB0_6 : decode prog_48_method_10_code 6 = .ok (.arraylength, 1) := by decide +kernel
theorem dB0_7 : decode prog_48_method_10_code 7 = .ok (.if_icmp .ge 33, 3) := by decide +kernel
theorem dB0_40 : decode prog_48_method_10_code 40 = .ok (.iload_n 2, 1) := by decide +kernel
theorem dB0_41 : decode prog_48_method_10_code 41 = .ok (.ireturn, 1) := by decide +kernel
theorem pn_com_example_pareto_loom_paretoloom_model_NondominatedSet : plainName "com/example/pareto_loom/paretoloom/model/NondominatedSet" = true := by first | (simp [plainName, overriddenIn]; done) | decide +kernel
theorem efB0 (m : MethodId) (x0 : Addr) (x1 : Addr) : entryFrame m #[(.ref x0), (.ref x1)] 4 = (mkF m 0 #[.val (.ref x0), .val (.ref x1), .unset, .unset] []) := by first | (simp [entryFrame, mkF, argsToLocals, Value.category]; done) | rfl
def QB0 (Z : State) (a1 : Addr) (a2 : Addr) (k1 : ClassId) (k2 : ClassId) (h0 : Heap) (n0 : Nat) (v : Option Value) (h : Heap) (L : List Loc) : Prop := v = some (.int (if own_beats [] false = true then (1 : Int32) else 0)) ∧ Fr n0 L ∧ h = h0
set_option maxRecDepth 65536 in
set_option maxHeartbeats 40000000 in
theorem rmB0 (l : Launch) (Z : State) (a0 : Array Value) (hw : ∀ d ∈ tables_1, d.before a0 Z = true) (ws : List Jvm.Cond) (a1 : Addr) (a2 : Addr) (k1 : ClassId) (k2 : ClassId) (h0 : Heap) (n0 : Nat) (Z0 : n0 ≤ h0.size) (pr0 : Arv Z h0 a1 k1 .double (0 : Int32) [] (.double (0 : UInt64))) (pr1 : Arv Z h0 a2 k2 .double (0 : Int32) [] (.double (0 : UInt64))) :
    MetFree l (⟨"com/example/pareto_loom/paretoloom/model/NondominatedSet", "beats", "([D[D)Z"⟩ : MethodName) (head1 (Jvm.Cond.code (⟨"com/example/pareto_loom/paretoloom/model/NondominatedSet", "beats", "([D[D)Z"⟩ : MethodName) prog_48_method_10_code 4 (some .boolean) :: ws) ({ frames := 0, cells := 0, slots := 0, locals := 0 } : Room)) (fun a U => a = #[(.ref a1), (.ref a2)] ∧ Z.Warmed39 U.vm ∧ U.heap = h0) (fun _ _ _ _ _ => True) (fun _ U o U' => ∃ v L, o = .returned v ∧ QB0 Z a1 a2 k1 k2 h0 n0 v U'.heap L ∧ FrameEnd U o U' L ({ frames := 0, cells := 0, slots := 0, locals := 0 } : Room).cells ({ frames := 0, cells := 0, slots := 0, locals := 0 } : Room).slots) := by
  refine MetFree.of_bodySF (plainFor_of_name pn_com_example_pareto_loom_paretoloom_model_NondominatedSet) hisR ?_
  intro p e s m args below meth c s₁ Bd hml0 hP hK
  obtain ⟨rfl, hZ, hh⟩ := hP
  have hx := Bd.exec
  have hby := Bd.bytes
  have hml : c.maxLocals = 4 := hml0
  have hown : s.vm.findClass "com/example/pareto_loom/paretoloom/model/NondominatedSet" = some m.cls := findClass_of_methodNamed Bd.named
  have hnm := (name_of_methodNamed Bd.named Bd.method).1
  have X0 : Stand p l e ({ frames := 0, cells := 0, slots := 0, locals := 0 } : Room) s m #[(.ref a1), (.ref a2)] below meth c s₁ [] 0 0 := Stand.of_body Bd
  have e0 : s₁.heap = h0 := by rw [← hh, Bd.state]; rfl
  have N0 := Fr.nil n0
  have pre0 : ∀ t, Steps p.tables e below (s₁.setTop (mkF m 0 #[.val (.ref a1), .val (.ref a2), .unset, .unset] [])) t → Steps p.tables e below (s₁.setTop (entryFrame m #[(.ref a1), (.ref a2)] 4)) t := fun t k => castTop (efB0 m a1 a2) k
  have cn1 : ∀ t, Steps p.tables e below (s₁.setTop (mkF m 6 #[.val (.ref a1), .val (.ref a2), .val (.int (0 : Int32)), .val (.int (0 : Int32))] [(.ref a1), (.int (0 : Int32))])) t → Steps p.tables e below (s₁.setTop (entryFrame m #[(.ref a1), (.ref a2)] 4)) t := by
    intro t k
    refine pre0 t ?_
    refine o_iconstV X0.here hx (0 : Int32) (hb hby dB0_0) rfl ?_
    refine o_istoreN X0.here hx (hb hby dB0_1) (l' := #[.val (.ref a1), .val (.ref a2), .val (.int (0 : Int32)), .unset]) rfl ?_
    refine o_iconstV X0.here hx (0 : Int32) (hb hby dB0_2) rfl ?_
    refine o_istoreN X0.here hx (hb hby dB0_3) (l' := #[.val (.ref a1), .val (.ref a2), .val (.int (0 : Int32)), .val (.int (0 : Int32))]) rfl ?_
    refine o_iloadN X0.here hx (hb hby dB0_4) rfl ?_
    refine o_aloadN X0.here hx (hb hby dB0_5) rfl rfl ?_
    exact k
  obtain ⟨cl2, Ar2, qk2, Sz2, Mz2, Hh2, Gg2⟩ := pr0
  have pr0 : Arv Z h0 a1 k1 .double (0 : Int32) [] (.double (0 : UInt64)) := ⟨cl2, Ar2, qk2, Sz2, Mz2, Hh2, Gg2⟩
  have cn3 : ∀ t, Steps p.tables e below (s₁.setTop (mkF m 41 #[.val (.ref a1), .val (.ref a2), .val (.int (0 : Int32)), .val (.int (0 : Int32))] [(.int (0 : Int32))])) t → Steps p.tables e below (s₁.setTop (entryFrame m #[(.ref a1), (.ref a2)] 4)) t := by
    intro t k
    refine cn1 t ?_
    refine X0.arraylength hx (by rw [e0]; exact Ar2.1) (State.isArrayOf_alike hZ.alike Ar2.2.1) (g := (mkF m 6 #[.val (.ref a1), .val (.ref a2), .val (.int (0 : Int32)), .val (.int (0 : Int32))] [(.ref a1), (.int (0 : Int32))])) rfl rfl (hb hby dB0_6) _ ?_
    rw [len_of Sz2 Mz2]
    show Steps p.tables e below (s₁.setTop (mkF m 7 #[.val (.ref a1), .val (.ref a2), .val (.int (0 : Int32)), .val (.int (0 : Int32))] [(.int (0 : Int32)), (.int (0 : Int32))])) _
    show Steps p.tables e below (s₁.setTop (mkF m 7 #[.val (.ref a1), .val (.ref a2), .val (.int (0 : Int32)), .val (.int (0 : Int32))] [(.int (0 : Int32)), (.int (0 : Int32))])) _
    refine o_icmpYes X0.here hx (pc' := 40) (hb hby dB0_7) (XT.ii_ge_t (by decide)) (by decide) (by decide) ?_
    refine o_iloadN X0.here hx (hb hby dB0_40) rfl ?_
    exact k
  obtain ⟨fs, hr, hrun, hended, hW, hsame⟩ := X0.leave (v := some (.int (0 : Int32))) (fun h => by rw [Bd.returns] at h; cases h)
  refine ⟨_, _, cn3 _ ?_, hrun, hended, _, _, rfl, ?_, ⟨_, rfl⟩, hW, hsame.mono (by decide) (by decide)⟩
  · exact retN X0 hx (t := .boolean) Bd.returns (by simp) (hb hby dB0_41) hr
  · show QB0 Z a1 a2 k1 k2 h0 n0 _ s₁.heap _
    rw [e0]
    exact ⟨(by simp [own_beats]), N0, rfl⟩

theorem dE0_0 : decode method_3_code 0 = .ok (.iload_n 0, 1) := by decide +kernel
theorem dE0_1 : decode method_3_code 1 = .ok (.iconst 1, 1) := by decide +kernel
theorem dE0_2 : decode method_3_code 2 = .ok (.if_icmp .lt 10, 3) := by decide +kernel
theorem dE0_12 : decode method_3_code 12 = .ok (.iconst 1, 1) := by decide +kernel
theorem dE0_13 : decode method_3_code 13 = .ok (.goto 4, 3) := by decide +kernel
theorem dE0_17 : decode method_3_code 17 = .ok (.istore 13, 2) := by decide +kernel
theorem dE0_19 : decode method_3_code 19 = .ok (.iload_n 0, 1) := by decide +kernel
theorem dE0_20 : decode method_3_code 20 = .ok (.iconst 2, 1) := by decide +kernel
theorem dE0_21 : decode method_3_code 21 = .ok (.if_icmp .lt 10, 3) := by decide +kernel
theorem dE0_31 : decode method_3_code 31 = .ok (.iconst 1, 1) := by decide +kernel
theorem dE0_32 : decode method_3_code 32 = .ok (.goto 4, 3) := by decide +kernel
theorem dE0_36 : decode method_3_code 36 = .ok (.istore 14, 2) := by decide +kernel
theorem dE0_38 : decode method_3_code 38 = .ok (.iload_n 0, 1) := by decide +kernel
theorem dE0_39 : decode method_3_code 39 = .ok (.iconst 3, 1) := by decide +kernel
theorem dE0_40 : decode method_3_code 40 = .ok (.if_icmp .lt 11, 3) := by decide +kernel
theorem dE0_51 : decode method_3_code 51 = .ok (.iconst 1, 1) := by decide +kernel
theorem dE0_52 : decode method_3_code 52 = .ok (.goto 4, 3) := by decide +kernel
theorem dE0_56 : decode method_3_code 56 = .ok (.istore 15, 2) := by decide +kernel
theorem dE0_58 : decode method_3_code 58 = .ok (.iload_n 0, 1) := by decide +kernel
theorem dE0_59 : decode method_3_code 59 = .ok (.iconst 1, 1) := by decide +kernel
theorem dE0_60 : decode method_3_code 60 = .ok (.if_icmp .lt 14, 3) := by decide +kernel
theorem dE0_74 : decode method_3_code 74 = .ok (.iconst 0, 1) := by decide +kernel
theorem dE0_75 : decode method_3_code 75 = .ok (.istore 16, 2) := by decide +kernel
theorem dE0_77 : decode method_3_code 77 = .ok (.iload_n 0, 1) := by decide +kernel
theorem dE0_78 : decode method_3_code 78 = .ok (.iconst 2, 1) := by decide +kernel
theorem dE0_79 : decode method_3_code 79 = .ok (.if_icmp .lt 14, 3) := by decide +kernel
theorem dE0_93 : decode method_3_code 93 = .ok (.iconst 0, 1) := by decide +kernel
theorem dE0_94 : decode method_3_code 94 = .ok (.istore 17, 2) := by decide +kernel
theorem dE0_96 : decode method_3_code 96 = .ok (.iload_n 0, 1) := by decide +kernel
theorem dE0_97 : decode method_3_code 97 = .ok (.iconst 3, 1) := by decide +kernel
theorem dE0_98 : decode method_3_code 98 = .ok (.if_icmp .lt 15, 3) := by decide +kernel
theorem dE0_113 : decode method_3_code 113 = .ok (.iconst 0, 1) := by decide +kernel
theorem dE0_114 : decode method_3_code 114 = .ok (.istore 18, 2) := by decide +kernel
theorem dE0_116 : decode method_3_code 116 = .ok (.iload 13, 2) := by decide +kernel
theorem dE0_118 : decode method_3_code 118 = .ok (.ifCond .eq 32, 3) := by decide +kernel
theorem dE0_121 : decode method_3_code 121 = .ok (.iload 14, 2) := by decide +kernel
theorem dE0_123 : decode method_3_code 123 = .ok (.ifCond .eq 27, 3) := by decide +kernel
theorem dE0_126 : decode method_3_code 126 = .ok (.iload 15, 2) := by decide +kernel
theorem dE0_128 : decode method_3_code 128 = .ok (.ifCond .eq 22, 3) := by decide +kernel
theorem dE0_131 : decode method_3_code 131 = .ok (.iload 16, 2) := by decide +kernel
theorem dE0_133 : decode method_3_code 133 = .ok (.ifCond .ne 13, 3) := by decide +kernel
theorem dE0_136 : decode method_3_code 136 = .ok (.iload 17, 2) := by decide +kernel
theorem dE0_138 : decode method_3_code 138 = .ok (.ifCond .ne 8, 3) := by decide +kernel
theorem dE0_141 : decode method_3_code 141 = .ok (.iload 18, 2) := by decide +kernel
theorem dE0_143 : decode method_3_code 143 = .ok (.ifCond .eq 7, 3) := by decide +kernel
theorem dE0_150 : decode method_3_code 150 = .ok (.iconst 0, 1) := by decide +kernel
theorem dE0_151 : decode method_3_code 151 = .ok (.ireturn, 1) := by decide +kernel
theorem pn_com_example_pareto_loom_paretoloom_model_NondominatedSetBeatsPinLaw : plainName "com/example/pareto_loom/paretoloom/model/NondominatedSetBeatsPinLaw" = true := by first | (simp [plainName, overriddenIn]; done) | decide +kernel
theorem efE0 (m : MethodId) (x0 : Int32) (x1 : UInt64) (x2 : UInt64) (x3 : UInt64) (x4 : UInt64) (x5 : UInt64) (x6 : UInt64) : entryFrame m #[(.int x0), (.double x1), (.double x2), (.double x3), (.double x4), (.double x5), (.double x6)] 19 = (mkF m 0 #[.val (.int x0), .val (.double x1), .second, .val (.double x2), .second, .val (.double x3), .second, .val (.double x4), .second, .val (.double x5), .second, .val (.double x6), .second, .unset, .unset, .unset, .unset, .unset, .unset] []) := by first | (simp [entryFrame, mkF, argsToLocals, Value.category]; done) | rfl
def QE0 (Z : State) (x0 : Int64) (x1 : Int64) (x2 : Int64) (y0 : Int64) (y1 : Int64) (y2 : Int64) (h0 : Heap) (n0 : Nat) (v : Option Value) (h : Heap) (L : List Loc) : Prop := v = some (.int (if own_beats [] false = true then (1 : Int32) else 0)) ∧ Fr n0 L ∧ h = h0
set_option maxRecDepth 65536 in
set_option maxHeartbeats 40000000 in
theorem rmE0 (l : Launch) (Z : State) (a0 : Array Value) (hw : ∀ d ∈ tables_1, d.before a0 Z = true) (ws : List Jvm.Cond) (x0 : Int64) (x1 : Int64) (x2 : Int64) (y0 : Int64) (y1 : Int64) (y2 : Int64) (h0 : Heap) (n0 : Nat) (Z0 : n0 ≤ h0.size) (H0 : OBd 2147483648 x0) (H1 : OBd 2147483648 x1) (H2 : OBd 2147483648 x2) (H3 : OBd 2147483648 y0) (H4 : OBd 2147483648 y1) (H5 : OBd 2147483648 y2) :
    MetFree l (⟨"com/example/pareto_loom/paretoloom/model/NondominatedSetBeatsPinLaw", "expect", "(IDDDDDD)Z"⟩ : MethodName) (head1 (Jvm.Cond.code (⟨"com/example/pareto_loom/paretoloom/model/NondominatedSetBeatsPinLaw", "expect", "(IDDDDDD)Z"⟩ : MethodName) method_3_code 19 (some .boolean) :: ws) ({ frames := 0, cells := 0, slots := 0, locals := 0 } : Room)) (fun a U => a = #[(.int (0 : Int32)), (.double (FP.l2d x0)), (.double (FP.l2d x1)), (.double (FP.l2d x2)), (.double (FP.l2d y0)), (.double (FP.l2d y1)), (.double (FP.l2d y2))] ∧ Z.Warmed39 U.vm ∧ U.heap = h0) (fun _ _ _ _ _ => True) (fun _ U o U' => ∃ v L, o = .returned v ∧ QE0 Z x0 x1 x2 y0 y1 y2 h0 n0 v U'.heap L ∧ FrameEnd U o U' L ({ frames := 0, cells := 0, slots := 0, locals := 0 } : Room).cells ({ frames := 0, cells := 0, slots := 0, locals := 0 } : Room).slots) := by
  refine MetFree.of_bodySF (plainFor_of_name pn_com_example_pareto_loom_paretoloom_model_NondominatedSetBeatsPinLaw) hisR ?_
  intro p e s m args below meth c s₁ Bd hml0 hP hK
  obtain ⟨rfl, hZ, hh⟩ := hP
  have hx := Bd.exec
  have hby := Bd.bytes
  have hml : c.maxLocals = 19 := hml0
  have hown : s.vm.findClass "com/example/pareto_loom/paretoloom/model/NondominatedSetBeatsPinLaw" = some m.cls := findClass_of_methodNamed Bd.named
  have hnm := (name_of_methodNamed Bd.named Bd.method).1
  have X0 : Stand p l e ({ frames := 0, cells := 0, slots := 0, locals := 0 } : Room) s m #[(.int (0 : Int32)), (.double (FP.l2d x0)), (.double (FP.l2d x1)), (.double (FP.l2d x2)), (.double (FP.l2d y0)), (.double (FP.l2d y1)), (.double (FP.l2d y2))] below meth c s₁ [] 0 0 := Stand.of_body Bd
  have e0 : s₁.heap = h0 := by rw [← hh, Bd.state]; rfl
  have N0 := Fr.nil n0
  have pre0 : ∀ t, Steps p.tables e below (s₁.setTop (mkF m 0 #[.val (.int (0 : Int32)), .val (.double (FP.l2d x0)), .second, .val (.double (FP.l2d x1)), .second, .val (.double (FP.l2d x2)), .second, .val (.double (FP.l2d y0)), .second, .val (.double (FP.l2d y1)), .second, .val (.double (FP.l2d y2)), .second, .unset, .unset, .unset, .unset, .unset, .unset] [])) t → Steps p.tables e below (s₁.setTop (entryFrame m #[(.int (0 : Int32)), (.double (FP.l2d x0)), (.double (FP.l2d x1)), (.double (FP.l2d x2)), (.double (FP.l2d y0)), (.double (FP.l2d y1)), (.double (FP.l2d y2))] 19)) t := fun t k => castTop (efE0 m (0 : Int32) (FP.l2d x0) (FP.l2d x1) (FP.l2d x2) (FP.l2d y0) (FP.l2d y1) (FP.l2d y2)) k
  have cn1 : ∀ t, Steps p.tables e below (s₁.setTop (mkF m 151 #[.val (.int (0 : Int32)), .val (.double (FP.l2d x0)), .second, .val (.double (FP.l2d x1)), .second, .val (.double (FP.l2d x2)), .second, .val (.double (FP.l2d y0)), .second, .val (.double (FP.l2d y1)), .second, .val (.double (FP.l2d y2)), .second, .val (.int (1 : Int32)), .val (.int (1 : Int32)), .val (.int (1 : Int32)), .val (.int (0 : Int32)), .val (.int (0 : Int32)), .val (.int (0 : Int32))] [(.int (0 : Int32))])) t → Steps p.tables e below (s₁.setTop (entryFrame m #[(.int (0 : Int32)), (.double (FP.l2d x0)), (.double (FP.l2d x1)), (.double (FP.l2d x2)), (.double (FP.l2d y0)), (.double (FP.l2d y1)), (.double (FP.l2d y2))] 19)) t := by
    intro t k
    refine pre0 t ?_
    refine o_iloadN X0.here hx (hb hby dE0_0) rfl ?_
    refine o_iconstV X0.here hx (1 : Int32) (hb hby dE0_1) rfl ?_
    show Steps p.tables e below (s₁.setTop (mkF m 2 #[.val (.int (0 : Int32)), .val (.double (FP.l2d x0)), .second, .val (.double (FP.l2d x1)), .second, .val (.double (FP.l2d x2)), .second, .val (.double (FP.l2d y0)), .second, .val (.double (FP.l2d y1)), .second, .val (.double (FP.l2d y2)), .second, .unset, .unset, .unset, .unset, .unset, .unset] [(.int (1 : Int32)), (.int (0 : Int32))])) _
    refine o_icmpYes X0.here hx (pc' := 12) (hb hby dE0_2) (XT.ii_lt_t (by decide)) (by decide) (by decide) ?_
    refine o_iconstV X0.here hx (1 : Int32) (hb hby dE0_12) rfl ?_
    show Steps p.tables e below (s₁.setTop (mkF m 13 #[.val (.int (0 : Int32)), .val (.double (FP.l2d x0)), .second, .val (.double (FP.l2d x1)), .second, .val (.double (FP.l2d x2)), .second, .val (.double (FP.l2d y0)), .second, .val (.double (FP.l2d y1)), .second, .val (.double (FP.l2d y2)), .second, .unset, .unset, .unset, .unset, .unset, .unset] [(.int (1 : Int32))])) _
    refine o_goto X0.here hx (pc' := 17) (hb hby dE0_13) (by decide) (by decide) ?_
    refine o_istore X0.here hx (hb hby dE0_17) (l' := #[.val (.int (0 : Int32)), .val (.double (FP.l2d x0)), .second, .val (.double (FP.l2d x1)), .second, .val (.double (FP.l2d x2)), .second, .val (.double (FP.l2d y0)), .second, .val (.double (FP.l2d y1)), .second, .val (.double (FP.l2d y2)), .second, .val (.int (1 : Int32)), .unset, .unset, .unset, .unset, .unset]) rfl ?_
    refine o_iloadN X0.here hx (hb hby dE0_19) rfl ?_
    refine o_iconstV X0.here hx (2 : Int32) (hb hby dE0_20) rfl ?_
    show Steps p.tables e below (s₁.setTop (mkF m 21 #[.val (.int (0 : Int32)), .val (.double (FP.l2d x0)), .second, .val (.double (FP.l2d x1)), .second, .val (.double (FP.l2d x2)), .second, .val (.double (FP.l2d y0)), .second, .val (.double (FP.l2d y1)), .second, .val (.double (FP.l2d y2)), .second, .val (.int (1 : Int32)), .unset, .unset, .unset, .unset, .unset] [(.int (2 : Int32)), (.int (0 : Int32))])) _
    refine o_icmpYes X0.here hx (pc' := 31) (hb hby dE0_21) (XT.ii_lt_t (by decide)) (by decide) (by decide) ?_
    refine o_iconstV X0.here hx (1 : Int32) (hb hby dE0_31) rfl ?_
    show Steps p.tables e below (s₁.setTop (mkF m 32 #[.val (.int (0 : Int32)), .val (.double (FP.l2d x0)), .second, .val (.double (FP.l2d x1)), .second, .val (.double (FP.l2d x2)), .second, .val (.double (FP.l2d y0)), .second, .val (.double (FP.l2d y1)), .second, .val (.double (FP.l2d y2)), .second, .val (.int (1 : Int32)), .unset, .unset, .unset, .unset, .unset] [(.int (1 : Int32))])) _
    refine o_goto X0.here hx (pc' := 36) (hb hby dE0_32) (by decide) (by decide) ?_
    refine o_istore X0.here hx (hb hby dE0_36) (l' := #[.val (.int (0 : Int32)), .val (.double (FP.l2d x0)), .second, .val (.double (FP.l2d x1)), .second, .val (.double (FP.l2d x2)), .second, .val (.double (FP.l2d y0)), .second, .val (.double (FP.l2d y1)), .second, .val (.double (FP.l2d y2)), .second, .val (.int (1 : Int32)), .val (.int (1 : Int32)), .unset, .unset, .unset, .unset]) rfl ?_
    refine o_iloadN X0.here hx (hb hby dE0_38) rfl ?_
    refine o_iconstV X0.here hx (3 : Int32) (hb hby dE0_39) rfl ?_
    show Steps p.tables e below (s₁.setTop (mkF m 40 #[.val (.int (0 : Int32)), .val (.double (FP.l2d x0)), .second, .val (.double (FP.l2d x1)), .second, .val (.double (FP.l2d x2)), .second, .val (.double (FP.l2d y0)), .second, .val (.double (FP.l2d y1)), .second, .val (.double (FP.l2d y2)), .second, .val (.int (1 : Int32)), .val (.int (1 : Int32)), .unset, .unset, .unset, .unset] [(.int (3 : Int32)), (.int (0 : Int32))])) _
    refine o_icmpYes X0.here hx (pc' := 51) (hb hby dE0_40) (XT.ii_lt_t (by decide)) (by decide) (by decide) ?_
    refine o_iconstV X0.here hx (1 : Int32) (hb hby dE0_51) rfl ?_
    show Steps p.tables e below (s₁.setTop (mkF m 52 #[.val (.int (0 : Int32)), .val (.double (FP.l2d x0)), .second, .val (.double (FP.l2d x1)), .second, .val (.double (FP.l2d x2)), .second, .val (.double (FP.l2d y0)), .second, .val (.double (FP.l2d y1)), .second, .val (.double (FP.l2d y2)), .second, .val (.int (1 : Int32)), .val (.int (1 : Int32)), .unset, .unset, .unset, .unset] [(.int (1 : Int32))])) _
    refine o_goto X0.here hx (pc' := 56) (hb hby dE0_52) (by decide) (by decide) ?_
    refine o_istore X0.here hx (hb hby dE0_56) (l' := #[.val (.int (0 : Int32)), .val (.double (FP.l2d x0)), .second, .val (.double (FP.l2d x1)), .second, .val (.double (FP.l2d x2)), .second, .val (.double (FP.l2d y0)), .second, .val (.double (FP.l2d y1)), .second, .val (.double (FP.l2d y2)), .second, .val (.int (1 : Int32)), .val (.int (1 : Int32)), .val (.int (1 : Int32)), .unset, .unset, .unset]) rfl ?_
    refine o_iloadN X0.here hx (hb hby dE0_58) rfl ?_
    refine o_iconstV X0.here hx (1 : Int32) (hb hby dE0_59) rfl ?_
    show Steps p.tables e below (s₁.setTop (mkF m 60 #[.val (.int (0 : Int32)), .val (.double (FP.l2d x0)), .second, .val (.double (FP.l2d x1)), .second, .val (.double (FP.l2d x2)), .second, .val (.double (FP.l2d y0)), .second, .val (.double (FP.l2d y1)), .second, .val (.double (FP.l2d y2)), .second, .val (.int (1 : Int32)), .val (.int (1 : Int32)), .val (.int (1 : Int32)), .unset, .unset, .unset] [(.int (1 : Int32)), (.int (0 : Int32))])) _
    refine o_icmpYes X0.here hx (pc' := 74) (hb hby dE0_60) (XT.ii_lt_t (by decide)) (by decide) (by decide) ?_
    refine o_iconstV X0.here hx (0 : Int32) (hb hby dE0_74) rfl ?_
    refine o_istore X0.here hx (hb hby dE0_75) (l' := #[.val (.int (0 : Int32)), .val (.double (FP.l2d x0)), .second, .val (.double (FP.l2d x1)), .second, .val (.double (FP.l2d x2)), .second, .val (.double (FP.l2d y0)), .second, .val (.double (FP.l2d y1)), .second, .val (.double (FP.l2d y2)), .second, .val (.int (1 : Int32)), .val (.int (1 : Int32)), .val (.int (1 : Int32)), .val (.int (0 : Int32)), .unset, .unset]) rfl ?_
    refine o_iloadN X0.here hx (hb hby dE0_77) rfl ?_
    refine o_iconstV X0.here hx (2 : Int32) (hb hby dE0_78) rfl ?_
    show Steps p.tables e below (s₁.setTop (mkF m 79 #[.val (.int (0 : Int32)), .val (.double (FP.l2d x0)), .second, .val (.double (FP.l2d x1)), .second, .val (.double (FP.l2d x2)), .second, .val (.double (FP.l2d y0)), .second, .val (.double (FP.l2d y1)), .second, .val (.double (FP.l2d y2)), .second, .val (.int (1 : Int32)), .val (.int (1 : Int32)), .val (.int (1 : Int32)), .val (.int (0 : Int32)), .unset, .unset] [(.int (2 : Int32)), (.int (0 : Int32))])) _
    refine o_icmpYes X0.here hx (pc' := 93) (hb hby dE0_79) (XT.ii_lt_t (by decide)) (by decide) (by decide) ?_
    refine o_iconstV X0.here hx (0 : Int32) (hb hby dE0_93) rfl ?_
    refine o_istore X0.here hx (hb hby dE0_94) (l' := #[.val (.int (0 : Int32)), .val (.double (FP.l2d x0)), .second, .val (.double (FP.l2d x1)), .second, .val (.double (FP.l2d x2)), .second, .val (.double (FP.l2d y0)), .second, .val (.double (FP.l2d y1)), .second, .val (.double (FP.l2d y2)), .second, .val (.int (1 : Int32)), .val (.int (1 : Int32)), .val (.int (1 : Int32)), .val (.int (0 : Int32)), .val (.int (0 : Int32)), .unset]) rfl ?_
    refine o_iloadN X0.here hx (hb hby dE0_96) rfl ?_
    refine o_iconstV X0.here hx (3 : Int32) (hb hby dE0_97) rfl ?_
    show Steps p.tables e below (s₁.setTop (mkF m 98 #[.val (.int (0 : Int32)), .val (.double (FP.l2d x0)), .second, .val (.double (FP.l2d x1)), .second, .val (.double (FP.l2d x2)), .second, .val (.double (FP.l2d y0)), .second, .val (.double (FP.l2d y1)), .second, .val (.double (FP.l2d y2)), .second, .val (.int (1 : Int32)), .val (.int (1 : Int32)), .val (.int (1 : Int32)), .val (.int (0 : Int32)), .val (.int (0 : Int32)), .unset] [(.int (3 : Int32)), (.int (0 : Int32))])) _
    refine o_icmpYes X0.here hx (pc' := 113) (hb hby dE0_98) (XT.ii_lt_t (by decide)) (by decide) (by decide) ?_
    refine o_iconstV X0.here hx (0 : Int32) (hb hby dE0_113) rfl ?_
    refine o_istore X0.here hx (hb hby dE0_114) (l' := #[.val (.int (0 : Int32)), .val (.double (FP.l2d x0)), .second, .val (.double (FP.l2d x1)), .second, .val (.double (FP.l2d x2)), .second, .val (.double (FP.l2d y0)), .second, .val (.double (FP.l2d y1)), .second, .val (.double (FP.l2d y2)), .second, .val (.int (1 : Int32)), .val (.int (1 : Int32)), .val (.int (1 : Int32)), .val (.int (0 : Int32)), .val (.int (0 : Int32)), .val (.int (0 : Int32))]) rfl ?_
    refine o_iload X0.here hx (hb hby dE0_116) rfl ?_
    show Steps p.tables e below (s₁.setTop (mkF m 118 #[.val (.int (0 : Int32)), .val (.double (FP.l2d x0)), .second, .val (.double (FP.l2d x1)), .second, .val (.double (FP.l2d x2)), .second, .val (.double (FP.l2d y0)), .second, .val (.double (FP.l2d y1)), .second, .val (.double (FP.l2d y2)), .second, .val (.int (1 : Int32)), .val (.int (1 : Int32)), .val (.int (1 : Int32)), .val (.int (0 : Int32)), .val (.int (0 : Int32)), .val (.int (0 : Int32))] [(.int (1 : Int32))])) _
    refine o_ifNo X0.here hx (hb hby dE0_118) (by decide) ?_
    refine o_iload X0.here hx (hb hby dE0_121) rfl ?_
    show Steps p.tables e below (s₁.setTop (mkF m 123 #[.val (.int (0 : Int32)), .val (.double (FP.l2d x0)), .second, .val (.double (FP.l2d x1)), .second, .val (.double (FP.l2d x2)), .second, .val (.double (FP.l2d y0)), .second, .val (.double (FP.l2d y1)), .second, .val (.double (FP.l2d y2)), .second, .val (.int (1 : Int32)), .val (.int (1 : Int32)), .val (.int (1 : Int32)), .val (.int (0 : Int32)), .val (.int (0 : Int32)), .val (.int (0 : Int32))] [(.int (1 : Int32))])) _
    refine o_ifNo X0.here hx (hb hby dE0_123) (by decide) ?_
    refine o_iload X0.here hx (hb hby dE0_126) rfl ?_
    show Steps p.tables e below (s₁.setTop (mkF m 128 #[.val (.int (0 : Int32)), .val (.double (FP.l2d x0)), .second, .val (.double (FP.l2d x1)), .second, .val (.double (FP.l2d x2)), .second, .val (.double (FP.l2d y0)), .second, .val (.double (FP.l2d y1)), .second, .val (.double (FP.l2d y2)), .second, .val (.int (1 : Int32)), .val (.int (1 : Int32)), .val (.int (1 : Int32)), .val (.int (0 : Int32)), .val (.int (0 : Int32)), .val (.int (0 : Int32))] [(.int (1 : Int32))])) _
    refine o_ifNo X0.here hx (hb hby dE0_128) (by decide) ?_
    refine o_iload X0.here hx (hb hby dE0_131) rfl ?_
    show Steps p.tables e below (s₁.setTop (mkF m 133 #[.val (.int (0 : Int32)), .val (.double (FP.l2d x0)), .second, .val (.double (FP.l2d x1)), .second, .val (.double (FP.l2d x2)), .second, .val (.double (FP.l2d y0)), .second, .val (.double (FP.l2d y1)), .second, .val (.double (FP.l2d y2)), .second, .val (.int (1 : Int32)), .val (.int (1 : Int32)), .val (.int (1 : Int32)), .val (.int (0 : Int32)), .val (.int (0 : Int32)), .val (.int (0 : Int32))] [(.int (0 : Int32))])) _
    refine o_ifNo X0.here hx (hb hby dE0_133) (by decide) ?_
    refine o_iload X0.here hx (hb hby dE0_136) rfl ?_
    show Steps p.tables e below (s₁.setTop (mkF m 138 #[.val (.int (0 : Int32)), .val (.double (FP.l2d x0)), .second, .val (.double (FP.l2d x1)), .second, .val (.double (FP.l2d x2)), .second, .val (.double (FP.l2d y0)), .second, .val (.double (FP.l2d y1)), .second, .val (.double (FP.l2d y2)), .second, .val (.int (1 : Int32)), .val (.int (1 : Int32)), .val (.int (1 : Int32)), .val (.int (0 : Int32)), .val (.int (0 : Int32)), .val (.int (0 : Int32))] [(.int (0 : Int32))])) _
    refine o_ifNo X0.here hx (hb hby dE0_138) (by decide) ?_
    refine o_iload X0.here hx (hb hby dE0_141) rfl ?_
    show Steps p.tables e below (s₁.setTop (mkF m 143 #[.val (.int (0 : Int32)), .val (.double (FP.l2d x0)), .second, .val (.double (FP.l2d x1)), .second, .val (.double (FP.l2d x2)), .second, .val (.double (FP.l2d y0)), .second, .val (.double (FP.l2d y1)), .second, .val (.double (FP.l2d y2)), .second, .val (.int (1 : Int32)), .val (.int (1 : Int32)), .val (.int (1 : Int32)), .val (.int (0 : Int32)), .val (.int (0 : Int32)), .val (.int (0 : Int32))] [(.int (0 : Int32))])) _
    refine o_ifYes X0.here hx (pc' := 150) (hb hby dE0_143) (by decide) (by decide) (by decide) ?_
    refine o_iconstV X0.here hx (0 : Int32) (hb hby dE0_150) rfl ?_
    exact k
  obtain ⟨fs, hr, hrun, hended, hW, hsame⟩ := X0.leave (v := some (.int (0 : Int32))) (fun h => by rw [Bd.returns] at h; cases h)
  refine ⟨_, _, cn1 _ ?_, hrun, hended, _, _, rfl, ?_, ⟨_, rfl⟩, hW, hsame.mono (by decide) (by decide)⟩
  · exact retN X0 hx (t := .boolean) Bd.returns (by simp) (hb hby dE0_151) hr
  · show QE0 Z x0 x1 x2 y0 y1 y2 h0 n0 _ s₁.heap _
    rw [e0]
    exact ⟨(by simp [own_beats]), N0, rfl⟩

theorem dB1_0 : decode prog_48_method_10_code 0 = .ok (.iconst 0, 1) := by decide +kernel
theorem dB1_1 : decode prog_48_method_10_code 1 = .ok (.istore_n 2, 1) := by decide +kernel
theorem dB1_2 : decode prog_48_method_10_code 2 = .ok (.iconst 0, 1) := by decide +kernel
theorem dB1_3 : decode prog_48_method_10_code 3 = .ok (.istore_n 3, 1) := by decide +kernel
theorem dB1_4 : decode prog_48_method_10_code 4 = .ok (.iload_n 3, 1) := by decide +kernel
theorem dB1_5 : decode prog_48_method_10_code 5 = .ok (.aload_n 0, 1) := by decide +kernel
theorem dB1_6 : decode prog_48_method_10_code 6 = .ok (.arraylength, 1) := by decide +kernel
theorem dB1_7 : decode prog_48_method_10_code 7 = .ok (.if_icmp .ge 33, 3) := by decide +kernel
theorem dB1_10 : decode prog_48_method_10_code 10 = .ok (.aload_n 0, 1) := by decide +kernel
theorem dB1_11 : decode prog_48_method_10_code 11 = .ok (.iload_n 3, 1) := by decide +kernel
theorem dB1_12 : decode prog_48_method_10_code 12 = .ok (.daload, 1) := by decide +kernel
theorem dB1_13 : decode prog_48_method_10_code 13 = .ok (.aload_n 1, 1) := by decide +kernel
theorem dB1_14 : decode prog_48_method_10_code 14 = .ok (.iload_n 3, 1) := by decide +kernel
theorem dB1_15 : decode prog_48_method_10_code 15 = .ok (.daload, 1) := by decide +kernel
theorem dB1_16 : decode prog_48_method_10_code 16 = .ok (.dcmp .l, 1) := by decide +kernel
theorem dB1_17 : decode prog_48_method_10_code 17 = .ok (.ifCond .le 5, 3) := by decide +kernel
theorem dB1_20 : decode prog_48_method_10_code 20 = .ok (.iconst 0, 1) := by decide +kernel
theorem dB1_21 : decode prog_48_method_10_code 21 = .ok (.ireturn, 1) := by decide +kernel
theorem dB1_22 : decode prog_48_method_10_code 22 = .ok (.aload_n 0, 1) := by decide +kernel
theorem dB1_23 : decode prog_48_method_10_code 23 = .ok (.iload_n 3, 1) := by decide +kernel
theorem dB1_24 : decode prog_48_method_10_code 24 = .ok (.daload, 1) := by decide +kernel
theorem dB1_25 : decode prog_48_method_10_code 25 = .ok (.aload_n 1, 1) := by decide +kernel
theorem dB1_26 : decode prog_48_method_10_code 26 = .ok (.iload_n 3, 1) := by decide +kernel
theorem dB1_27 : decode prog_48_method_10_code 27 = .ok (.daload, 1) := by decide +kernel
theorem dB1_28 : decode prog_48_method_10_code 28 = .ok (.dcmp .g, 1) := by decide +kernel
theorem dB1_29 : decode prog_48_method_10_code 29 = .ok (.ifCond .ge 5, 3) := by decide +kernel
theorem dB1_32 : decode prog_48_method_10_code 32 = .ok (.iconst 1, 1) := by decide +kernel
theorem dB1_33 : decode prog_48_method_10_code 33 = .ok (.istore_n 2, 1) := by decide +kernel
theorem dB1_34 : decode prog_48_method_10_code 34 = .ok (.iinc 3 1, 3) := by decide +kernel
theorem dB1_37 : decode prog_48_method_10_code 37 = .ok (.goto (-33), 3) := by decide +kernel
theorem dB1_40 : decode prog_48_method_10_code 40 = .ok (.iload_n 2, 1) := by decide +kernel
theorem dB1_41 : decode prog_48_method_10_code 41 = .ok (.ireturn, 1) := by decide +kernel
theorem efB1 (m : MethodId) (x0 : Addr) (x1 : Addr) : entryFrame m #[(.ref x0), (.ref x1)] 4 = (mkF m 0 #[.val (.ref x0), .val (.ref x1), .unset, .unset] []) := by first | (simp [entryFrame, mkF, argsToLocals, Value.category]; done) | rfl
def QB1 (Z : State) (a1 : Addr) (a2 : Addr) (k1 : ClassId) (k2 : ClassId) (w0 : Int64) (v0 : Int64) (h0 : Heap) (n0 : Nat) (v : Option Value) (h : Heap) (L : List Loc) : Prop := v = some (.int (if own_beats [(w0, v0)] false = true then (1 : Int32) else 0)) ∧ Fr n0 L ∧ h = h0
set_option maxRecDepth 65536 in
set_option maxHeartbeats 40000000 in
theorem rmB1 (l : Launch) (Z : State) (a0 : Array Value) (hw : ∀ d ∈ tables_1, d.before a0 Z = true) (ws : List Jvm.Cond) (a1 : Addr) (a2 : Addr) (k1 : ClassId) (k2 : ClassId) (w0 : Int64) (v0 : Int64) (h0 : Heap) (n0 : Nat) (Z0 : n0 ≤ h0.size) (H0 : OBd 2147483648 w0) (H1 : OBd 2147483648 v0) (pr2 : Arv Z h0 a1 k1 .double (1 : Int32) [(.double (FP.l2d w0))] (.double (0 : UInt64))) (pr3 : Arv Z h0 a2 k2 .double (1 : Int32) [(.double (FP.l2d v0))] (.double (0 : UInt64))) :
    MetFree l (⟨"com/example/pareto_loom/paretoloom/model/NondominatedSet", "beats", "([D[D)Z"⟩ : MethodName) (head1 (Jvm.Cond.code (⟨"com/example/pareto_loom/paretoloom/model/NondominatedSet", "beats", "([D[D)Z"⟩ : MethodName) prog_48_method_10_code 4 (some .boolean) :: ws) ({ frames := 0, cells := 0, slots := 0, locals := 0 } : Room)) (fun a U => a = #[(.ref a1), (.ref a2)] ∧ Z.Warmed39 U.vm ∧ U.heap = h0) (fun _ _ _ _ _ => True) (fun _ U o U' => ∃ v L, o = .returned v ∧ QB1 Z a1 a2 k1 k2 w0 v0 h0 n0 v U'.heap L ∧ FrameEnd U o U' L ({ frames := 0, cells := 0, slots := 0, locals := 0 } : Room).cells ({ frames := 0, cells := 0, slots := 0, locals := 0 } : Room).slots) := by
  refine MetFree.of_bodySF (plainFor_of_name pn_com_example_pareto_loom_paretoloom_model_NondominatedSet) hisR ?_
  intro p e s m args below meth c s₁ Bd hml0 hP hK
  obtain ⟨rfl, hZ, hh⟩ := hP
  have hx := Bd.exec
  have hby := Bd.bytes
  have hml : c.maxLocals = 4 := hml0
  have hown : s.vm.findClass "com/example/pareto_loom/paretoloom/model/NondominatedSet" = some m.cls := findClass_of_methodNamed Bd.named
  have hnm := (name_of_methodNamed Bd.named Bd.method).1
  have X0 : Stand p l e ({ frames := 0, cells := 0, slots := 0, locals := 0 } : Room) s m #[(.ref a1), (.ref a2)] below meth c s₁ [] 0 0 := Stand.of_body Bd
  have e0 : s₁.heap = h0 := by rw [← hh, Bd.state]; rfl
  have N0 := Fr.nil n0
  have pre0 : ∀ t, Steps p.tables e below (s₁.setTop (mkF m 0 #[.val (.ref a1), .val (.ref a2), .unset, .unset] [])) t → Steps p.tables e below (s₁.setTop (entryFrame m #[(.ref a1), (.ref a2)] 4)) t := fun t k => castTop (efB1 m a1 a2) k
  have cn1 : ∀ t, Steps p.tables e below (s₁.setTop (mkF m 6 #[.val (.ref a1), .val (.ref a2), .val (.int (0 : Int32)), .val (.int (0 : Int32))] [(.ref a1), (.int (0 : Int32))])) t → Steps p.tables e below (s₁.setTop (entryFrame m #[(.ref a1), (.ref a2)] 4)) t := by
    intro t k
    refine pre0 t ?_
    refine o_iconstV X0.here hx (0 : Int32) (hb hby dB1_0) rfl ?_
    refine o_istoreN X0.here hx (hb hby dB1_1) (l' := #[.val (.ref a1), .val (.ref a2), .val (.int (0 : Int32)), .unset]) rfl ?_
    refine o_iconstV X0.here hx (0 : Int32) (hb hby dB1_2) rfl ?_
    refine o_istoreN X0.here hx (hb hby dB1_3) (l' := #[.val (.ref a1), .val (.ref a2), .val (.int (0 : Int32)), .val (.int (0 : Int32))]) rfl ?_
    refine o_iloadN X0.here hx (hb hby dB1_4) rfl ?_
    refine o_aloadN X0.here hx (hb hby dB1_5) rfl rfl ?_
    exact k
  obtain ⟨cl2, Ar2, qk2, Sz2, Mz2, Hh2, Gg2⟩ := pr2
  have pr2 : Arv Z h0 a1 k1 .double (1 : Int32) [(.double (FP.l2d w0))] (.double (0 : UInt64)) := ⟨cl2, Ar2, qk2, Sz2, Mz2, Hh2, Gg2⟩
  have cn3 : ∀ t, Steps p.tables e below (s₁.setTop (mkF m 12 #[.val (.ref a1), .val (.ref a2), .val (.int (0 : Int32)), .val (.int (0 : Int32))] [(.int (0 : Int32)), (.ref a1)])) t → Steps p.tables e below (s₁.setTop (entryFrame m #[(.ref a1), (.ref a2)] 4)) t := by
    intro t k
    refine cn1 t ?_
    refine X0.arraylength hx (by rw [e0]; exact Ar2.1) (State.isArrayOf_alike hZ.alike Ar2.2.1) (g := (mkF m 6 #[.val (.ref a1), .val (.ref a2), .val (.int (0 : Int32)), .val (.int (0 : Int32))] [(.ref a1), (.int (0 : Int32))])) rfl rfl (hb hby dB1_6) _ ?_
    rw [len_of Sz2 Mz2]
    show Steps p.tables e below (s₁.setTop (mkF m 7 #[.val (.ref a1), .val (.ref a2), .val (.int (0 : Int32)), .val (.int (0 : Int32))] [(.int (1 : Int32)), (.int (0 : Int32))])) _
    show Steps p.tables e below (s₁.setTop (mkF m 7 #[.val (.ref a1), .val (.ref a2), .val (.int (0 : Int32)), .val (.int (0 : Int32))] [(.int (1 : Int32)), (.int (0 : Int32))])) _
    refine o_icmpNo X0.here hx (hb hby dB1_7) (XT.ii_ge_f (by decide)) ?_
    refine o_aloadN X0.here hx (hb hby dB1_10) rfl rfl ?_
    refine o_iloadN X0.here hx (hb hby dB1_11) rfl ?_
    exact k
  obtain ⟨cl4, Ar4, qk4, Sz4, Mz4, Hh4, Gg4⟩ := pr2
  have pr2 : Arv Z h0 a1 k1 .double (1 : Int32) [(.double (FP.l2d w0))] (.double (0 : UInt64)) := ⟨cl4, Ar4, qk4, Sz4, Mz4, Hh4, Gg4⟩
  have cn5 : ∀ t, Steps p.tables e below (s₁.setTop (mkF m 15 #[.val (.ref a1), .val (.ref a2), .val (.int (0 : Int32)), .val (.int (0 : Int32))] [(.int (0 : Int32)), (.ref a2), (.double (FP.l2d w0))])) t → Steps p.tables e below (s₁.setTop (entryFrame m #[(.ref a1), (.ref a2)] 4)) t := by
    intro t k
    refine cn3 t ?_
    refine X0.daload hx (j := (0 : Int32)) (v := (.double (FP.l2d w0))) (by rw [e0]; exact Ar4.1) (State.isArrayOf_alike hZ.alike Ar4.2.1) Ar4.2.2 (inb_of Sz4 ⟨(by decide), (by decide)⟩) (Hh4.at (inb_of Sz4 ⟨(by decide), (by decide)⟩) rfl) (g := (mkF m 12 #[.val (.ref a1), .val (.ref a2), .val (.int (0 : Int32)), .val (.int (0 : Int32))] [(.int (0 : Int32)), (.ref a1)])) rfl rfl (hb hby dB1_12) _ ?_
    show Steps p.tables e below (s₁.setTop (mkF m 13 #[.val (.ref a1), .val (.ref a2), .val (.int (0 : Int32)), .val (.int (0 : Int32))] [(.double (FP.l2d w0))])) _
    refine o_aloadN X0.here hx (hb hby dB1_13) rfl rfl ?_
    refine o_iloadN X0.here hx (hb hby dB1_14) rfl ?_
    exact k
  obtain ⟨cl6, Ar6, qk6, Sz6, Mz6, Hh6, Gg6⟩ := pr3
  have pr3 : Arv Z h0 a2 k2 .double (1 : Int32) [(.double (FP.l2d v0))] (.double (0 : UInt64)) := ⟨cl6, Ar6, qk6, Sz6, Mz6, Hh6, Gg6⟩
  have cn7 : ∀ t, Steps p.tables e below (s₁.setTop (mkF m 17 #[.val (.ref a1), .val (.ref a2), .val (.int (0 : Int32)), .val (.int (0 : Int32))] [(.int (XT.cmpL w0 v0))])) t → Steps p.tables e below (s₁.setTop (entryFrame m #[(.ref a1), (.ref a2)] 4)) t := by
    intro t k
    refine cn5 t ?_
    refine X0.daload hx (j := (0 : Int32)) (v := (.double (FP.l2d v0))) (by rw [e0]; exact Ar6.1) (State.isArrayOf_alike hZ.alike Ar6.2.1) Ar6.2.2 (inb_of Sz6 ⟨(by decide), (by decide)⟩) (Hh6.at (inb_of Sz6 ⟨(by decide), (by decide)⟩) rfl) (g := (mkF m 15 #[.val (.ref a1), .val (.ref a2), .val (.int (0 : Int32)), .val (.int (0 : Int32))] [(.int (0 : Int32)), (.ref a2), (.double (FP.l2d w0))])) rfl rfl (hb hby dB1_15) _ ?_
    show Steps p.tables e below (s₁.setTop (mkF m 16 #[.val (.ref a1), .val (.ref a2), .val (.int (0 : Int32)), .val (.int (0 : Int32))] [(.double (FP.l2d v0)), (.double (FP.l2d w0))])) _
    refine o_dcmpS X0.here hx (hb hby dB1_16) (v := XT.cmpL w0 v0) (dcmpV_w (own_bd_b53 H0 (by decide)) (own_bd_b53 H1 (by decide)) _) ?_
    exact k
  by_cases h17_8 : v0 < w0
  · -- pc 17 not taken
    have cn9 : ∀ t, Steps p.tables e below (s₁.setTop (mkF m 21 #[.val (.ref a1), .val (.ref a2), .val (.int (0 : Int32)), .val (.int (0 : Int32))] [(.int (0 : Int32))])) t → Steps p.tables e below (s₁.setTop (entryFrame m #[(.ref a1), (.ref a2)] 4)) t := by
      intro t k
      refine cn7 t ?_
      refine o_ifNo X0.here hx (hb hby dB1_17) (XT.ll_le_f h17_8) ?_
      refine o_iconstV X0.here hx (0 : Int32) (hb hby dB1_20) rfl ?_
      exact k
    obtain ⟨fs, hr, hrun, hended, hW, hsame⟩ := X0.leave (v := some (.int (0 : Int32))) (fun h => by rw [Bd.returns] at h; cases h)
    refine ⟨_, _, cn9 _ ?_, hrun, hended, _, _, rfl, ?_, ⟨_, rfl⟩, hW, hsame.mono (by decide) (by decide)⟩
    · exact retN X0 hx (t := .boolean) Bd.returns (by simp) (hb hby dB1_21) hr
    · show QB1 Z a1 a2 k1 k2 w0 v0 h0 n0 _ s₁.heap _
      rw [e0]
      exact ⟨(by simp [own_beats, h17_8, own_asymm h17_8]), N0, rfl⟩
  · -- pc 17 taken
    have cn10 : ∀ t, Steps p.tables e below (s₁.setTop (mkF m 24 #[.val (.ref a1), .val (.ref a2), .val (.int (0 : Int32)), .val (.int (0 : Int32))] [(.int (0 : Int32)), (.ref a1)])) t → Steps p.tables e below (s₁.setTop (entryFrame m #[(.ref a1), (.ref a2)] 4)) t := by
      intro t k
      refine cn7 t ?_
      refine o_ifYes X0.here hx (pc' := 22) (hb hby dB1_17) (XT.ll_le_t h17_8) (by decide) (by decide) ?_
      refine o_aloadN X0.here hx (hb hby dB1_22) rfl rfl ?_
      refine o_iloadN X0.here hx (hb hby dB1_23) rfl ?_
      exact k
    obtain ⟨cl11, Ar11, qk11, Sz11, Mz11, Hh11, Gg11⟩ := pr2
    have pr2 : Arv Z h0 a1 k1 .double (1 : Int32) [(.double (FP.l2d w0))] (.double (0 : UInt64)) := ⟨cl11, Ar11, qk11, Sz11, Mz11, Hh11, Gg11⟩
    have cn12 : ∀ t, Steps p.tables e below (s₁.setTop (mkF m 27 #[.val (.ref a1), .val (.ref a2), .val (.int (0 : Int32)), .val (.int (0 : Int32))] [(.int (0 : Int32)), (.ref a2), (.double (FP.l2d w0))])) t → Steps p.tables e below (s₁.setTop (entryFrame m #[(.ref a1), (.ref a2)] 4)) t := by
      intro t k
      refine cn10 t ?_
      refine X0.daload hx (j := (0 : Int32)) (v := (.double (FP.l2d w0))) (by rw [e0]; exact Ar11.1) (State.isArrayOf_alike hZ.alike Ar11.2.1) Ar11.2.2 (inb_of Sz11 ⟨(by decide), (by decide)⟩) (Hh11.at (inb_of Sz11 ⟨(by decide), (by decide)⟩) rfl) (g := (mkF m 24 #[.val (.ref a1), .val (.ref a2), .val (.int (0 : Int32)), .val (.int (0 : Int32))] [(.int (0 : Int32)), (.ref a1)])) rfl rfl (hb hby dB1_24) _ ?_
      show Steps p.tables e below (s₁.setTop (mkF m 25 #[.val (.ref a1), .val (.ref a2), .val (.int (0 : Int32)), .val (.int (0 : Int32))] [(.double (FP.l2d w0))])) _
      refine o_aloadN X0.here hx (hb hby dB1_25) rfl rfl ?_
      refine o_iloadN X0.here hx (hb hby dB1_26) rfl ?_
      exact k
    obtain ⟨cl13, Ar13, qk13, Sz13, Mz13, Hh13, Gg13⟩ := pr3
    have pr3 : Arv Z h0 a2 k2 .double (1 : Int32) [(.double (FP.l2d v0))] (.double (0 : UInt64)) := ⟨cl13, Ar13, qk13, Sz13, Mz13, Hh13, Gg13⟩
    have cn14 : ∀ t, Steps p.tables e below (s₁.setTop (mkF m 29 #[.val (.ref a1), .val (.ref a2), .val (.int (0 : Int32)), .val (.int (0 : Int32))] [(.int (XT.cmpL w0 v0))])) t → Steps p.tables e below (s₁.setTop (entryFrame m #[(.ref a1), (.ref a2)] 4)) t := by
      intro t k
      refine cn12 t ?_
      refine X0.daload hx (j := (0 : Int32)) (v := (.double (FP.l2d v0))) (by rw [e0]; exact Ar13.1) (State.isArrayOf_alike hZ.alike Ar13.2.1) Ar13.2.2 (inb_of Sz13 ⟨(by decide), (by decide)⟩) (Hh13.at (inb_of Sz13 ⟨(by decide), (by decide)⟩) rfl) (g := (mkF m 27 #[.val (.ref a1), .val (.ref a2), .val (.int (0 : Int32)), .val (.int (0 : Int32))] [(.int (0 : Int32)), (.ref a2), (.double (FP.l2d w0))])) rfl rfl (hb hby dB1_27) _ ?_
      show Steps p.tables e below (s₁.setTop (mkF m 28 #[.val (.ref a1), .val (.ref a2), .val (.int (0 : Int32)), .val (.int (0 : Int32))] [(.double (FP.l2d v0)), (.double (FP.l2d w0))])) _
      refine o_dcmpS X0.here hx (hb hby dB1_28) (v := XT.cmpL w0 v0) (dcmpV_w (own_bd_b53 H0 (by decide)) (own_bd_b53 H1 (by decide)) _) ?_
      exact k
    by_cases h29_15 : w0 < v0
    · -- pc 29 not taken
      have cn16 : ∀ t, Steps p.tables e below (s₁.setTop (mkF m 6 #[.val (.ref a1), .val (.ref a2), .val (.int (1 : Int32)), .val (.int (1 : Int32))] [(.ref a1), (.int (1 : Int32))])) t → Steps p.tables e below (s₁.setTop (entryFrame m #[(.ref a1), (.ref a2)] 4)) t := by
        intro t k
        refine cn14 t ?_
        refine o_ifNo X0.here hx (hb hby dB1_29) (XT.ll_ge_f h29_15) ?_
        refine o_iconstV X0.here hx (1 : Int32) (hb hby dB1_32) rfl ?_
        refine o_istoreN X0.here hx (hb hby dB1_33) (l' := #[.val (.ref a1), .val (.ref a2), .val (.int (1 : Int32)), .val (.int (0 : Int32))]) rfl ?_
        refine o_iincV X0.here hx (1 : Int32) (hb hby dB1_34) rfl rfl (l' := #[.val (.ref a1), .val (.ref a2), .val (.int (1 : Int32)), .val (.int ((0 : Int32) + (1 : Int32)))]) rfl ?_
        show Steps p.tables e below (s₁.setTop (mkF m 37 #[.val (.ref a1), .val (.ref a2), .val (.int (1 : Int32)), .val (.int (1 : Int32))] [])) _
        show Steps p.tables e below (s₁.setTop (mkF m 37 #[.val (.ref a1), .val (.ref a2), .val (.int (1 : Int32)), .val (.int (1 : Int32))] [])) _
        refine o_goto X0.here hx (pc' := 4) (hb hby dB1_37) (by decide) (by decide) ?_
        refine o_iloadN X0.here hx (hb hby dB1_4) rfl ?_
        refine o_aloadN X0.here hx (hb hby dB1_5) rfl rfl ?_
        exact k
      obtain ⟨cl17, Ar17, qk17, Sz17, Mz17, Hh17, Gg17⟩ := pr2
      have pr2 : Arv Z h0 a1 k1 .double (1 : Int32) [(.double (FP.l2d w0))] (.double (0 : UInt64)) := ⟨cl17, Ar17, qk17, Sz17, Mz17, Hh17, Gg17⟩
      have cn18 : ∀ t, Steps p.tables e below (s₁.setTop (mkF m 41 #[.val (.ref a1), .val (.ref a2), .val (.int (1 : Int32)), .val (.int (1 : Int32))] [(.int (1 : Int32))])) t → Steps p.tables e below (s₁.setTop (entryFrame m #[(.ref a1), (.ref a2)] 4)) t := by
        intro t k
        refine cn16 t ?_
        refine X0.arraylength hx (by rw [e0]; exact Ar17.1) (State.isArrayOf_alike hZ.alike Ar17.2.1) (g := (mkF m 6 #[.val (.ref a1), .val (.ref a2), .val (.int (1 : Int32)), .val (.int (1 : Int32))] [(.ref a1), (.int (1 : Int32))])) rfl rfl (hb hby dB1_6) _ ?_
        rw [len_of Sz17 Mz17]
        show Steps p.tables e below (s₁.setTop (mkF m 7 #[.val (.ref a1), .val (.ref a2), .val (.int (1 : Int32)), .val (.int (1 : Int32))] [(.int (1 : Int32)), (.int (1 : Int32))])) _
        show Steps p.tables e below (s₁.setTop (mkF m 7 #[.val (.ref a1), .val (.ref a2), .val (.int (1 : Int32)), .val (.int (1 : Int32))] [(.int (1 : Int32)), (.int (1 : Int32))])) _
        refine o_icmpYes X0.here hx (pc' := 40) (hb hby dB1_7) (XT.ii_ge_t (by decide)) (by decide) (by decide) ?_
        refine o_iloadN X0.here hx (hb hby dB1_40) rfl ?_
        exact k
      obtain ⟨fs, hr, hrun, hended, hW, hsame⟩ := X0.leave (v := some (.int (1 : Int32))) (fun h => by rw [Bd.returns] at h; cases h)
      refine ⟨_, _, cn18 _ ?_, hrun, hended, _, _, rfl, ?_, ⟨_, rfl⟩, hW, hsame.mono (by decide) (by decide)⟩
      · exact retN X0 hx (t := .boolean) Bd.returns (by simp) (hb hby dB1_41) hr
      · show QB1 Z a1 a2 k1 k2 w0 v0 h0 n0 _ s₁.heap _
        rw [e0]
        exact ⟨(by simp [own_beats, h17_8, h29_15, own_asymm h29_15]), N0, rfl⟩
    · -- pc 29 taken
      have cn19 : ∀ t, Steps p.tables e below (s₁.setTop (mkF m 6 #[.val (.ref a1), .val (.ref a2), .val (.int (0 : Int32)), .val (.int (1 : Int32))] [(.ref a1), (.int (1 : Int32))])) t → Steps p.tables e below (s₁.setTop (entryFrame m #[(.ref a1), (.ref a2)] 4)) t := by
        intro t k
        refine cn14 t ?_
        refine o_ifYes X0.here hx (pc' := 34) (hb hby dB1_29) (XT.ll_ge_t h29_15) (by decide) (by decide) ?_
        refine o_iincV X0.here hx (1 : Int32) (hb hby dB1_34) rfl rfl (l' := #[.val (.ref a1), .val (.ref a2), .val (.int (0 : Int32)), .val (.int ((0 : Int32) + (1 : Int32)))]) rfl ?_
        show Steps p.tables e below (s₁.setTop (mkF m 37 #[.val (.ref a1), .val (.ref a2), .val (.int (0 : Int32)), .val (.int (1 : Int32))] [])) _
        show Steps p.tables e below (s₁.setTop (mkF m 37 #[.val (.ref a1), .val (.ref a2), .val (.int (0 : Int32)), .val (.int (1 : Int32))] [])) _
        refine o_goto X0.here hx (pc' := 4) (hb hby dB1_37) (by decide) (by decide) ?_
        refine o_iloadN X0.here hx (hb hby dB1_4) rfl ?_
        refine o_aloadN X0.here hx (hb hby dB1_5) rfl rfl ?_
        exact k
      obtain ⟨cl20, Ar20, qk20, Sz20, Mz20, Hh20, Gg20⟩ := pr2
      have pr2 : Arv Z h0 a1 k1 .double (1 : Int32) [(.double (FP.l2d w0))] (.double (0 : UInt64)) := ⟨cl20, Ar20, qk20, Sz20, Mz20, Hh20, Gg20⟩
      have cn21 : ∀ t, Steps p.tables e below (s₁.setTop (mkF m 41 #[.val (.ref a1), .val (.ref a2), .val (.int (0 : Int32)), .val (.int (1 : Int32))] [(.int (0 : Int32))])) t → Steps p.tables e below (s₁.setTop (entryFrame m #[(.ref a1), (.ref a2)] 4)) t := by
        intro t k
        refine cn19 t ?_
        refine X0.arraylength hx (by rw [e0]; exact Ar20.1) (State.isArrayOf_alike hZ.alike Ar20.2.1) (g := (mkF m 6 #[.val (.ref a1), .val (.ref a2), .val (.int (0 : Int32)), .val (.int (1 : Int32))] [(.ref a1), (.int (1 : Int32))])) rfl rfl (hb hby dB1_6) _ ?_
        rw [len_of Sz20 Mz20]
        show Steps p.tables e below (s₁.setTop (mkF m 7 #[.val (.ref a1), .val (.ref a2), .val (.int (0 : Int32)), .val (.int (1 : Int32))] [(.int (1 : Int32)), (.int (1 : Int32))])) _
        show Steps p.tables e below (s₁.setTop (mkF m 7 #[.val (.ref a1), .val (.ref a2), .val (.int (0 : Int32)), .val (.int (1 : Int32))] [(.int (1 : Int32)), (.int (1 : Int32))])) _
        refine o_icmpYes X0.here hx (pc' := 40) (hb hby dB1_7) (XT.ii_ge_t (by decide)) (by decide) (by decide) ?_
        refine o_iloadN X0.here hx (hb hby dB1_40) rfl ?_
        exact k
      obtain ⟨fs, hr, hrun, hended, hW, hsame⟩ := X0.leave (v := some (.int (0 : Int32))) (fun h => by rw [Bd.returns] at h; cases h)
      refine ⟨_, _, cn21 _ ?_, hrun, hended, _, _, rfl, ?_, ⟨_, rfl⟩, hW, hsame.mono (by decide) (by decide)⟩
      · exact retN X0 hx (t := .boolean) Bd.returns (by simp) (hb hby dB1_41) hr
      · show QB1 Z a1 a2 k1 k2 w0 v0 h0 n0 _ s₁.heap _
        rw [e0]
        exact ⟨(by simp [own_beats, h17_8, h29_15]), N0, rfl⟩

theorem dE1_0 : decode method_3_code 0 = .ok (.iload_n 0, 1) := by decide +kernel
theorem dE1_1 : decode method_3_code 1 = .ok (.iconst 1, 1) := by decide +kernel
theorem dE1_2 : decode method_3_code 2 = .ok (.if_icmp .lt 10, 3) := by decide +kernel
theorem dE1_5 : decode method_3_code 5 = .ok (.dload_n 1, 1) := by decide +kernel
theorem dE1_6 : decode method_3_code 6 = .ok (.dload 7, 2) := by decide +kernel
theorem dE1_8 : decode method_3_code 8 = .ok (.dcmp .g, 1) := by decide +kernel
theorem dE1_9 : decode method_3_code 9 = .ok (.ifCond .gt 7, 3) := by decide +kernel
theorem dE1_12 : decode method_3_code 12 = .ok (.iconst 1, 1) := by decide +kernel
theorem dE1_13 : decode method_3_code 13 = .ok (.goto 4, 3) := by decide +kernel
theorem dE1_16 : decode method_3_code 16 = .ok (.iconst 0, 1) := by decide +kernel
theorem dE1_17 : decode method_3_code 17 = .ok (.istore 13, 2) := by decide +kernel
theorem dE1_19 : decode method_3_code 19 = .ok (.iload_n 0, 1) := by decide +kernel
theorem dE1_20 : decode method_3_code 20 = .ok (.iconst 2, 1) := by decide +kernel
theorem dE1_21 : decode method_3_code 21 = .ok (.if_icmp .lt 10, 3) := by decide +kernel
theorem dE1_31 : decode method_3_code 31 = .ok (.iconst 1, 1) := by decide +kernel
theorem dE1_32 : decode method_3_code 32 = .ok (.goto 4, 3) := by decide +kernel
theorem dE1_36 : decode method_3_code 36 = .ok (.istore 14, 2) := by decide +kernel
theorem dE1_38 : decode method_3_code 38 = .ok (.iload_n 0, 1) := by decide +kernel
theorem dE1_39 : decode method_3_code 39 = .ok (.iconst 3, 1) := by decide +kernel
theorem dE1_40 : decode method_3_code 40 = .ok (.if_icmp .lt 11, 3) := by decide +kernel
theorem dE1_51 : decode method_3_code 51 = .ok (.iconst 1, 1) := by decide +kernel
theorem dE1_52 : decode method_3_code 52 = .ok (.goto 4, 3) := by decide +kernel
theorem dE1_56 : decode method_3_code 56 = .ok (.istore 15, 2) := by decide +kernel
theorem dE1_58 : decode method_3_code 58 = .ok (.iload_n 0, 1) := by decide +kernel
theorem dE1_59 : decode method_3_code 59 = .ok (.iconst 1, 1) := by decide +kernel
theorem dE1_60 : decode method_3_code 60 = .ok (.if_icmp .lt 14, 3) := by decide +kernel
theorem dE1_63 : decode method_3_code 63 = .ok (.dload_n 1, 1) := by decide +kernel
theorem dE1_64 : decode method_3_code 64 = .ok (.dload 7, 2) := by decide +kernel
theorem dE1_66 : decode method_3_code 66 = .ok (.dcmp .g, 1) := by decide +kernel
theorem dE1_67 : decode method_3_code 67 = .ok (.ifCond .ge 7, 3) := by decide +kernel
theorem dE1_70 : decode method_3_code 70 = .ok (.iconst 1, 1) := by decide +kernel
theorem dE1_71 : decode method_3_code 71 = .ok (.goto 4, 3) := by decide +kernel
theorem dE1_74 : decode method_3_code 74 = .ok (.iconst 0, 1) := by decide +kernel
theorem dE1_75 : decode method_3_code 75 = .ok (.istore 16, 2) := by decide +kernel
theorem dE1_77 : decode method_3_code 77 = .ok (.iload_n 0, 1) := by decide +kernel
theorem dE1_78 : decode method_3_code 78 = .ok (.iconst 2, 1) := by decide +kernel
theorem dE1_79 : decode method_3_code 79 = .ok (.if_icmp .lt 14, 3) := by decide +kernel
theorem dE1_93 : decode method_3_code 93 = .ok (.iconst 0, 1) := by decide +kernel
theorem dE1_94 : decode method_3_code 94 = .ok (.istore 17, 2) := by decide +kernel
theorem dE1_96 : decode method_3_code 96 = .ok (.iload_n 0, 1) := by decide +kernel
theorem dE1_97 : decode method_3_code 97 = .ok (.iconst 3, 1) := by decide +kernel
theorem dE1_98 : decode method_3_code 98 = .ok (.if_icmp .lt 15, 3) := by decide +kernel
theorem dE1_113 : decode method_3_code 113 = .ok (.iconst 0, 1) := by decide +kernel
theorem dE1_114 : decode method_3_code 114 = .ok (.istore 18, 2) := by decide +kernel
theorem dE1_116 : decode method_3_code 116 = .ok (.iload 13, 2) := by decide +kernel
theorem dE1_118 : decode method_3_code 118 = .ok (.ifCond .eq 32, 3) := by decide +kernel
theorem dE1_121 : decode method_3_code 121 = .ok (.iload 14, 2) := by decide +kernel
theorem dE1_123 : decode method_3_code 123 = .ok (.ifCond .eq 27, 3) := by decide +kernel
theorem dE1_126 : decode method_3_code 126 = .ok (.iload 15, 2) := by decide +kernel
theorem dE1_128 : decode method_3_code 128 = .ok (.ifCond .eq 22, 3) := by decide +kernel
theorem dE1_131 : decode method_3_code 131 = .ok (.iload 16, 2) := by decide +kernel
theorem dE1_133 : decode method_3_code 133 = .ok (.ifCond .ne 13, 3) := by decide +kernel
theorem dE1_136 : decode method_3_code 136 = .ok (.iload 17, 2) := by decide +kernel
theorem dE1_138 : decode method_3_code 138 = .ok (.ifCond .ne 8, 3) := by decide +kernel
theorem dE1_141 : decode method_3_code 141 = .ok (.iload 18, 2) := by decide +kernel
theorem dE1_143 : decode method_3_code 143 = .ok (.ifCond .eq 7, 3) := by decide +kernel
theorem dE1_146 : decode method_3_code 146 = .ok (.iconst 1, 1) := by decide +kernel
theorem dE1_147 : decode method_3_code 147 = .ok (.goto 4, 3) := by decide +kernel
theorem dE1_150 : decode method_3_code 150 = .ok (.iconst 0, 1) := by decide +kernel
theorem dE1_151 : decode method_3_code 151 = .ok (.ireturn, 1) := by decide +kernel
theorem efE1 (m : MethodId) (x0 : Int32) (x1 : UInt64) (x2 : UInt64) (x3 : UInt64) (x4 : UInt64) (x5 : UInt64) (x6 : UInt64) : entryFrame m #[(.int x0), (.double x1), (.double x2), (.double x3), (.double x4), (.double x5), (.double x6)] 19 = (mkF m 0 #[.val (.int x0), .val (.double x1), .second, .val (.double x2), .second, .val (.double x3), .second, .val (.double x4), .second, .val (.double x5), .second, .val (.double x6), .second, .unset, .unset, .unset, .unset, .unset, .unset] []) := by first | (simp [entryFrame, mkF, argsToLocals, Value.category]; done) | rfl
def QE1 (Z : State) (x0 : Int64) (x1 : Int64) (x2 : Int64) (y0 : Int64) (y1 : Int64) (y2 : Int64) (h0 : Heap) (n0 : Nat) (v : Option Value) (h : Heap) (L : List Loc) : Prop := v = some (.int (if own_beats [(x0, y0)] false = true then (1 : Int32) else 0)) ∧ Fr n0 L ∧ h = h0
set_option maxRecDepth 65536 in
set_option maxHeartbeats 40000000 in
theorem rmE1 (l : Launch) (Z : State) (a0 : Array Value) (hw : ∀ d ∈ tables_1, d.before a0 Z = true) (ws : List Jvm.Cond) (x0 : Int64) (x1 : Int64) (x2 : Int64) (y0 : Int64) (y1 : Int64) (y2 : Int64) (h0 : Heap) (n0 : Nat) (Z0 : n0 ≤ h0.size) (H0 : OBd 2147483648 x0) (H1 : OBd 2147483648 x1) (H2 : OBd 2147483648 x2) (H3 : OBd 2147483648 y0) (H4 : OBd 2147483648 y1) (H5 : OBd 2147483648 y2) :
    MetFree l (⟨"com/example/pareto_loom/paretoloom/model/NondominatedSetBeatsPinLaw", "expect", "(IDDDDDD)Z"⟩ : MethodName) (head1 (Jvm.Cond.code (⟨"com/example/pareto_loom/paretoloom/model/NondominatedSetBeatsPinLaw", "expect", "(IDDDDDD)Z"⟩ : MethodName) method_3_code 19 (some .boolean) :: ws) ({ frames := 0, cells := 0, slots := 0, locals := 0 } : Room)) (fun a U => a = #[(.int (1 : Int32)), (.double (FP.l2d x0)), (.double (FP.l2d x1)), (.double (FP.l2d x2)), (.double (FP.l2d y0)), (.double (FP.l2d y1)), (.double (FP.l2d y2))] ∧ Z.Warmed39 U.vm ∧ U.heap = h0) (fun _ _ _ _ _ => True) (fun _ U o U' => ∃ v L, o = .returned v ∧ QE1 Z x0 x1 x2 y0 y1 y2 h0 n0 v U'.heap L ∧ FrameEnd U o U' L ({ frames := 0, cells := 0, slots := 0, locals := 0 } : Room).cells ({ frames := 0, cells := 0, slots := 0, locals := 0 } : Room).slots) := by
  refine MetFree.of_bodySF (plainFor_of_name pn_com_example_pareto_loom_paretoloom_model_NondominatedSetBeatsPinLaw) hisR ?_
  intro p e s m args below meth c s₁ Bd hml0 hP hK
  obtain ⟨rfl, hZ, hh⟩ := hP
  have hx := Bd.exec
  have hby := Bd.bytes
  have hml : c.maxLocals = 19 := hml0
  have hown : s.vm.findClass "com/example/pareto_loom/paretoloom/model/NondominatedSetBeatsPinLaw" = some m.cls := findClass_of_methodNamed Bd.named
  have hnm := (name_of_methodNamed Bd.named Bd.method).1
  have X0 : Stand p l e ({ frames := 0, cells := 0, slots := 0, locals := 0 } : Room) s m #[(.int (1 : Int32)), (.double (FP.l2d x0)), (.double (FP.l2d x1)), (.double (FP.l2d x2)), (.double (FP.l2d y0)), (.double (FP.l2d y1)), (.double (FP.l2d y2))] below meth c s₁ [] 0 0 := Stand.of_body Bd
  have e0 : s₁.heap = h0 := by rw [← hh, Bd.state]; rfl
  have N0 := Fr.nil n0
  have pre0 : ∀ t, Steps p.tables e below (s₁.setTop (mkF m 0 #[.val (.int (1 : Int32)), .val (.double (FP.l2d x0)), .second, .val (.double (FP.l2d x1)), .second, .val (.double (FP.l2d x2)), .second, .val (.double (FP.l2d y0)), .second, .val (.double (FP.l2d y1)), .second, .val (.double (FP.l2d y2)), .second, .unset, .unset, .unset, .unset, .unset, .unset] [])) t → Steps p.tables e below (s₁.setTop (entryFrame m #[(.int (1 : Int32)), (.double (FP.l2d x0)), (.double (FP.l2d x1)), (.double (FP.l2d x2)), (.double (FP.l2d y0)), (.double (FP.l2d y1)), (.double (FP.l2d y2))] 19)) t := fun t k => castTop (efE1 m (1 : Int32) (FP.l2d x0) (FP.l2d x1) (FP.l2d x2) (FP.l2d y0) (FP.l2d y1) (FP.l2d y2)) k
  have cn1 : ∀ t, Steps p.tables e below (s₁.setTop (mkF m 9 #[.val (.int (1 : Int32)), .val (.double (FP.l2d x0)), .second, .val (.double (FP.l2d x1)), .second, .val (.double (FP.l2d x2)), .second, .val (.double (FP.l2d y0)), .second, .val (.double (FP.l2d y1)), .second, .val (.double (FP.l2d y2)), .second, .unset, .unset, .unset, .unset, .unset, .unset] [(.int (XT.cmpL x0 y0))])) t → Steps p.tables e below (s₁.setTop (entryFrame m #[(.int (1 : Int32)), (.double (FP.l2d x0)), (.double (FP.l2d x1)), (.double (FP.l2d x2)), (.double (FP.l2d y0)), (.double (FP.l2d y1)), (.double (FP.l2d y2))] 19)) t := by
    intro t k
    refine pre0 t ?_
    refine o_iloadN X0.here hx (hb hby dE1_0) rfl ?_
    refine o_iconstV X0.here hx (1 : Int32) (hb hby dE1_1) rfl ?_
    show Steps p.tables e below (s₁.setTop (mkF m 2 #[.val (.int (1 : Int32)), .val (.double (FP.l2d x0)), .second, .val (.double (FP.l2d x1)), .second, .val (.double (FP.l2d x2)), .second, .val (.double (FP.l2d y0)), .second, .val (.double (FP.l2d y1)), .second, .val (.double (FP.l2d y2)), .second, .unset, .unset, .unset, .unset, .unset, .unset] [(.int (1 : Int32)), (.int (1 : Int32))])) _
    refine o_icmpNo X0.here hx (hb hby dE1_2) (XT.ii_lt_f (by decide)) ?_
    refine o_dloadN X0.here hx (hb hby dE1_5) rfl ?_
    refine o_dload X0.here hx (hb hby dE1_6) rfl ?_
    refine o_dcmpS X0.here hx (hb hby dE1_8) (v := XT.cmpL x0 y0) (dcmpV_w (own_bd_b53 H0 (by decide)) (own_bd_b53 H3 (by decide)) _) ?_
    exact k
  have cn2 : ∀ t, Steps p.tables e below (s₁.setTop (mkF m 17 #[.val (.int (1 : Int32)), .val (.double (FP.l2d x0)), .second, .val (.double (FP.l2d x1)), .second, .val (.double (FP.l2d x2)), .second, .val (.double (FP.l2d y0)), .second, .val (.double (FP.l2d y1)), .second, .val (.double (FP.l2d y2)), .second, .unset, .unset, .unset, .unset, .unset, .unset] [(.int (if y0 < x0 then (0 : Int32) else 1))])) t → Steps p.tables e below (s₁.setTop (entryFrame m #[(.int (1 : Int32)), (.double (FP.l2d x0)), (.double (FP.l2d x1)), (.double (FP.l2d x2)), (.double (FP.l2d y0)), (.double (FP.l2d y1)), (.double (FP.l2d y2))] 19)) t := by
    intro t k
    by_cases h9_3 : y0 < x0
    · -- pc 9 taken
      have cn4 : ∀ t, Steps p.tables e below (s₁.setTop (mkF m 17 #[.val (.int (1 : Int32)), .val (.double (FP.l2d x0)), .second, .val (.double (FP.l2d x1)), .second, .val (.double (FP.l2d x2)), .second, .val (.double (FP.l2d y0)), .second, .val (.double (FP.l2d y1)), .second, .val (.double (FP.l2d y2)), .second, .unset, .unset, .unset, .unset, .unset, .unset] [(.int (0 : Int32))])) t → Steps p.tables e below (s₁.setTop (entryFrame m #[(.int (1 : Int32)), (.double (FP.l2d x0)), (.double (FP.l2d x1)), (.double (FP.l2d x2)), (.double (FP.l2d y0)), (.double (FP.l2d y1)), (.double (FP.l2d y2))] 19)) t := by
        intro t k
        refine cn1 t ?_
        refine o_ifYes X0.here hx (pc' := 16) (hb hby dE1_9) (XT.ll_gt_t h9_3) (by decide) (by decide) ?_
        refine o_iconstV X0.here hx (0 : Int32) (hb hby dE1_16) rfl ?_
        exact k
      rw [show (if y0 < x0 then (0 : Int32) else 1) = (0 : Int32) from (if_pos h9_3)] at k
      exact cn4 t k
    · -- pc 9 not taken
      have cn5 : ∀ t, Steps p.tables e below (s₁.setTop (mkF m 17 #[.val (.int (1 : Int32)), .val (.double (FP.l2d x0)), .second, .val (.double (FP.l2d x1)), .second, .val (.double (FP.l2d x2)), .second, .val (.double (FP.l2d y0)), .second, .val (.double (FP.l2d y1)), .second, .val (.double (FP.l2d y2)), .second, .unset, .unset, .unset, .unset, .unset, .unset] [(.int (1 : Int32))])) t → Steps p.tables e below (s₁.setTop (entryFrame m #[(.int (1 : Int32)), (.double (FP.l2d x0)), (.double (FP.l2d x1)), (.double (FP.l2d x2)), (.double (FP.l2d y0)), (.double (FP.l2d y1)), (.double (FP.l2d y2))] 19)) t := by
        intro t k
        refine cn1 t ?_
        refine o_ifNo X0.here hx (hb hby dE1_9) (XT.ll_gt_f h9_3) ?_
        refine o_iconstV X0.here hx (1 : Int32) (hb hby dE1_12) rfl ?_
        show Steps p.tables e below (s₁.setTop (mkF m 13 #[.val (.int (1 : Int32)), .val (.double (FP.l2d x0)), .second, .val (.double (FP.l2d x1)), .second, .val (.double (FP.l2d x2)), .second, .val (.double (FP.l2d y0)), .second, .val (.double (FP.l2d y1)), .second, .val (.double (FP.l2d y2)), .second, .unset, .unset, .unset, .unset, .unset, .unset] [(.int (1 : Int32))])) _
        refine o_goto X0.here hx (pc' := 17) (hb hby dE1_13) (by decide) (by decide) ?_
        exact k
      rw [show (if y0 < x0 then (0 : Int32) else 1) = (1 : Int32) from (if_neg h9_3)] at k
      exact cn5 t k
  have cn6 : ∀ t, Steps p.tables e below (s₁.setTop (mkF m 67 #[.val (.int (1 : Int32)), .val (.double (FP.l2d x0)), .second, .val (.double (FP.l2d x1)), .second, .val (.double (FP.l2d x2)), .second, .val (.double (FP.l2d y0)), .second, .val (.double (FP.l2d y1)), .second, .val (.double (FP.l2d y2)), .second, .val (.int (if y0 < x0 then (0 : Int32) else 1)), .val (.int (1 : Int32)), .val (.int (1 : Int32)), .unset, .unset, .unset] [(.int (XT.cmpL x0 y0))])) t → Steps p.tables e below (s₁.setTop (entryFrame m #[(.int (1 : Int32)), (.double (FP.l2d x0)), (.double (FP.l2d x1)), (.double (FP.l2d x2)), (.double (FP.l2d y0)), (.double (FP.l2d y1)), (.double (FP.l2d y2))] 19)) t := by
    intro t k
    refine cn2 t ?_
    refine o_istore X0.here hx (hb hby dE1_17) (l' := #[.val (.int (1 : Int32)), .val (.double (FP.l2d x0)), .second, .val (.double (FP.l2d x1)), .second, .val (.double (FP.l2d x2)), .second, .val (.double (FP.l2d y0)), .second, .val (.double (FP.l2d y1)), .second, .val (.double (FP.l2d y2)), .second, .val (.int (if y0 < x0 then (0 : Int32) else 1)), .unset, .unset, .unset, .unset, .unset]) rfl ?_
    refine o_iloadN X0.here hx (hb hby dE1_19) rfl ?_
    refine o_iconstV X0.here hx (2 : Int32) (hb hby dE1_20) rfl ?_
    show Steps p.tables e below (s₁.setTop (mkF m 21 #[.val (.int (1 : Int32)), .val (.double (FP.l2d x0)), .second, .val (.double (FP.l2d x1)), .second, .val (.double (FP.l2d x2)), .second, .val (.double (FP.l2d y0)), .second, .val (.double (FP.l2d y1)), .second, .val (.double (FP.l2d y2)), .second, .val (.int (if y0 < x0 then (0 : Int32) else 1)), .unset, .unset, .unset, .unset, .unset] [(.int (2 : Int32)), (.int (1 : Int32))])) _
    refine o_icmpYes X0.here hx (pc' := 31) (hb hby dE1_21) (XT.ii_lt_t (by decide)) (by decide) (by decide) ?_
    refine o_iconstV X0.here hx (1 : Int32) (hb hby dE1_31) rfl ?_
    show Steps p.tables e below (s₁.setTop (mkF m 32 #[.val (.int (1 : Int32)), .val (.double (FP.l2d x0)), .second, .val (.double (FP.l2d x1)), .second, .val (.double (FP.l2d x2)), .second, .val (.double (FP.l2d y0)), .second, .val (.double (FP.l2d y1)), .second, .val (.double (FP.l2d y2)), .second, .val (.int (if y0 < x0 then (0 : Int32) else 1)), .unset, .unset, .unset, .unset, .unset] [(.int (1 : Int32))])) _
    refine o_goto X0.here hx (pc' := 36) (hb hby dE1_32) (by decide) (by decide) ?_
    refine o_istore X0.here hx (hb hby dE1_36) (l' := #[.val (.int (1 : Int32)), .val (.double (FP.l2d x0)), .second, .val (.double (FP.l2d x1)), .second, .val (.double (FP.l2d x2)), .second, .val (.double (FP.l2d y0)), .second, .val (.double (FP.l2d y1)), .second, .val (.double (FP.l2d y2)), .second, .val (.int (if y0 < x0 then (0 : Int32) else 1)), .val (.int (1 : Int32)), .unset, .unset, .unset, .unset]) rfl ?_
    refine o_iloadN X0.here hx (hb hby dE1_38) rfl ?_
    refine o_iconstV X0.here hx (3 : Int32) (hb hby dE1_39) rfl ?_
    show Steps p.tables e below (s₁.setTop (mkF m 40 #[.val (.int (1 : Int32)), .val (.double (FP.l2d x0)), .second, .val (.double (FP.l2d x1)), .second, .val (.double (FP.l2d x2)), .second, .val (.double (FP.l2d y0)), .second, .val (.double (FP.l2d y1)), .second, .val (.double (FP.l2d y2)), .second, .val (.int (if y0 < x0 then (0 : Int32) else 1)), .val (.int (1 : Int32)), .unset, .unset, .unset, .unset] [(.int (3 : Int32)), (.int (1 : Int32))])) _
    refine o_icmpYes X0.here hx (pc' := 51) (hb hby dE1_40) (XT.ii_lt_t (by decide)) (by decide) (by decide) ?_
    refine o_iconstV X0.here hx (1 : Int32) (hb hby dE1_51) rfl ?_
    show Steps p.tables e below (s₁.setTop (mkF m 52 #[.val (.int (1 : Int32)), .val (.double (FP.l2d x0)), .second, .val (.double (FP.l2d x1)), .second, .val (.double (FP.l2d x2)), .second, .val (.double (FP.l2d y0)), .second, .val (.double (FP.l2d y1)), .second, .val (.double (FP.l2d y2)), .second, .val (.int (if y0 < x0 then (0 : Int32) else 1)), .val (.int (1 : Int32)), .unset, .unset, .unset, .unset] [(.int (1 : Int32))])) _
    refine o_goto X0.here hx (pc' := 56) (hb hby dE1_52) (by decide) (by decide) ?_
    refine o_istore X0.here hx (hb hby dE1_56) (l' := #[.val (.int (1 : Int32)), .val (.double (FP.l2d x0)), .second, .val (.double (FP.l2d x1)), .second, .val (.double (FP.l2d x2)), .second, .val (.double (FP.l2d y0)), .second, .val (.double (FP.l2d y1)), .second, .val (.double (FP.l2d y2)), .second, .val (.int (if y0 < x0 then (0 : Int32) else 1)), .val (.int (1 : Int32)), .val (.int (1 : Int32)), .unset, .unset, .unset]) rfl ?_
    refine o_iloadN X0.here hx (hb hby dE1_58) rfl ?_
    refine o_iconstV X0.here hx (1 : Int32) (hb hby dE1_59) rfl ?_
    show Steps p.tables e below (s₁.setTop (mkF m 60 #[.val (.int (1 : Int32)), .val (.double (FP.l2d x0)), .second, .val (.double (FP.l2d x1)), .second, .val (.double (FP.l2d x2)), .second, .val (.double (FP.l2d y0)), .second, .val (.double (FP.l2d y1)), .second, .val (.double (FP.l2d y2)), .second, .val (.int (if y0 < x0 then (0 : Int32) else 1)), .val (.int (1 : Int32)), .val (.int (1 : Int32)), .unset, .unset, .unset] [(.int (1 : Int32)), (.int (1 : Int32))])) _
    refine o_icmpNo X0.here hx (hb hby dE1_60) (XT.ii_lt_f (by decide)) ?_
    refine o_dloadN X0.here hx (hb hby dE1_63) rfl ?_
    refine o_dload X0.here hx (hb hby dE1_64) rfl ?_
    refine o_dcmpS X0.here hx (hb hby dE1_66) (v := XT.cmpL x0 y0) (dcmpV_w (own_bd_b53 H0 (by decide)) (own_bd_b53 H3 (by decide)) _) ?_
    exact k
  have cn7 : ∀ t, Steps p.tables e below (s₁.setTop (mkF m 75 #[.val (.int (1 : Int32)), .val (.double (FP.l2d x0)), .second, .val (.double (FP.l2d x1)), .second, .val (.double (FP.l2d x2)), .second, .val (.double (FP.l2d y0)), .second, .val (.double (FP.l2d y1)), .second, .val (.double (FP.l2d y2)), .second, .val (.int (if y0 < x0 then (0 : Int32) else 1)), .val (.int (1 : Int32)), .val (.int (1 : Int32)), .unset, .unset, .unset] [(.int (if x0 < y0 then (1 : Int32) else 0))])) t → Steps p.tables e below (s₁.setTop (entryFrame m #[(.int (1 : Int32)), (.double (FP.l2d x0)), (.double (FP.l2d x1)), (.double (FP.l2d x2)), (.double (FP.l2d y0)), (.double (FP.l2d y1)), (.double (FP.l2d y2))] 19)) t := by
    intro t k
    by_cases h67_8 : x0 < y0
    · -- pc 67 not taken
      have cn9 : ∀ t, Steps p.tables e below (s₁.setTop (mkF m 75 #[.val (.int (1 : Int32)), .val (.double (FP.l2d x0)), .second, .val (.double (FP.l2d x1)), .second, .val (.double (FP.l2d x2)), .second, .val (.double (FP.l2d y0)), .second, .val (.double (FP.l2d y1)), .second, .val (.double (FP.l2d y2)), .second, .val (.int (if y0 < x0 then (0 : Int32) else 1)), .val (.int (1 : Int32)), .val (.int (1 : Int32)), .unset, .unset, .unset] [(.int (1 : Int32))])) t → Steps p.tables e below (s₁.setTop (entryFrame m #[(.int (1 : Int32)), (.double (FP.l2d x0)), (.double (FP.l2d x1)), (.double (FP.l2d x2)), (.double (FP.l2d y0)), (.double (FP.l2d y1)), (.double (FP.l2d y2))] 19)) t := by
        intro t k
        refine cn6 t ?_
        refine o_ifNo X0.here hx (hb hby dE1_67) (XT.ll_ge_f h67_8) ?_
        refine o_iconstV X0.here hx (1 : Int32) (hb hby dE1_70) rfl ?_
        show Steps p.tables e below (s₁.setTop (mkF m 71 #[.val (.int (1 : Int32)), .val (.double (FP.l2d x0)), .second, .val (.double (FP.l2d x1)), .second, .val (.double (FP.l2d x2)), .second, .val (.double (FP.l2d y0)), .second, .val (.double (FP.l2d y1)), .second, .val (.double (FP.l2d y2)), .second, .val (.int (if y0 < x0 then (0 : Int32) else 1)), .val (.int (1 : Int32)), .val (.int (1 : Int32)), .unset, .unset, .unset] [(.int (1 : Int32))])) _
        refine o_goto X0.here hx (pc' := 75) (hb hby dE1_71) (by decide) (by decide) ?_
        exact k
      rw [show (if x0 < y0 then (1 : Int32) else 0) = (1 : Int32) from (if_pos h67_8)] at k
      exact cn9 t k
    · -- pc 67 taken
      have cn10 : ∀ t, Steps p.tables e below (s₁.setTop (mkF m 75 #[.val (.int (1 : Int32)), .val (.double (FP.l2d x0)), .second, .val (.double (FP.l2d x1)), .second, .val (.double (FP.l2d x2)), .second, .val (.double (FP.l2d y0)), .second, .val (.double (FP.l2d y1)), .second, .val (.double (FP.l2d y2)), .second, .val (.int (if y0 < x0 then (0 : Int32) else 1)), .val (.int (1 : Int32)), .val (.int (1 : Int32)), .unset, .unset, .unset] [(.int (0 : Int32))])) t → Steps p.tables e below (s₁.setTop (entryFrame m #[(.int (1 : Int32)), (.double (FP.l2d x0)), (.double (FP.l2d x1)), (.double (FP.l2d x2)), (.double (FP.l2d y0)), (.double (FP.l2d y1)), (.double (FP.l2d y2))] 19)) t := by
        intro t k
        refine cn6 t ?_
        refine o_ifYes X0.here hx (pc' := 74) (hb hby dE1_67) (XT.ll_ge_t h67_8) (by decide) (by decide) ?_
        refine o_iconstV X0.here hx (0 : Int32) (hb hby dE1_74) rfl ?_
        exact k
      rw [show (if x0 < y0 then (1 : Int32) else 0) = (0 : Int32) from (if_neg h67_8)] at k
      exact cn10 t k
  have cn11 : ∀ t, Steps p.tables e below (s₁.setTop (mkF m 118 #[.val (.int (1 : Int32)), .val (.double (FP.l2d x0)), .second, .val (.double (FP.l2d x1)), .second, .val (.double (FP.l2d x2)), .second, .val (.double (FP.l2d y0)), .second, .val (.double (FP.l2d y1)), .second, .val (.double (FP.l2d y2)), .second, .val (.int (if y0 < x0 then (0 : Int32) else 1)), .val (.int (1 : Int32)), .val (.int (1 : Int32)), .val (.int (if x0 < y0 then (1 : Int32) else 0)), .val (.int (0 : Int32)), .val (.int (0 : Int32))] [(.int (if y0 < x0 then (0 : Int32) else 1))])) t → Steps p.tables e below (s₁.setTop (entryFrame m #[(.int (1 : Int32)), (.double (FP.l2d x0)), (.double (FP.l2d x1)), (.double (FP.l2d x2)), (.double (FP.l2d y0)), (.double (FP.l2d y1)), (.double (FP.l2d y2))] 19)) t := by
    intro t k
    refine cn7 t ?_
    refine o_istore X0.here hx (hb hby dE1_75) (l' := #[.val (.int (1 : Int32)), .val (.double (FP.l2d x0)), .second, .val (.double (FP.l2d x1)), .second, .val (.double (FP.l2d x2)), .second, .val (.double (FP.l2d y0)), .second, .val (.double (FP.l2d y1)), .second, .val (.double (FP.l2d y2)), .second, .val (.int (if y0 < x0 then (0 : Int32) else 1)), .val (.int (1 : Int32)), .val (.int (1 : Int32)), .val (.int (if x0 < y0 then (1 : Int32) else 0)), .unset, .unset]) rfl ?_
    refine o_iloadN X0.here hx (hb hby dE1_77) rfl ?_
    refine o_iconstV X0.here hx (2 : Int32) (hb hby dE1_78) rfl ?_
    show Steps p.tables e below (s₁.setTop (mkF m 79 #[.val (.int (1 : Int32)), .val (.double (FP.l2d x0)), .second, .val (.double (FP.l2d x1)), .second, .val (.double (FP.l2d x2)), .second, .val (.double (FP.l2d y0)), .second, .val (.double (FP.l2d y1)), .second, .val (.double (FP.l2d y2)), .second, .val (.int (if y0 < x0 then (0 : Int32) else 1)), .val (.int (1 : Int32)), .val (.int (1 : Int32)), .val (.int (if x0 < y0 then (1 : Int32) else 0)), .unset, .unset] [(.int (2 : Int32)), (.int (1 : Int32))])) _
    refine o_icmpYes X0.here hx (pc' := 93) (hb hby dE1_79) (XT.ii_lt_t (by decide)) (by decide) (by decide) ?_
    refine o_iconstV X0.here hx (0 : Int32) (hb hby dE1_93) rfl ?_
    refine o_istore X0.here hx (hb hby dE1_94) (l' := #[.val (.int (1 : Int32)), .val (.double (FP.l2d x0)), .second, .val (.double (FP.l2d x1)), .second, .val (.double (FP.l2d x2)), .second, .val (.double (FP.l2d y0)), .second, .val (.double (FP.l2d y1)), .second, .val (.double (FP.l2d y2)), .second, .val (.int (if y0 < x0 then (0 : Int32) else 1)), .val (.int (1 : Int32)), .val (.int (1 : Int32)), .val (.int (if x0 < y0 then (1 : Int32) else 0)), .val (.int (0 : Int32)), .unset]) rfl ?_
    refine o_iloadN X0.here hx (hb hby dE1_96) rfl ?_
    refine o_iconstV X0.here hx (3 : Int32) (hb hby dE1_97) rfl ?_
    show Steps p.tables e below (s₁.setTop (mkF m 98 #[.val (.int (1 : Int32)), .val (.double (FP.l2d x0)), .second, .val (.double (FP.l2d x1)), .second, .val (.double (FP.l2d x2)), .second, .val (.double (FP.l2d y0)), .second, .val (.double (FP.l2d y1)), .second, .val (.double (FP.l2d y2)), .second, .val (.int (if y0 < x0 then (0 : Int32) else 1)), .val (.int (1 : Int32)), .val (.int (1 : Int32)), .val (.int (if x0 < y0 then (1 : Int32) else 0)), .val (.int (0 : Int32)), .unset] [(.int (3 : Int32)), (.int (1 : Int32))])) _
    refine o_icmpYes X0.here hx (pc' := 113) (hb hby dE1_98) (XT.ii_lt_t (by decide)) (by decide) (by decide) ?_
    refine o_iconstV X0.here hx (0 : Int32) (hb hby dE1_113) rfl ?_
    refine o_istore X0.here hx (hb hby dE1_114) (l' := #[.val (.int (1 : Int32)), .val (.double (FP.l2d x0)), .second, .val (.double (FP.l2d x1)), .second, .val (.double (FP.l2d x2)), .second, .val (.double (FP.l2d y0)), .second, .val (.double (FP.l2d y1)), .second, .val (.double (FP.l2d y2)), .second, .val (.int (if y0 < x0 then (0 : Int32) else 1)), .val (.int (1 : Int32)), .val (.int (1 : Int32)), .val (.int (if x0 < y0 then (1 : Int32) else 0)), .val (.int (0 : Int32)), .val (.int (0 : Int32))]) rfl ?_
    refine o_iload X0.here hx (hb hby dE1_116) rfl ?_
    exact k
  by_cases h118_12 : (if y0 < x0 then (0 : Int32) else 1) = 0
  · -- pc 118 taken
    have cn13 : ∀ t, Steps p.tables e below (s₁.setTop (mkF m 151 #[.val (.int (1 : Int32)), .val (.double (FP.l2d x0)), .second, .val (.double (FP.l2d x1)), .second, .val (.double (FP.l2d x2)), .second, .val (.double (FP.l2d y0)), .second, .val (.double (FP.l2d y1)), .second, .val (.double (FP.l2d y2)), .second, .val (.int (if y0 < x0 then (0 : Int32) else 1)), .val (.int (1 : Int32)), .val (.int (1 : Int32)), .val (.int (if x0 < y0 then (1 : Int32) else 0)), .val (.int (0 : Int32)), .val (.int (0 : Int32))] [(.int (0 : Int32))])) t → Steps p.tables e below (s₁.setTop (entryFrame m #[(.int (1 : Int32)), (.double (FP.l2d x0)), (.double (FP.l2d x1)), (.double (FP.l2d x2)), (.double (FP.l2d y0)), (.double (FP.l2d y1)), (.double (FP.l2d y2))] 19)) t := by
      intro t k
      refine cn11 t ?_
      refine o_ifYes X0.here hx (pc' := 150) (hb hby dE1_118) (XT.i0_eq_t h118_12) (by decide) (by decide) ?_
      refine o_iconstV X0.here hx (0 : Int32) (hb hby dE1_150) rfl ?_
      exact k
    obtain ⟨fs, hr, hrun, hended, hW, hsame⟩ := X0.leave (v := some (.int (0 : Int32))) (fun h => by rw [Bd.returns] at h; cases h)
    refine ⟨_, _, cn13 _ ?_, hrun, hended, _, _, rfl, ?_, ⟨_, rfl⟩, hW, hsame.mono (by decide) (by decide)⟩
    · exact retN X0 hx (t := .boolean) Bd.returns (by simp) (hb hby dE1_151) hr
    · show QE1 Z x0 x1 x2 y0 y1 y2 h0 n0 _ s₁.heap _
      rw [e0]
      exact ⟨(by simp [own_beats, own_ite0.mp h118_12]), N0, rfl⟩
  · -- pc 118 not taken
    have cn14 : ∀ t, Steps p.tables e below (s₁.setTop (mkF m 133 #[.val (.int (1 : Int32)), .val (.double (FP.l2d x0)), .second, .val (.double (FP.l2d x1)), .second, .val (.double (FP.l2d x2)), .second, .val (.double (FP.l2d y0)), .second, .val (.double (FP.l2d y1)), .second, .val (.double (FP.l2d y2)), .second, .val (.int (if y0 < x0 then (0 : Int32) else 1)), .val (.int (1 : Int32)), .val (.int (1 : Int32)), .val (.int (if x0 < y0 then (1 : Int32) else 0)), .val (.int (0 : Int32)), .val (.int (0 : Int32))] [(.int (if x0 < y0 then (1 : Int32) else 0))])) t → Steps p.tables e below (s₁.setTop (entryFrame m #[(.int (1 : Int32)), (.double (FP.l2d x0)), (.double (FP.l2d x1)), (.double (FP.l2d x2)), (.double (FP.l2d y0)), (.double (FP.l2d y1)), (.double (FP.l2d y2))] 19)) t := by
      intro t k
      refine cn11 t ?_
      refine o_ifNo X0.here hx (hb hby dE1_118) (XT.i0_eq_f h118_12) ?_
      refine o_iload X0.here hx (hb hby dE1_121) rfl ?_
      show Steps p.tables e below (s₁.setTop (mkF m 123 #[.val (.int (1 : Int32)), .val (.double (FP.l2d x0)), .second, .val (.double (FP.l2d x1)), .second, .val (.double (FP.l2d x2)), .second, .val (.double (FP.l2d y0)), .second, .val (.double (FP.l2d y1)), .second, .val (.double (FP.l2d y2)), .second, .val (.int (if y0 < x0 then (0 : Int32) else 1)), .val (.int (1 : Int32)), .val (.int (1 : Int32)), .val (.int (if x0 < y0 then (1 : Int32) else 0)), .val (.int (0 : Int32)), .val (.int (0 : Int32))] [(.int (1 : Int32))])) _
      refine o_ifNo X0.here hx (hb hby dE1_123) (by decide) ?_
      refine o_iload X0.here hx (hb hby dE1_126) rfl ?_
      show Steps p.tables e below (s₁.setTop (mkF m 128 #[.val (.int (1 : Int32)), .val (.double (FP.l2d x0)), .second, .val (.double (FP.l2d x1)), .second, .val (.double (FP.l2d x2)), .second, .val (.double (FP.l2d y0)), .second, .val (.double (FP.l2d y1)), .second, .val (.double (FP.l2d y2)), .second, .val (.int (if y0 < x0 then (0 : Int32) else 1)), .val (.int (1 : Int32)), .val (.int (1 : Int32)), .val (.int (if x0 < y0 then (1 : Int32) else 0)), .val (.int (0 : Int32)), .val (.int (0 : Int32))] [(.int (1 : Int32))])) _
      refine o_ifNo X0.here hx (hb hby dE1_128) (by decide) ?_
      refine o_iload X0.here hx (hb hby dE1_131) rfl ?_
      exact k
    by_cases h133_15 : (if x0 < y0 then (1 : Int32) else 0) = 0
    · -- pc 133 not taken
      have cn16 : ∀ t, Steps p.tables e below (s₁.setTop (mkF m 151 #[.val (.int (1 : Int32)), .val (.double (FP.l2d x0)), .second, .val (.double (FP.l2d x1)), .second, .val (.double (FP.l2d x2)), .second, .val (.double (FP.l2d y0)), .second, .val (.double (FP.l2d y1)), .second, .val (.double (FP.l2d y2)), .second, .val (.int (if y0 < x0 then (0 : Int32) else 1)), .val (.int (1 : Int32)), .val (.int (1 : Int32)), .val (.int (if x0 < y0 then (1 : Int32) else 0)), .val (.int (0 : Int32)), .val (.int (0 : Int32))] [(.int (0 : Int32))])) t → Steps p.tables e below (s₁.setTop (entryFrame m #[(.int (1 : Int32)), (.double (FP.l2d x0)), (.double (FP.l2d x1)), (.double (FP.l2d x2)), (.double (FP.l2d y0)), (.double (FP.l2d y1)), (.double (FP.l2d y2))] 19)) t := by
        intro t k
        refine cn14 t ?_
        refine o_ifNo X0.here hx (hb hby dE1_133) (XT.i0_ne_f h133_15) ?_
        refine o_iload X0.here hx (hb hby dE1_136) rfl ?_
        show Steps p.tables e below (s₁.setTop (mkF m 138 #[.val (.int (1 : Int32)), .val (.double (FP.l2d x0)), .second, .val (.double (FP.l2d x1)), .second, .val (.double (FP.l2d x2)), .second, .val (.double (FP.l2d y0)), .second, .val (.double (FP.l2d y1)), .second, .val (.double (FP.l2d y2)), .second, .val (.int (if y0 < x0 then (0 : Int32) else 1)), .val (.int (1 : Int32)), .val (.int (1 : Int32)), .val (.int (if x0 < y0 then (1 : Int32) else 0)), .val (.int (0 : Int32)), .val (.int (0 : Int32))] [(.int (0 : Int32))])) _
        refine o_ifNo X0.here hx (hb hby dE1_138) (by decide) ?_
        refine o_iload X0.here hx (hb hby dE1_141) rfl ?_
        show Steps p.tables e below (s₁.setTop (mkF m 143 #[.val (.int (1 : Int32)), .val (.double (FP.l2d x0)), .second, .val (.double (FP.l2d x1)), .second, .val (.double (FP.l2d x2)), .second, .val (.double (FP.l2d y0)), .second, .val (.double (FP.l2d y1)), .second, .val (.double (FP.l2d y2)), .second, .val (.int (if y0 < x0 then (0 : Int32) else 1)), .val (.int (1 : Int32)), .val (.int (1 : Int32)), .val (.int (if x0 < y0 then (1 : Int32) else 0)), .val (.int (0 : Int32)), .val (.int (0 : Int32))] [(.int (0 : Int32))])) _
        refine o_ifYes X0.here hx (pc' := 150) (hb hby dE1_143) (by decide) (by decide) (by decide) ?_
        refine o_iconstV X0.here hx (0 : Int32) (hb hby dE1_150) rfl ?_
        exact k
      obtain ⟨fs, hr, hrun, hended, hW, hsame⟩ := X0.leave (v := some (.int (0 : Int32))) (fun h => by rw [Bd.returns] at h; cases h)
      refine ⟨_, _, cn16 _ ?_, hrun, hended, _, _, rfl, ?_, ⟨_, rfl⟩, hW, hsame.mono (by decide) (by decide)⟩
      · exact retN X0 hx (t := .boolean) Bd.returns (by simp) (hb hby dE1_151) hr
      · show QE1 Z x0 x1 x2 y0 y1 y2 h0 n0 _ s₁.heap _
        rw [e0]
        exact ⟨(by simp [own_beats, mt own_ite0.mpr h118_12, own_ite1.mp h133_15]), N0, rfl⟩
    · -- pc 133 taken
      have cn17 : ∀ t, Steps p.tables e below (s₁.setTop (mkF m 151 #[.val (.int (1 : Int32)), .val (.double (FP.l2d x0)), .second, .val (.double (FP.l2d x1)), .second, .val (.double (FP.l2d x2)), .second, .val (.double (FP.l2d y0)), .second, .val (.double (FP.l2d y1)), .second, .val (.double (FP.l2d y2)), .second, .val (.int (if y0 < x0 then (0 : Int32) else 1)), .val (.int (1 : Int32)), .val (.int (1 : Int32)), .val (.int (if x0 < y0 then (1 : Int32) else 0)), .val (.int (0 : Int32)), .val (.int (0 : Int32))] [(.int (1 : Int32))])) t → Steps p.tables e below (s₁.setTop (entryFrame m #[(.int (1 : Int32)), (.double (FP.l2d x0)), (.double (FP.l2d x1)), (.double (FP.l2d x2)), (.double (FP.l2d y0)), (.double (FP.l2d y1)), (.double (FP.l2d y2))] 19)) t := by
        intro t k
        refine cn14 t ?_
        refine o_ifYes X0.here hx (pc' := 146) (hb hby dE1_133) (XT.i0_ne_t h133_15) (by decide) (by decide) ?_
        refine o_iconstV X0.here hx (1 : Int32) (hb hby dE1_146) rfl ?_
        show Steps p.tables e below (s₁.setTop (mkF m 147 #[.val (.int (1 : Int32)), .val (.double (FP.l2d x0)), .second, .val (.double (FP.l2d x1)), .second, .val (.double (FP.l2d x2)), .second, .val (.double (FP.l2d y0)), .second, .val (.double (FP.l2d y1)), .second, .val (.double (FP.l2d y2)), .second, .val (.int (if y0 < x0 then (0 : Int32) else 1)), .val (.int (1 : Int32)), .val (.int (1 : Int32)), .val (.int (if x0 < y0 then (1 : Int32) else 0)), .val (.int (0 : Int32)), .val (.int (0 : Int32))] [(.int (1 : Int32))])) _
        refine o_goto X0.here hx (pc' := 151) (hb hby dE1_147) (by decide) (by decide) ?_
        exact k
      obtain ⟨fs, hr, hrun, hended, hW, hsame⟩ := X0.leave (v := some (.int (1 : Int32))) (fun h => by rw [Bd.returns] at h; cases h)
      refine ⟨_, _, cn17 _ ?_, hrun, hended, _, _, rfl, ?_, ⟨_, rfl⟩, hW, hsame.mono (by decide) (by decide)⟩
      · exact retN X0 hx (t := .boolean) Bd.returns (by simp) (hb hby dE1_151) hr
      · show QE1 Z x0 x1 x2 y0 y1 y2 h0 n0 _ s₁.heap _
        rw [e0]
        exact ⟨(by simp [own_beats, mt own_ite0.mpr h118_12, own_ite1n.mp h133_15]), N0, rfl⟩

theorem dB2_0 : decode prog_48_method_10_code 0 = .ok (.iconst 0, 1) := by decide +kernel
theorem dB2_1 : decode prog_48_method_10_code 1 = .ok (.istore_n 2, 1) := by decide +kernel
theorem dB2_2 : decode prog_48_method_10_code 2 = .ok (.iconst 0, 1) := by decide +kernel
theorem dB2_3 : decode prog_48_method_10_code 3 = .ok (.istore_n 3, 1) := by decide +kernel
theorem dB2_4 : decode prog_48_method_10_code 4 = .ok (.iload_n 3, 1) := by decide +kernel
theorem dB2_5 : decode prog_48_method_10_code 5 = .ok (.aload_n 0, 1) := by decide +kernel
theorem dB2_6 : decode prog_48_method_10_code 6 = .ok (.arraylength, 1) := by decide +kernel
theorem dB2_7 : decode prog_48_method_10_code 7 = .ok (.if_icmp .ge 33, 3) := by decide +kernel
theorem dB2_10 : decode prog_48_method_10_code 10 = .ok (.aload_n 0, 1) := by decide +kernel
theorem dB2_11 : decode prog_48_method_10_code 11 = .ok (.iload_n 3, 1) := by decide +kernel
theorem dB2_12 : decode prog_48_method_10_code 12 = .ok (.daload, 1) := by decide +kernel
theorem dB2_13 : decode prog_48_method_10_code 13 = .ok (.aload_n 1, 1) := by decide +kernel
theorem dB2_14 : decode prog_48_method_10_code 14 = .ok (.iload_n 3, 1) := by decide +kernel
theorem dB2_15 : decode prog_48_method_10_code 15 = .ok (.daload, 1) := by decide +kernel
theorem dB2_16 : decode prog_48_method_10_code 16 = .ok (.dcmp .l, 1) := by decide +kernel
theorem dB2_17 : decode prog_48_method_10_code 17 = .ok (.ifCond .le 5, 3) := by decide +kernel
theorem dB2_20 : decode prog_48_method_10_code 20 = .ok (.iconst 0, 1) := by decide +kernel
theorem dB2_21 : decode prog_48_method_10_code 21 = .ok (.ireturn, 1) := by decide +kernel
theorem dB2_22 : decode prog_48_method_10_code 22 = .ok (.aload_n 0, 1) := by decide +kernel
theorem dB2_23 : decode prog_48_method_10_code 23 = .ok (.iload_n 3, 1) := by decide +kernel
theorem dB2_24 : decode prog_48_method_10_code 24 = .ok (.daload, 1) := by decide +kernel
theorem dB2_25 : decode prog_48_method_10_code 25 = .ok (.aload_n 1, 1) := by decide +kernel
theorem dB2_26 : decode prog_48_method_10_code 26 = .ok (.iload_n 3, 1) := by decide +kernel
theorem dB2_27 : decode prog_48_method_10_code 27 = .ok (.daload, 1) := by decide +kernel
theorem dB2_28 : decode prog_48_method_10_code 28 = .ok (.dcmp .g, 1) := by decide +kernel
theorem dB2_29 : decode prog_48_method_10_code 29 = .ok (.ifCond .ge 5, 3) := by decide +kernel
theorem dB2_32 : decode prog_48_method_10_code 32 = .ok (.iconst 1, 1) := by decide +kernel
theorem dB2_33 : decode prog_48_method_10_code 33 = .ok (.istore_n 2, 1) := by decide +kernel
theorem dB2_34 : decode prog_48_method_10_code 34 = .ok (.iinc 3 1, 3) := by decide +kernel
theorem dB2_37 : decode prog_48_method_10_code 37 = .ok (.goto (-33), 3) := by decide +kernel
theorem dB2_40 : decode prog_48_method_10_code 40 = .ok (.iload_n 2, 1) := by decide +kernel
theorem dB2_41 : decode prog_48_method_10_code 41 = .ok (.ireturn, 1) := by decide +kernel
theorem efB2 (m : MethodId) (x0 : Addr) (x1 : Addr) : entryFrame m #[(.ref x0), (.ref x1)] 4 = (mkF m 0 #[.val (.ref x0), .val (.ref x1), .unset, .unset] []) := by first | (simp [entryFrame, mkF, argsToLocals, Value.category]; done) | rfl
def QB2 (Z : State) (a1 : Addr) (a2 : Addr) (k1 : ClassId) (k2 : ClassId) (w0 : Int64) (w1 : Int64) (v0 : Int64) (v1 : Int64) (h0 : Heap) (n0 : Nat) (v : Option Value) (h : Heap) (L : List Loc) : Prop := v = some (.int (if own_beats [(w0, v0), (w1, v1)] false = true then (1 : Int32) else 0)) ∧ Fr n0 L ∧ h = h0
set_option maxRecDepth 65536 in
set_option maxHeartbeats 40000000 in
theorem rmB2 (l : Launch) (Z : State) (a0 : Array Value) (hw : ∀ d ∈ tables_1, d.before a0 Z = true) (ws : List Jvm.Cond) (a1 : Addr) (a2 : Addr) (k1 : ClassId) (k2 : ClassId) (w0 : Int64) (w1 : Int64) (v0 : Int64) (v1 : Int64) (h0 : Heap) (n0 : Nat) (Z0 : n0 ≤ h0.size) (H0 : OBd 2147483648 w0) (H1 : OBd 2147483648 w1) (H2 : OBd 2147483648 v0) (H3 : OBd 2147483648 v1) (pr4 : Arv Z h0 a1 k1 .double (2 : Int32) [(.double (FP.l2d w0)), (.double (FP.l2d w1))] (.double (0 : UInt64))) (pr5 : Arv Z h0 a2 k2 .double (2 : Int32) [(.double (FP.l2d v0)), (.double (FP.l2d v1))] (.double (0 : UInt64))) :
    MetFree l (⟨"com/example/pareto_loom/paretoloom/model/NondominatedSet", "beats", "([D[D)Z"⟩ : MethodName) (head1 (Jvm.Cond.code (⟨"com/example/pareto_loom/paretoloom/model/NondominatedSet", "beats", "([D[D)Z"⟩ : MethodName) prog_48_method_10_code 4 (some .boolean) :: ws) ({ frames := 0, cells := 0, slots := 0, locals := 0 } : Room)) (fun a U => a = #[(.ref a1), (.ref a2)] ∧ Z.Warmed39 U.vm ∧ U.heap = h0) (fun _ _ _ _ _ => True) (fun _ U o U' => ∃ v L, o = .returned v ∧ QB2 Z a1 a2 k1 k2 w0 w1 v0 v1 h0 n0 v U'.heap L ∧ FrameEnd U o U' L ({ frames := 0, cells := 0, slots := 0, locals := 0 } : Room).cells ({ frames := 0, cells := 0, slots := 0, locals := 0 } : Room).slots) := by
  refine MetFree.of_bodySF (plainFor_of_name pn_com_example_pareto_loom_paretoloom_model_NondominatedSet) hisR ?_
  intro p e s m args below meth c s₁ Bd hml0 hP hK
  obtain ⟨rfl, hZ, hh⟩ := hP
  have hx := Bd.exec
  have hby := Bd.bytes
  have hml : c.maxLocals = 4 := hml0
  have hown : s.vm.findClass "com/example/pareto_loom/paretoloom/model/NondominatedSet" = some m.cls := findClass_of_methodNamed Bd.named
  have hnm := (name_of_methodNamed Bd.named Bd.method).1
  have X0 : Stand p l e ({ frames := 0, cells := 0, slots := 0, locals := 0 } : Room) s m #[(.ref a1), (.ref a2)] below meth c s₁ [] 0 0 := Stand.of_body Bd
  have e0 : s₁.heap = h0 := by rw [← hh, Bd.state]; rfl
  have N0 := Fr.nil n0
  have pre0 : ∀ t, Steps p.tables e below (s₁.setTop (mkF m 0 #[.val (.ref a1), .val (.ref a2), .unset, .unset] [])) t → Steps p.tables e below (s₁.setTop (entryFrame m #[(.ref a1), (.ref a2)] 4)) t := fun t k => castTop (efB2 m a1 a2) k
  have cn1 : ∀ t, Steps p.tables e below (s₁.setTop (mkF m 6 #[.val (.ref a1), .val (.ref a2), .val (.int (0 : Int32)), .val (.int (0 : Int32))] [(.ref a1), (.int (0 : Int32))])) t → Steps p.tables e below (s₁.setTop (entryFrame m #[(.ref a1), (.ref a2)] 4)) t := by
    intro t k
    refine pre0 t ?_
    refine o_iconstV X0.here hx (0 : Int32) (hb hby dB2_0) rfl ?_
    refine o_istoreN X0.here hx (hb hby dB2_1) (l' := #[.val (.ref a1), .val (.ref a2), .val (.int (0 : Int32)), .unset]) rfl ?_
    refine o_iconstV X0.here hx (0 : Int32) (hb hby dB2_2) rfl ?_
    refine o_istoreN X0.here hx (hb hby dB2_3) (l' := #[.val (.ref a1), .val (.ref a2), .val (.int (0 : Int32)), .val (.int (0 : Int32))]) rfl ?_
    refine o_iloadN X0.here hx (hb hby dB2_4) rfl ?_
    refine o_aloadN X0.here hx (hb hby dB2_5) rfl rfl ?_
    exact k
  obtain ⟨cl2, Ar2, qk2, Sz2, Mz2, Hh2, Gg2⟩ := pr4
  have pr4 : Arv Z h0 a1 k1 .double (2 : Int32) [(.double (FP.l2d w0)), (.double (FP.l2d w1))] (.double (0 : UInt64)) := ⟨cl2, Ar2, qk2, Sz2, Mz2, Hh2, Gg2⟩
  have cn3 : ∀ t, Steps p.tables e below (s₁.setTop (mkF m 12 #[.val (.ref a1), .val (.ref a2), .val (.int (0 : Int32)), .val (.int (0 : Int32))] [(.int (0 : Int32)), (.ref a1)])) t → Steps p.tables e below (s₁.setTop (entryFrame m #[(.ref a1), (.ref a2)] 4)) t := by
    intro t k
    refine cn1 t ?_
    refine X0.arraylength hx (by rw [e0]; exact Ar2.1) (State.isArrayOf_alike hZ.alike Ar2.2.1) (g := (mkF m 6 #[.val (.ref a1), .val (.ref a2), .val (.int (0 : Int32)), .val (.int (0 : Int32))] [(.ref a1), (.int (0 : Int32))])) rfl rfl (hb hby dB2_6) _ ?_
    rw [len_of Sz2 Mz2]
    show Steps p.tables e below (s₁.setTop (mkF m 7 #[.val (.ref a1), .val (.ref a2), .val (.int (0 : Int32)), .val (.int (0 : Int32))] [(.int (2 : Int32)), (.int (0 : Int32))])) _
    show Steps p.tables e below (s₁.setTop (mkF m 7 #[.val (.ref a1), .val (.ref a2), .val (.int (0 : Int32)), .val (.int (0 : Int32))] [(.int (2 : Int32)), (.int (0 : Int32))])) _
    refine o_icmpNo X0.here hx (hb hby dB2_7) (XT.ii_ge_f (by decide)) ?_
    refine o_aloadN X0.here hx (hb hby dB2_10) rfl rfl ?_
    refine o_iloadN X0.here hx (hb hby dB2_11) rfl ?_
    exact k
  obtain ⟨cl4, Ar4, qk4, Sz4, Mz4, Hh4, Gg4⟩ := pr4
  have pr4 : Arv Z h0 a1 k1 .double (2 : Int32) [(.double (FP.l2d w0)), (.double (FP.l2d w1))] (.double (0 : UInt64)) := ⟨cl4, Ar4, qk4, Sz4, Mz4, Hh4, Gg4⟩
  have cn5 : ∀ t, Steps p.tables e below (s₁.setTop (mkF m 15 #[.val (.ref a1), .val (.ref a2), .val (.int (0 : Int32)), .val (.int (0 : Int32))] [(.int (0 : Int32)), (.ref a2), (.double (FP.l2d w0))])) t → Steps p.tables e below (s₁.setTop (entryFrame m #[(.ref a1), (.ref a2)] 4)) t := by
    intro t k
    refine cn3 t ?_
    refine X0.daload hx (j := (0 : Int32)) (v := (.double (FP.l2d w0))) (by rw [e0]; exact Ar4.1) (State.isArrayOf_alike hZ.alike Ar4.2.1) Ar4.2.2 (inb_of Sz4 ⟨(by decide), (by decide)⟩) (Hh4.at (inb_of Sz4 ⟨(by decide), (by decide)⟩) rfl) (g := (mkF m 12 #[.val (.ref a1), .val (.ref a2), .val (.int (0 : Int32)), .val (.int (0 : Int32))] [(.int (0 : Int32)), (.ref a1)])) rfl rfl (hb hby dB2_12) _ ?_
    show Steps p.tables e below (s₁.setTop (mkF m 13 #[.val (.ref a1), .val (.ref a2), .val (.int (0 : Int32)), .val (.int (0 : Int32))] [(.double (FP.l2d w0))])) _
    refine o_aloadN X0.here hx (hb hby dB2_13) rfl rfl ?_
    refine o_iloadN X0.here hx (hb hby dB2_14) rfl ?_
    exact k
  obtain ⟨cl6, Ar6, qk6, Sz6, Mz6, Hh6, Gg6⟩ := pr5
  have pr5 : Arv Z h0 a2 k2 .double (2 : Int32) [(.double (FP.l2d v0)), (.double (FP.l2d v1))] (.double (0 : UInt64)) := ⟨cl6, Ar6, qk6, Sz6, Mz6, Hh6, Gg6⟩
  have cn7 : ∀ t, Steps p.tables e below (s₁.setTop (mkF m 17 #[.val (.ref a1), .val (.ref a2), .val (.int (0 : Int32)), .val (.int (0 : Int32))] [(.int (XT.cmpL w0 v0))])) t → Steps p.tables e below (s₁.setTop (entryFrame m #[(.ref a1), (.ref a2)] 4)) t := by
    intro t k
    refine cn5 t ?_
    refine X0.daload hx (j := (0 : Int32)) (v := (.double (FP.l2d v0))) (by rw [e0]; exact Ar6.1) (State.isArrayOf_alike hZ.alike Ar6.2.1) Ar6.2.2 (inb_of Sz6 ⟨(by decide), (by decide)⟩) (Hh6.at (inb_of Sz6 ⟨(by decide), (by decide)⟩) rfl) (g := (mkF m 15 #[.val (.ref a1), .val (.ref a2), .val (.int (0 : Int32)), .val (.int (0 : Int32))] [(.int (0 : Int32)), (.ref a2), (.double (FP.l2d w0))])) rfl rfl (hb hby dB2_15) _ ?_
    show Steps p.tables e below (s₁.setTop (mkF m 16 #[.val (.ref a1), .val (.ref a2), .val (.int (0 : Int32)), .val (.int (0 : Int32))] [(.double (FP.l2d v0)), (.double (FP.l2d w0))])) _
    refine o_dcmpS X0.here hx (hb hby dB2_16) (v := XT.cmpL w0 v0) (dcmpV_w (own_bd_b53 H0 (by decide)) (own_bd_b53 H2 (by decide)) _) ?_
    exact k
  by_cases h17_8 : v0 < w0
  · -- pc 17 not taken
    have cn9 : ∀ t, Steps p.tables e below (s₁.setTop (mkF m 21 #[.val (.ref a1), .val (.ref a2), .val (.int (0 : Int32)), .val (.int (0 : Int32))] [(.int (0 : Int32))])) t → Steps p.tables e below (s₁.setTop (entryFrame m #[(.ref a1), (.ref a2)] 4)) t := by
      intro t k
      refine cn7 t ?_
      refine o_ifNo X0.here hx (hb hby dB2_17) (XT.ll_le_f h17_8) ?_
      refine o_iconstV X0.here hx (0 : Int32) (hb hby dB2_20) rfl ?_
      exact k
    obtain ⟨fs, hr, hrun, hended, hW, hsame⟩ := X0.leave (v := some (.int (0 : Int32))) (fun h => by rw [Bd.returns] at h; cases h)
    refine ⟨_, _, cn9 _ ?_, hrun, hended, _, _, rfl, ?_, ⟨_, rfl⟩, hW, hsame.mono (by decide) (by decide)⟩
    · exact retN X0 hx (t := .boolean) Bd.returns (by simp) (hb hby dB2_21) hr
    · show QB2 Z a1 a2 k1 k2 w0 w1 v0 v1 h0 n0 _ s₁.heap _
      rw [e0]
      exact ⟨(by simp [own_beats, h17_8, own_asymm h17_8]), N0, rfl⟩
  · -- pc 17 taken
    have cn10 : ∀ t, Steps p.tables e below (s₁.setTop (mkF m 24 #[.val (.ref a1), .val (.ref a2), .val (.int (0 : Int32)), .val (.int (0 : Int32))] [(.int (0 : Int32)), (.ref a1)])) t → Steps p.tables e below (s₁.setTop (entryFrame m #[(.ref a1), (.ref a2)] 4)) t := by
      intro t k
      refine cn7 t ?_
      refine o_ifYes X0.here hx (pc' := 22) (hb hby dB2_17) (XT.ll_le_t h17_8) (by decide) (by decide) ?_
      refine o_aloadN X0.here hx (hb hby dB2_22) rfl rfl ?_
      refine o_iloadN X0.here hx (hb hby dB2_23) rfl ?_
      exact k
    obtain ⟨cl11, Ar11, qk11, Sz11, Mz11, Hh11, Gg11⟩ := pr4
    have pr4 : Arv Z h0 a1 k1 .double (2 : Int32) [(.double (FP.l2d w0)), (.double (FP.l2d w1))] (.double (0 : UInt64)) := ⟨cl11, Ar11, qk11, Sz11, Mz11, Hh11, Gg11⟩
    have cn12 : ∀ t, Steps p.tables e below (s₁.setTop (mkF m 27 #[.val (.ref a1), .val (.ref a2), .val (.int (0 : Int32)), .val (.int (0 : Int32))] [(.int (0 : Int32)), (.ref a2), (.double (FP.l2d w0))])) t → Steps p.tables e below (s₁.setTop (entryFrame m #[(.ref a1), (.ref a2)] 4)) t := by
      intro t k
      refine cn10 t ?_
      refine X0.daload hx (j := (0 : Int32)) (v := (.double (FP.l2d w0))) (by rw [e0]; exact Ar11.1) (State.isArrayOf_alike hZ.alike Ar11.2.1) Ar11.2.2 (inb_of Sz11 ⟨(by decide), (by decide)⟩) (Hh11.at (inb_of Sz11 ⟨(by decide), (by decide)⟩) rfl) (g := (mkF m 24 #[.val (.ref a1), .val (.ref a2), .val (.int (0 : Int32)), .val (.int (0 : Int32))] [(.int (0 : Int32)), (.ref a1)])) rfl rfl (hb hby dB2_24) _ ?_
      show Steps p.tables e below (s₁.setTop (mkF m 25 #[.val (.ref a1), .val (.ref a2), .val (.int (0 : Int32)), .val (.int (0 : Int32))] [(.double (FP.l2d w0))])) _
      refine o_aloadN X0.here hx (hb hby dB2_25) rfl rfl ?_
      refine o_iloadN X0.here hx (hb hby dB2_26) rfl ?_
      exact k
    obtain ⟨cl13, Ar13, qk13, Sz13, Mz13, Hh13, Gg13⟩ := pr5
    have pr5 : Arv Z h0 a2 k2 .double (2 : Int32) [(.double (FP.l2d v0)), (.double (FP.l2d v1))] (.double (0 : UInt64)) := ⟨cl13, Ar13, qk13, Sz13, Mz13, Hh13, Gg13⟩
    have cn14 : ∀ t, Steps p.tables e below (s₁.setTop (mkF m 29 #[.val (.ref a1), .val (.ref a2), .val (.int (0 : Int32)), .val (.int (0 : Int32))] [(.int (XT.cmpL w0 v0))])) t → Steps p.tables e below (s₁.setTop (entryFrame m #[(.ref a1), (.ref a2)] 4)) t := by
      intro t k
      refine cn12 t ?_
      refine X0.daload hx (j := (0 : Int32)) (v := (.double (FP.l2d v0))) (by rw [e0]; exact Ar13.1) (State.isArrayOf_alike hZ.alike Ar13.2.1) Ar13.2.2 (inb_of Sz13 ⟨(by decide), (by decide)⟩) (Hh13.at (inb_of Sz13 ⟨(by decide), (by decide)⟩) rfl) (g := (mkF m 27 #[.val (.ref a1), .val (.ref a2), .val (.int (0 : Int32)), .val (.int (0 : Int32))] [(.int (0 : Int32)), (.ref a2), (.double (FP.l2d w0))])) rfl rfl (hb hby dB2_27) _ ?_
      show Steps p.tables e below (s₁.setTop (mkF m 28 #[.val (.ref a1), .val (.ref a2), .val (.int (0 : Int32)), .val (.int (0 : Int32))] [(.double (FP.l2d v0)), (.double (FP.l2d w0))])) _
      refine o_dcmpS X0.here hx (hb hby dB2_28) (v := XT.cmpL w0 v0) (dcmpV_w (own_bd_b53 H0 (by decide)) (own_bd_b53 H2 (by decide)) _) ?_
      exact k
    by_cases h29_15 : w0 < v0
    · -- pc 29 not taken
      have cn16 : ∀ t, Steps p.tables e below (s₁.setTop (mkF m 6 #[.val (.ref a1), .val (.ref a2), .val (.int (1 : Int32)), .val (.int (1 : Int32))] [(.ref a1), (.int (1 : Int32))])) t → Steps p.tables e below (s₁.setTop (entryFrame m #[(.ref a1), (.ref a2)] 4)) t := by
        intro t k
        refine cn14 t ?_
        refine o_ifNo X0.here hx (hb hby dB2_29) (XT.ll_ge_f h29_15) ?_
        refine o_iconstV X0.here hx (1 : Int32) (hb hby dB2_32) rfl ?_
        refine o_istoreN X0.here hx (hb hby dB2_33) (l' := #[.val (.ref a1), .val (.ref a2), .val (.int (1 : Int32)), .val (.int (0 : Int32))]) rfl ?_
        refine o_iincV X0.here hx (1 : Int32) (hb hby dB2_34) rfl rfl (l' := #[.val (.ref a1), .val (.ref a2), .val (.int (1 : Int32)), .val (.int ((0 : Int32) + (1 : Int32)))]) rfl ?_
        show Steps p.tables e below (s₁.setTop (mkF m 37 #[.val (.ref a1), .val (.ref a2), .val (.int (1 : Int32)), .val (.int (1 : Int32))] [])) _
        show Steps p.tables e below (s₁.setTop (mkF m 37 #[.val (.ref a1), .val (.ref a2), .val (.int (1 : Int32)), .val (.int (1 : Int32))] [])) _
        refine o_goto X0.here hx (pc' := 4) (hb hby dB2_37) (by decide) (by decide) ?_
        refine o_iloadN X0.here hx (hb hby dB2_4) rfl ?_
        refine o_aloadN X0.here hx (hb hby dB2_5) rfl rfl ?_
        exact k
      obtain ⟨cl17, Ar17, qk17, Sz17, Mz17, Hh17, Gg17⟩ := pr4
      have pr4 : Arv Z h0 a1 k1 .double (2 : Int32) [(.double (FP.l2d w0)), (.double (FP.l2d w1))] (.double (0 : UInt64)) := ⟨cl17, Ar17, qk17, Sz17, Mz17, Hh17, Gg17⟩
      have cn18 : ∀ t, Steps p.tables e below (s₁.setTop (mkF m 12 #[.val (.ref a1), .val (.ref a2), .val (.int (1 : Int32)), .val (.int (1 : Int32))] [(.int (1 : Int32)), (.ref a1)])) t → Steps p.tables e below (s₁.setTop (entryFrame m #[(.ref a1), (.ref a2)] 4)) t := by
        intro t k
        refine cn16 t ?_
        refine X0.arraylength hx (by rw [e0]; exact Ar17.1) (State.isArrayOf_alike hZ.alike Ar17.2.1) (g := (mkF m 6 #[.val (.ref a1), .val (.ref a2), .val (.int (1 : Int32)), .val (.int (1 : Int32))] [(.ref a1), (.int (1 : Int32))])) rfl rfl (hb hby dB2_6) _ ?_
        rw [len_of Sz17 Mz17]
        show Steps p.tables e below (s₁.setTop (mkF m 7 #[.val (.ref a1), .val (.ref a2), .val (.int (1 : Int32)), .val (.int (1 : Int32))] [(.int (2 : Int32)), (.int (1 : Int32))])) _
        show Steps p.tables e below (s₁.setTop (mkF m 7 #[.val (.ref a1), .val (.ref a2), .val (.int (1 : Int32)), .val (.int (1 : Int32))] [(.int (2 : Int32)), (.int (1 : Int32))])) _
        refine o_icmpNo X0.here hx (hb hby dB2_7) (XT.ii_ge_f (by decide)) ?_
        refine o_aloadN X0.here hx (hb hby dB2_10) rfl rfl ?_
        refine o_iloadN X0.here hx (hb hby dB2_11) rfl ?_
        exact k
      obtain ⟨cl19, Ar19, qk19, Sz19, Mz19, Hh19, Gg19⟩ := pr4
      have pr4 : Arv Z h0 a1 k1 .double (2 : Int32) [(.double (FP.l2d w0)), (.double (FP.l2d w1))] (.double (0 : UInt64)) := ⟨cl19, Ar19, qk19, Sz19, Mz19, Hh19, Gg19⟩
      have cn20 : ∀ t, Steps p.tables e below (s₁.setTop (mkF m 15 #[.val (.ref a1), .val (.ref a2), .val (.int (1 : Int32)), .val (.int (1 : Int32))] [(.int (1 : Int32)), (.ref a2), (.double (FP.l2d w1))])) t → Steps p.tables e below (s₁.setTop (entryFrame m #[(.ref a1), (.ref a2)] 4)) t := by
        intro t k
        refine cn18 t ?_
        refine X0.daload hx (j := (1 : Int32)) (v := (.double (FP.l2d w1))) (by rw [e0]; exact Ar19.1) (State.isArrayOf_alike hZ.alike Ar19.2.1) Ar19.2.2 (inb_of Sz19 ⟨(by decide), (by decide)⟩) (Hh19.at (inb_of Sz19 ⟨(by decide), (by decide)⟩) rfl) (g := (mkF m 12 #[.val (.ref a1), .val (.ref a2), .val (.int (1 : Int32)), .val (.int (1 : Int32))] [(.int (1 : Int32)), (.ref a1)])) rfl rfl (hb hby dB2_12) _ ?_
        show Steps p.tables e below (s₁.setTop (mkF m 13 #[.val (.ref a1), .val (.ref a2), .val (.int (1 : Int32)), .val (.int (1 : Int32))] [(.double (FP.l2d w1))])) _
        refine o_aloadN X0.here hx (hb hby dB2_13) rfl rfl ?_
        refine o_iloadN X0.here hx (hb hby dB2_14) rfl ?_
        exact k
      obtain ⟨cl21, Ar21, qk21, Sz21, Mz21, Hh21, Gg21⟩ := pr5
      have pr5 : Arv Z h0 a2 k2 .double (2 : Int32) [(.double (FP.l2d v0)), (.double (FP.l2d v1))] (.double (0 : UInt64)) := ⟨cl21, Ar21, qk21, Sz21, Mz21, Hh21, Gg21⟩
      have cn22 : ∀ t, Steps p.tables e below (s₁.setTop (mkF m 17 #[.val (.ref a1), .val (.ref a2), .val (.int (1 : Int32)), .val (.int (1 : Int32))] [(.int (XT.cmpL w1 v1))])) t → Steps p.tables e below (s₁.setTop (entryFrame m #[(.ref a1), (.ref a2)] 4)) t := by
        intro t k
        refine cn20 t ?_
        refine X0.daload hx (j := (1 : Int32)) (v := (.double (FP.l2d v1))) (by rw [e0]; exact Ar21.1) (State.isArrayOf_alike hZ.alike Ar21.2.1) Ar21.2.2 (inb_of Sz21 ⟨(by decide), (by decide)⟩) (Hh21.at (inb_of Sz21 ⟨(by decide), (by decide)⟩) rfl) (g := (mkF m 15 #[.val (.ref a1), .val (.ref a2), .val (.int (1 : Int32)), .val (.int (1 : Int32))] [(.int (1 : Int32)), (.ref a2), (.double (FP.l2d w1))])) rfl rfl (hb hby dB2_15) _ ?_
        show Steps p.tables e below (s₁.setTop (mkF m 16 #[.val (.ref a1), .val (.ref a2), .val (.int (1 : Int32)), .val (.int (1 : Int32))] [(.double (FP.l2d v1)), (.double (FP.l2d w1))])) _
        refine o_dcmpS X0.here hx (hb hby dB2_16) (v := XT.cmpL w1 v1) (dcmpV_w (own_bd_b53 H1 (by decide)) (own_bd_b53 H3 (by decide)) _) ?_
        exact k
      by_cases h17_23 : v1 < w1
      · -- pc 17 not taken
        have cn24 : ∀ t, Steps p.tables e below (s₁.setTop (mkF m 21 #[.val (.ref a1), .val (.ref a2), .val (.int (1 : Int32)), .val (.int (1 : Int32))] [(.int (0 : Int32))])) t → Steps p.tables e below (s₁.setTop (entryFrame m #[(.ref a1), (.ref a2)] 4)) t := by
          intro t k
          refine cn22 t ?_
          refine o_ifNo X0.here hx (hb hby dB2_17) (XT.ll_le_f h17_23) ?_
          refine o_iconstV X0.here hx (0 : Int32) (hb hby dB2_20) rfl ?_
          exact k
        obtain ⟨fs, hr, hrun, hended, hW, hsame⟩ := X0.leave (v := some (.int (0 : Int32))) (fun h => by rw [Bd.returns] at h; cases h)
        refine ⟨_, _, cn24 _ ?_, hrun, hended, _, _, rfl, ?_, ⟨_, rfl⟩, hW, hsame.mono (by decide) (by decide)⟩
        · exact retN X0 hx (t := .boolean) Bd.returns (by simp) (hb hby dB2_21) hr
        · show QB2 Z a1 a2 k1 k2 w0 w1 v0 v1 h0 n0 _ s₁.heap _
          rw [e0]
          exact ⟨(by simp [own_beats, h17_8, h29_15, h17_23, own_asymm h29_15, own_asymm h17_23]), N0, rfl⟩
      · -- pc 17 taken
        have cn25 : ∀ t, Steps p.tables e below (s₁.setTop (mkF m 24 #[.val (.ref a1), .val (.ref a2), .val (.int (1 : Int32)), .val (.int (1 : Int32))] [(.int (1 : Int32)), (.ref a1)])) t → Steps p.tables e below (s₁.setTop (entryFrame m #[(.ref a1), (.ref a2)] 4)) t := by
          intro t k
          refine cn22 t ?_
          refine o_ifYes X0.here hx (pc' := 22) (hb hby dB2_17) (XT.ll_le_t h17_23) (by decide) (by decide) ?_
          refine o_aloadN X0.here hx (hb hby dB2_22) rfl rfl ?_
          refine o_iloadN X0.here hx (hb hby dB2_23) rfl ?_
          exact k
        obtain ⟨cl26, Ar26, qk26, Sz26, Mz26, Hh26, Gg26⟩ := pr4
        have pr4 : Arv Z h0 a1 k1 .double (2 : Int32) [(.double (FP.l2d w0)), (.double (FP.l2d w1))] (.double (0 : UInt64)) := ⟨cl26, Ar26, qk26, Sz26, Mz26, Hh26, Gg26⟩
        have cn27 : ∀ t, Steps p.tables e below (s₁.setTop (mkF m 27 #[.val (.ref a1), .val (.ref a2), .val (.int (1 : Int32)), .val (.int (1 : Int32))] [(.int (1 : Int32)), (.ref a2), (.double (FP.l2d w1))])) t → Steps p.tables e below (s₁.setTop (entryFrame m #[(.ref a1), (.ref a2)] 4)) t := by
          intro t k
          refine cn25 t ?_
          refine X0.daload hx (j := (1 : Int32)) (v := (.double (FP.l2d w1))) (by rw [e0]; exact Ar26.1) (State.isArrayOf_alike hZ.alike Ar26.2.1) Ar26.2.2 (inb_of Sz26 ⟨(by decide), (by decide)⟩) (Hh26.at (inb_of Sz26 ⟨(by decide), (by decide)⟩) rfl) (g := (mkF m 24 #[.val (.ref a1), .val (.ref a2), .val (.int (1 : Int32)), .val (.int (1 : Int32))] [(.int (1 : Int32)), (.ref a1)])) rfl rfl (hb hby dB2_24) _ ?_
          show Steps p.tables e below (s₁.setTop (mkF m 25 #[.val (.ref a1), .val (.ref a2), .val (.int (1 : Int32)), .val (.int (1 : Int32))] [(.double (FP.l2d w1))])) _
          refine o_aloadN X0.here hx (hb hby dB2_25) rfl rfl ?_
          refine o_iloadN X0.here hx (hb hby dB2_26) rfl ?_
          exact k
        obtain ⟨cl28, Ar28, qk28, Sz28, Mz28, Hh28, Gg28⟩ := pr5
        have pr5 : Arv Z h0 a2 k2 .double (2 : Int32) [(.double (FP.l2d v0)), (.double (FP.l2d v1))] (.double (0 : UInt64)) := ⟨cl28, Ar28, qk28, Sz28, Mz28, Hh28, Gg28⟩
        have cn29 : ∀ t, Steps p.tables e below (s₁.setTop (mkF m 29 #[.val (.ref a1), .val (.ref a2), .val (.int (1 : Int32)), .val (.int (1 : Int32))] [(.int (XT.cmpL w1 v1))])) t → Steps p.tables e below (s₁.setTop (entryFrame m #[(.ref a1), (.ref a2)] 4)) t := by
          intro t k
          refine cn27 t ?_
          refine X0.daload hx (j := (1 : Int32)) (v := (.double (FP.l2d v1))) (by rw [e0]; exact Ar28.1) (State.isArrayOf_alike hZ.alike Ar28.2.1) Ar28.2.2 (inb_of Sz28 ⟨(by decide), (by decide)⟩) (Hh28.at (inb_of Sz28 ⟨(by decide), (by decide)⟩) rfl) (g := (mkF m 27 #[.val (.ref a1), .val (.ref a2), .val (.int (1 : Int32)), .val (.int (1 : Int32))] [(.int (1 : Int32)), (.ref a2), (.double (FP.l2d w1))])) rfl rfl (hb hby dB2_27) _ ?_
          show Steps p.tables e below (s₁.setTop (mkF m 28 #[.val (.ref a1), .val (.ref a2), .val (.int (1 : Int32)), .val (.int (1 : Int32))] [(.double (FP.l2d v1)), (.double (FP.l2d w1))])) _
          refine o_dcmpS X0.here hx (hb hby dB2_28) (v := XT.cmpL w1 v1) (dcmpV_w (own_bd_b53 H1 (by decide)) (own_bd_b53 H3 (by decide)) _) ?_
          exact k
        by_cases h29_30 : w1 < v1
        · -- pc 29 not taken
          have cn31 : ∀ t, Steps p.tables e below (s₁.setTop (mkF m 6 #[.val (.ref a1), .val (.ref a2), .val (.int (1 : Int32)), .val (.int (2 : Int32))] [(.ref a1), (.int (2 : Int32))])) t → Steps p.tables e below (s₁.setTop (entryFrame m #[(.ref a1), (.ref a2)] 4)) t := by
            intro t k
            refine cn29 t ?_
            refine o_ifNo X0.here hx (hb hby dB2_29) (XT.ll_ge_f h29_30) ?_
            refine o_iconstV X0.here hx (1 : Int32) (hb hby dB2_32) rfl ?_
            refine o_istoreN X0.here hx (hb hby dB2_33) (l' := #[.val (.ref a1), .val (.ref a2), .val (.int (1 : Int32)), .val (.int (1 : Int32))]) rfl ?_
            refine o_iincV X0.here hx (1 : Int32) (hb hby dB2_34) rfl rfl (l' := #[.val (.ref a1), .val (.ref a2), .val (.int (1 : Int32)), .val (.int ((1 : Int32) + (1 : Int32)))]) rfl ?_
            show Steps p.tables e below (s₁.setTop (mkF m 37 #[.val (.ref a1), .val (.ref a2), .val (.int (1 : Int32)), .val (.int (2 : Int32))] [])) _
            show Steps p.tables e below (s₁.setTop (mkF m 37 #[.val (.ref a1), .val (.ref a2), .val (.int (1 : Int32)), .val (.int (2 : Int32))] [])) _
            refine o_goto X0.here hx (pc' := 4) (hb hby dB2_37) (by decide) (by decide) ?_
            refine o_iloadN X0.here hx (hb hby dB2_4) rfl ?_
            refine o_aloadN X0.here hx (hb hby dB2_5) rfl rfl ?_
            exact k
          obtain ⟨cl32, Ar32, qk32, Sz32, Mz32, Hh32, Gg32⟩ := pr4
          have pr4 : Arv Z h0 a1 k1 .double (2 : Int32) [(.double (FP.l2d w0)), (.double (FP.l2d w1))] (.double (0 : UInt64)) := ⟨cl32, Ar32, qk32, Sz32, Mz32, Hh32, Gg32⟩
          have cn33 : ∀ t, Steps p.tables e below (s₁.setTop (mkF m 41 #[.val (.ref a1), .val (.ref a2), .val (.int (1 : Int32)), .val (.int (2 : Int32))] [(.int (1 : Int32))])) t → Steps p.tables e below (s₁.setTop (entryFrame m #[(.ref a1), (.ref a2)] 4)) t := by
            intro t k
            refine cn31 t ?_
            refine X0.arraylength hx (by rw [e0]; exact Ar32.1) (State.isArrayOf_alike hZ.alike Ar32.2.1) (g := (mkF m 6 #[.val (.ref a1), .val (.ref a2), .val (.int (1 : Int32)), .val (.int (2 : Int32))] [(.ref a1), (.int (2 : Int32))])) rfl rfl (hb hby dB2_6) _ ?_
            rw [len_of Sz32 Mz32]
            show Steps p.tables e below (s₁.setTop (mkF m 7 #[.val (.ref a1), .val (.ref a2), .val (.int (1 : Int32)), .val (.int (2 : Int32))] [(.int (2 : Int32)), (.int (2 : Int32))])) _
            show Steps p.tables e below (s₁.setTop (mkF m 7 #[.val (.ref a1), .val (.ref a2), .val (.int (1 : Int32)), .val (.int (2 : Int32))] [(.int (2 : Int32)), (.int (2 : Int32))])) _
            refine o_icmpYes X0.here hx (pc' := 40) (hb hby dB2_7) (XT.ii_ge_t (by decide)) (by decide) (by decide) ?_
            refine o_iloadN X0.here hx (hb hby dB2_40) rfl ?_
            exact k
          obtain ⟨fs, hr, hrun, hended, hW, hsame⟩ := X0.leave (v := some (.int (1 : Int32))) (fun h => by rw [Bd.returns] at h; cases h)
          refine ⟨_, _, cn33 _ ?_, hrun, hended, _, _, rfl, ?_, ⟨_, rfl⟩, hW, hsame.mono (by decide) (by decide)⟩
          · exact retN X0 hx (t := .boolean) Bd.returns (by simp) (hb hby dB2_41) hr
          · show QB2 Z a1 a2 k1 k2 w0 w1 v0 v1 h0 n0 _ s₁.heap _
            rw [e0]
            exact ⟨(by simp [own_beats, h17_8, h29_15, h17_23, h29_30, own_asymm h29_15, own_asymm h29_30]), N0, rfl⟩
        · -- pc 29 taken
          have cn34 : ∀ t, Steps p.tables e below (s₁.setTop (mkF m 6 #[.val (.ref a1), .val (.ref a2), .val (.int (1 : Int32)), .val (.int (2 : Int32))] [(.ref a1), (.int (2 : Int32))])) t → Steps p.tables e below (s₁.setTop (entryFrame m #[(.ref a1), (.ref a2)] 4)) t := by
            intro t k
            refine cn29 t ?_
            refine o_ifYes X0.here hx (pc' := 34) (hb hby dB2_29) (XT.ll_ge_t h29_30) (by decide) (by decide) ?_
            refine o_iincV X0.here hx (1 : Int32) (hb hby dB2_34) rfl rfl (l' := #[.val (.ref a1), .val (.ref a2), .val (.int (1 : Int32)), .val (.int ((1 : Int32) + (1 : Int32)))]) rfl ?_
            show Steps p.tables e below (s₁.setTop (mkF m 37 #[.val (.ref a1), .val (.ref a2), .val (.int (1 : Int32)), .val (.int (2 : Int32))] [])) _
            show Steps p.tables e below (s₁.setTop (mkF m 37 #[.val (.ref a1), .val (.ref a2), .val (.int (1 : Int32)), .val (.int (2 : Int32))] [])) _
            refine o_goto X0.here hx (pc' := 4) (hb hby dB2_37) (by decide) (by decide) ?_
            refine o_iloadN X0.here hx (hb hby dB2_4) rfl ?_
            refine o_aloadN X0.here hx (hb hby dB2_5) rfl rfl ?_
            exact k
          obtain ⟨cl35, Ar35, qk35, Sz35, Mz35, Hh35, Gg35⟩ := pr4
          have pr4 : Arv Z h0 a1 k1 .double (2 : Int32) [(.double (FP.l2d w0)), (.double (FP.l2d w1))] (.double (0 : UInt64)) := ⟨cl35, Ar35, qk35, Sz35, Mz35, Hh35, Gg35⟩
          have cn36 : ∀ t, Steps p.tables e below (s₁.setTop (mkF m 41 #[.val (.ref a1), .val (.ref a2), .val (.int (1 : Int32)), .val (.int (2 : Int32))] [(.int (1 : Int32))])) t → Steps p.tables e below (s₁.setTop (entryFrame m #[(.ref a1), (.ref a2)] 4)) t := by
            intro t k
            refine cn34 t ?_
            refine X0.arraylength hx (by rw [e0]; exact Ar35.1) (State.isArrayOf_alike hZ.alike Ar35.2.1) (g := (mkF m 6 #[.val (.ref a1), .val (.ref a2), .val (.int (1 : Int32)), .val (.int (2 : Int32))] [(.ref a1), (.int (2 : Int32))])) rfl rfl (hb hby dB2_6) _ ?_
            rw [len_of Sz35 Mz35]
            show Steps p.tables e below (s₁.setTop (mkF m 7 #[.val (.ref a1), .val (.ref a2), .val (.int (1 : Int32)), .val (.int (2 : Int32))] [(.int (2 : Int32)), (.int (2 : Int32))])) _
            show Steps p.tables e below (s₁.setTop (mkF m 7 #[.val (.ref a1), .val (.ref a2), .val (.int (1 : Int32)), .val (.int (2 : Int32))] [(.int (2 : Int32)), (.int (2 : Int32))])) _
            refine o_icmpYes X0.here hx (pc' := 40) (hb hby dB2_7) (XT.ii_ge_t (by decide)) (by decide) (by decide) ?_
            refine o_iloadN X0.here hx (hb hby dB2_40) rfl ?_
            exact k
          obtain ⟨fs, hr, hrun, hended, hW, hsame⟩ := X0.leave (v := some (.int (1 : Int32))) (fun h => by rw [Bd.returns] at h; cases h)
          refine ⟨_, _, cn36 _ ?_, hrun, hended, _, _, rfl, ?_, ⟨_, rfl⟩, hW, hsame.mono (by decide) (by decide)⟩
          · exact retN X0 hx (t := .boolean) Bd.returns (by simp) (hb hby dB2_41) hr
          · show QB2 Z a1 a2 k1 k2 w0 w1 v0 v1 h0 n0 _ s₁.heap _
            rw [e0]
            exact ⟨(by simp [own_beats, h17_8, h29_15, h17_23, h29_30, own_asymm h29_15]), N0, rfl⟩
    · -- pc 29 taken
      have cn37 : ∀ t, Steps p.tables e below (s₁.setTop (mkF m 6 #[.val (.ref a1), .val (.ref a2), .val (.int (0 : Int32)), .val (.int (1 : Int32))] [(.ref a1), (.int (1 : Int32))])) t → Steps p.tables e below (s₁.setTop (entryFrame m #[(.ref a1), (.ref a2)] 4)) t := by
        intro t k
        refine cn14 t ?_
        refine o_ifYes X0.here hx (pc' := 34) (hb hby dB2_29) (XT.ll_ge_t h29_15) (by decide) (by decide) ?_
        refine o_iincV X0.here hx (1 : Int32) (hb hby dB2_34) rfl rfl (l' := #[.val (.ref a1), .val (.ref a2), .val (.int (0 : Int32)), .val (.int ((0 : Int32) + (1 : Int32)))]) rfl ?_
        show Steps p.tables e below (s₁.setTop (mkF m 37 #[.val (.ref a1), .val (.ref a2), .val (.int (0 : Int32)), .val (.int (1 : Int32))] [])) _
        show Steps p.tables e below (s₁.setTop (mkF m 37 #[.val (.ref a1), .val (.ref a2), .val (.int (0 : Int32)), .val (.int (1 : Int32))] [])) _
        refine o_goto X0.here hx (pc' := 4) (hb hby dB2_37) (by decide) (by decide) ?_
        refine o_iloadN X0.here hx (hb hby dB2_4) rfl ?_
        refine o_aloadN X0.here hx (hb hby dB2_5) rfl rfl ?_
        exact k
      obtain ⟨cl38, Ar38, qk38, Sz38, Mz38, Hh38, Gg38⟩ := pr4
      have pr4 : Arv Z h0 a1 k1 .double (2 : Int32) [(.double (FP.l2d w0)), (.double (FP.l2d w1))] (.double (0 : UInt64)) := ⟨cl38, Ar38, qk38, Sz38, Mz38, Hh38, Gg38⟩
      have cn39 : ∀ t, Steps p.tables e below (s₁.setTop (mkF m 12 #[.val (.ref a1), .val (.ref a2), .val (.int (0 : Int32)), .val (.int (1 : Int32))] [(.int (1 : Int32)), (.ref a1)])) t → Steps p.tables e below (s₁.setTop (entryFrame m #[(.ref a1), (.ref a2)] 4)) t := by
        intro t k
        refine cn37 t ?_
        refine X0.arraylength hx (by rw [e0]; exact Ar38.1) (State.isArrayOf_alike hZ.alike Ar38.2.1) (g := (mkF m 6 #[.val (.ref a1), .val (.ref a2), .val (.int (0 : Int32)), .val (.int (1 : Int32))] [(.ref a1), (.int (1 : Int32))])) rfl rfl (hb hby dB2_6) _ ?_
        rw [len_of Sz38 Mz38]
        show Steps p.tables e below (s₁.setTop (mkF m 7 #[.val (.ref a1), .val (.ref a2), .val (.int (0 : Int32)), .val (.int (1 : Int32))] [(.int (2 : Int32)), (.int (1 : Int32))])) _
        show Steps p.tables e below (s₁.setTop (mkF m 7 #[.val (.ref a1), .val (.ref a2), .val (.int (0 : Int32)), .val (.int (1 : Int32))] [(.int (2 : Int32)), (.int (1 : Int32))])) _
        refine o_icmpNo X0.here hx (hb hby dB2_7) (XT.ii_ge_f (by decide)) ?_
        refine o_aloadN X0.here hx (hb hby dB2_10) rfl rfl ?_
        refine o_iloadN X0.here hx (hb hby dB2_11) rfl ?_
        exact k
      obtain ⟨cl40, Ar40, qk40, Sz40, Mz40, Hh40, Gg40⟩ := pr4
      have pr4 : Arv Z h0 a1 k1 .double (2 : Int32) [(.double (FP.l2d w0)), (.double (FP.l2d w1))] (.double (0 : UInt64)) := ⟨cl40, Ar40, qk40, Sz40, Mz40, Hh40, Gg40⟩
      have cn41 : ∀ t, Steps p.tables e below (s₁.setTop (mkF m 15 #[.val (.ref a1), .val (.ref a2), .val (.int (0 : Int32)), .val (.int (1 : Int32))] [(.int (1 : Int32)), (.ref a2), (.double (FP.l2d w1))])) t → Steps p.tables e below (s₁.setTop (entryFrame m #[(.ref a1), (.ref a2)] 4)) t := by
        intro t k
        refine cn39 t ?_
        refine X0.daload hx (j := (1 : Int32)) (v := (.double (FP.l2d w1))) (by rw [e0]; exact Ar40.1) (State.isArrayOf_alike hZ.alike Ar40.2.1) Ar40.2.2 (inb_of Sz40 ⟨(by decide), (by decide)⟩) (Hh40.at (inb_of Sz40 ⟨(by decide), (by decide)⟩) rfl) (g := (mkF m 12 #[.val (.ref a1), .val (.ref a2), .val (.int (0 : Int32)), .val (.int (1 : Int32))] [(.int (1 : Int32)), (.ref a1)])) rfl rfl (hb hby dB2_12) _ ?_
        show Steps p.tables e below (s₁.setTop (mkF m 13 #[.val (.ref a1), .val (.ref a2), .val (.int (0 : Int32)), .val (.int (1 : Int32))] [(.double (FP.l2d w1))])) _
        refine o_aloadN X0.here hx (hb hby dB2_13) rfl rfl ?_
        refine o_iloadN X0.here hx (hb hby dB2_14) rfl ?_
        exact k
      obtain ⟨cl42, Ar42, qk42, Sz42, Mz42, Hh42, Gg42⟩ := pr5
      have pr5 : Arv Z h0 a2 k2 .double (2 : Int32) [(.double (FP.l2d v0)), (.double (FP.l2d v1))] (.double (0 : UInt64)) := ⟨cl42, Ar42, qk42, Sz42, Mz42, Hh42, Gg42⟩
      have cn43 : ∀ t, Steps p.tables e below (s₁.setTop (mkF m 17 #[.val (.ref a1), .val (.ref a2), .val (.int (0 : Int32)), .val (.int (1 : Int32))] [(.int (XT.cmpL w1 v1))])) t → Steps p.tables e below (s₁.setTop (entryFrame m #[(.ref a1), (.ref a2)] 4)) t := by
        intro t k
        refine cn41 t ?_
        refine X0.daload hx (j := (1 : Int32)) (v := (.double (FP.l2d v1))) (by rw [e0]; exact Ar42.1) (State.isArrayOf_alike hZ.alike Ar42.2.1) Ar42.2.2 (inb_of Sz42 ⟨(by decide), (by decide)⟩) (Hh42.at (inb_of Sz42 ⟨(by decide), (by decide)⟩) rfl) (g := (mkF m 15 #[.val (.ref a1), .val (.ref a2), .val (.int (0 : Int32)), .val (.int (1 : Int32))] [(.int (1 : Int32)), (.ref a2), (.double (FP.l2d w1))])) rfl rfl (hb hby dB2_15) _ ?_
        show Steps p.tables e below (s₁.setTop (mkF m 16 #[.val (.ref a1), .val (.ref a2), .val (.int (0 : Int32)), .val (.int (1 : Int32))] [(.double (FP.l2d v1)), (.double (FP.l2d w1))])) _
        refine o_dcmpS X0.here hx (hb hby dB2_16) (v := XT.cmpL w1 v1) (dcmpV_w (own_bd_b53 H1 (by decide)) (own_bd_b53 H3 (by decide)) _) ?_
        exact k
      by_cases h17_44 : v1 < w1
      · -- pc 17 not taken
        have cn45 : ∀ t, Steps p.tables e below (s₁.setTop (mkF m 21 #[.val (.ref a1), .val (.ref a2), .val (.int (0 : Int32)), .val (.int (1 : Int32))] [(.int (0 : Int32))])) t → Steps p.tables e below (s₁.setTop (entryFrame m #[(.ref a1), (.ref a2)] 4)) t := by
          intro t k
          refine cn43 t ?_
          refine o_ifNo X0.here hx (hb hby dB2_17) (XT.ll_le_f h17_44) ?_
          refine o_iconstV X0.here hx (0 : Int32) (hb hby dB2_20) rfl ?_
          exact k
        obtain ⟨fs, hr, hrun, hended, hW, hsame⟩ := X0.leave (v := some (.int (0 : Int32))) (fun h => by rw [Bd.returns] at h; cases h)
        refine ⟨_, _, cn45 _ ?_, hrun, hended, _, _, rfl, ?_, ⟨_, rfl⟩, hW, hsame.mono (by decide) (by decide)⟩
        · exact retN X0 hx (t := .boolean) Bd.returns (by simp) (hb hby dB2_21) hr
        · show QB2 Z a1 a2 k1 k2 w0 w1 v0 v1 h0 n0 _ s₁.heap _
          rw [e0]
          exact ⟨(by simp [own_beats, h17_8, h29_15, h17_44, own_asymm h17_44]), N0, rfl⟩
      · -- pc 17 taken
        have cn46 : ∀ t, Steps p.tables e below (s₁.setTop (mkF m 24 #[.val (.ref a1), .val (.ref a2), .val (.int (0 : Int32)), .val (.int (1 : Int32))] [(.int (1 : Int32)), (.ref a1)])) t → Steps p.tables e below (s₁.setTop (entryFrame m #[(.ref a1), (.ref a2)] 4)) t := by
          intro t k
          refine cn43 t ?_
          refine o_ifYes X0.here hx (pc' := 22) (hb hby dB2_17) (XT.ll_le_t h17_44) (by decide) (by decide) ?_
          refine o_aloadN X0.here hx (hb hby dB2_22) rfl rfl ?_
          refine o_iloadN X0.here hx (hb hby dB2_23) rfl ?_
          exact k
        obtain ⟨cl47, Ar47, qk47, Sz47, Mz47, Hh47, Gg47⟩ := pr4
        have pr4 : Arv Z h0 a1 k1 .double (2 : Int32) [(.double (FP.l2d w0)), (.double (FP.l2d w1))] (.double (0 : UInt64)) := ⟨cl47, Ar47, qk47, Sz47, Mz47, Hh47, Gg47⟩
        have cn48 : ∀ t, Steps p.tables e below (s₁.setTop (mkF m 27 #[.val (.ref a1), .val (.ref a2), .val (.int (0 : Int32)), .val (.int (1 : Int32))] [(.int (1 : Int32)), (.ref a2), (.double (FP.l2d w1))])) t → Steps p.tables e below (s₁.setTop (entryFrame m #[(.ref a1), (.ref a2)] 4)) t := by
          intro t k
          refine cn46 t ?_
          refine X0.daload hx (j := (1 : Int32)) (v := (.double (FP.l2d w1))) (by rw [e0]; exact Ar47.1) (State.isArrayOf_alike hZ.alike Ar47.2.1) Ar47.2.2 (inb_of Sz47 ⟨(by decide), (by decide)⟩) (Hh47.at (inb_of Sz47 ⟨(by decide), (by decide)⟩) rfl) (g := (mkF m 24 #[.val (.ref a1), .val (.ref a2), .val (.int (0 : Int32)), .val (.int (1 : Int32))] [(.int (1 : Int32)), (.ref a1)])) rfl rfl (hb hby dB2_24) _ ?_
          show Steps p.tables e below (s₁.setTop (mkF m 25 #[.val (.ref a1), .val (.ref a2), .val (.int (0 : Int32)), .val (.int (1 : Int32))] [(.double (FP.l2d w1))])) _
          refine o_aloadN X0.here hx (hb hby dB2_25) rfl rfl ?_
          refine o_iloadN X0.here hx (hb hby dB2_26) rfl ?_
          exact k
        obtain ⟨cl49, Ar49, qk49, Sz49, Mz49, Hh49, Gg49⟩ := pr5
        have pr5 : Arv Z h0 a2 k2 .double (2 : Int32) [(.double (FP.l2d v0)), (.double (FP.l2d v1))] (.double (0 : UInt64)) := ⟨cl49, Ar49, qk49, Sz49, Mz49, Hh49, Gg49⟩
        have cn50 : ∀ t, Steps p.tables e below (s₁.setTop (mkF m 29 #[.val (.ref a1), .val (.ref a2), .val (.int (0 : Int32)), .val (.int (1 : Int32))] [(.int (XT.cmpL w1 v1))])) t → Steps p.tables e below (s₁.setTop (entryFrame m #[(.ref a1), (.ref a2)] 4)) t := by
          intro t k
          refine cn48 t ?_
          refine X0.daload hx (j := (1 : Int32)) (v := (.double (FP.l2d v1))) (by rw [e0]; exact Ar49.1) (State.isArrayOf_alike hZ.alike Ar49.2.1) Ar49.2.2 (inb_of Sz49 ⟨(by decide), (by decide)⟩) (Hh49.at (inb_of Sz49 ⟨(by decide), (by decide)⟩) rfl) (g := (mkF m 27 #[.val (.ref a1), .val (.ref a2), .val (.int (0 : Int32)), .val (.int (1 : Int32))] [(.int (1 : Int32)), (.ref a2), (.double (FP.l2d w1))])) rfl rfl (hb hby dB2_27) _ ?_
          show Steps p.tables e below (s₁.setTop (mkF m 28 #[.val (.ref a1), .val (.ref a2), .val (.int (0 : Int32)), .val (.int (1 : Int32))] [(.double (FP.l2d v1)), (.double (FP.l2d w1))])) _
          refine o_dcmpS X0.here hx (hb hby dB2_28) (v := XT.cmpL w1 v1) (dcmpV_w (own_bd_b53 H1 (by decide)) (own_bd_b53 H3 (by decide)) _) ?_
          exact k
        by_cases h29_51 : w1 < v1
        · -- pc 29 not taken
          have cn52 : ∀ t, Steps p.tables e below (s₁.setTop (mkF m 6 #[.val (.ref a1), .val (.ref a2), .val (.int (1 : Int32)), .val (.int (2 : Int32))] [(.ref a1), (.int (2 : Int32))])) t → Steps p.tables e below (s₁.setTop (entryFrame m #[(.ref a1), (.ref a2)] 4)) t := by
            intro t k
            refine cn50 t ?_
            refine o_ifNo X0.here hx (hb hby dB2_29) (XT.ll_ge_f h29_51) ?_
            refine o_iconstV X0.here hx (1 : Int32) (hb hby dB2_32) rfl ?_
            refine o_istoreN X0.here hx (hb hby dB2_33) (l' := #[.val (.ref a1), .val (.ref a2), .val (.int (1 : Int32)), .val (.int (1 : Int32))]) rfl ?_
            refine o_iincV X0.here hx (1 : Int32) (hb hby dB2_34) rfl rfl (l' := #[.val (.ref a1), .val (.ref a2), .val (.int (1 : Int32)), .val (.int ((1 : Int32) + (1 : Int32)))]) rfl ?_
            show Steps p.tables e below (s₁.setTop (mkF m 37 #[.val (.ref a1), .val (.ref a2), .val (.int (1 : Int32)), .val (.int (2 : Int32))] [])) _
            show Steps p.tables e below (s₁.setTop (mkF m 37 #[.val (.ref a1), .val (.ref a2), .val (.int (1 : Int32)), .val (.int (2 : Int32))] [])) _
            refine o_goto X0.here hx (pc' := 4) (hb hby dB2_37) (by decide) (by decide) ?_
            refine o_iloadN X0.here hx (hb hby dB2_4) rfl ?_
            refine o_aloadN X0.here hx (hb hby dB2_5) rfl rfl ?_
            exact k
          obtain ⟨cl53, Ar53, qk53, Sz53, Mz53, Hh53, Gg53⟩ := pr4
          have pr4 : Arv Z h0 a1 k1 .double (2 : Int32) [(.double (FP.l2d w0)), (.double (FP.l2d w1))] (.double (0 : UInt64)) := ⟨cl53, Ar53, qk53, Sz53, Mz53, Hh53, Gg53⟩
          have cn54 : ∀ t, Steps p.tables e below (s₁.setTop (mkF m 41 #[.val (.ref a1), .val (.ref a2), .val (.int (1 : Int32)), .val (.int (2 : Int32))] [(.int (1 : Int32))])) t → Steps p.tables e below (s₁.setTop (entryFrame m #[(.ref a1), (.ref a2)] 4)) t := by
            intro t k
            refine cn52 t ?_
            refine X0.arraylength hx (by rw [e0]; exact Ar53.1) (State.isArrayOf_alike hZ.alike Ar53.2.1) (g := (mkF m 6 #[.val (.ref a1), .val (.ref a2), .val (.int (1 : Int32)), .val (.int (2 : Int32))] [(.ref a1), (.int (2 : Int32))])) rfl rfl (hb hby dB2_6) _ ?_
            rw [len_of Sz53 Mz53]
            show Steps p.tables e below (s₁.setTop (mkF m 7 #[.val (.ref a1), .val (.ref a2), .val (.int (1 : Int32)), .val (.int (2 : Int32))] [(.int (2 : Int32)), (.int (2 : Int32))])) _
            show Steps p.tables e below (s₁.setTop (mkF m 7 #[.val (.ref a1), .val (.ref a2), .val (.int (1 : Int32)), .val (.int (2 : Int32))] [(.int (2 : Int32)), (.int (2 : Int32))])) _
            refine o_icmpYes X0.here hx (pc' := 40) (hb hby dB2_7) (XT.ii_ge_t (by decide)) (by decide) (by decide) ?_
            refine o_iloadN X0.here hx (hb hby dB2_40) rfl ?_
            exact k
          obtain ⟨fs, hr, hrun, hended, hW, hsame⟩ := X0.leave (v := some (.int (1 : Int32))) (fun h => by rw [Bd.returns] at h; cases h)
          refine ⟨_, _, cn54 _ ?_, hrun, hended, _, _, rfl, ?_, ⟨_, rfl⟩, hW, hsame.mono (by decide) (by decide)⟩
          · exact retN X0 hx (t := .boolean) Bd.returns (by simp) (hb hby dB2_41) hr
          · show QB2 Z a1 a2 k1 k2 w0 w1 v0 v1 h0 n0 _ s₁.heap _
            rw [e0]
            exact ⟨(by simp [own_beats, h17_8, h29_15, h17_44, h29_51, own_asymm h29_51]), N0, rfl⟩
        · -- pc 29 taken
          have cn55 : ∀ t, Steps p.tables e below (s₁.setTop (mkF m 6 #[.val (.ref a1), .val (.ref a2), .val (.int (0 : Int32)), .val (.int (2 : Int32))] [(.ref a1), (.int (2 : Int32))])) t → Steps p.tables e below (s₁.setTop (entryFrame m #[(.ref a1), (.ref a2)] 4)) t := by
            intro t k
            refine cn50 t ?_
            refine o_ifYes X0.here hx (pc' := 34) (hb hby dB2_29) (XT.ll_ge_t h29_51) (by decide) (by decide) ?_
            refine o_iincV X0.here hx (1 : Int32) (hb hby dB2_34) rfl rfl (l' := #[.val (.ref a1), .val (.ref a2), .val (.int (0 : Int32)), .val (.int ((1 : Int32) + (1 : Int32)))]) rfl ?_
            show Steps p.tables e below (s₁.setTop (mkF m 37 #[.val (.ref a1), .val (.ref a2), .val (.int (0 : Int32)), .val (.int (2 : Int32))] [])) _
            show Steps p.tables e below (s₁.setTop (mkF m 37 #[.val (.ref a1), .val (.ref a2), .val (.int (0 : Int32)), .val (.int (2 : Int32))] [])) _
            refine o_goto X0.here hx (pc' := 4) (hb hby dB2_37) (by decide) (by decide) ?_
            refine o_iloadN X0.here hx (hb hby dB2_4) rfl ?_
            refine o_aloadN X0.here hx (hb hby dB2_5) rfl rfl ?_
            exact k
          obtain ⟨cl56, Ar56, qk56, Sz56, Mz56, Hh56, Gg56⟩ := pr4
          have pr4 : Arv Z h0 a1 k1 .double (2 : Int32) [(.double (FP.l2d w0)), (.double (FP.l2d w1))] (.double (0 : UInt64)) := ⟨cl56, Ar56, qk56, Sz56, Mz56, Hh56, Gg56⟩
          have cn57 : ∀ t, Steps p.tables e below (s₁.setTop (mkF m 41 #[.val (.ref a1), .val (.ref a2), .val (.int (0 : Int32)), .val (.int (2 : Int32))] [(.int (0 : Int32))])) t → Steps p.tables e below (s₁.setTop (entryFrame m #[(.ref a1), (.ref a2)] 4)) t := by
            intro t k
            refine cn55 t ?_
            refine X0.arraylength hx (by rw [e0]; exact Ar56.1) (State.isArrayOf_alike hZ.alike Ar56.2.1) (g := (mkF m 6 #[.val (.ref a1), .val (.ref a2), .val (.int (0 : Int32)), .val (.int (2 : Int32))] [(.ref a1), (.int (2 : Int32))])) rfl rfl (hb hby dB2_6) _ ?_
            rw [len_of Sz56 Mz56]
            show Steps p.tables e below (s₁.setTop (mkF m 7 #[.val (.ref a1), .val (.ref a2), .val (.int (0 : Int32)), .val (.int (2 : Int32))] [(.int (2 : Int32)), (.int (2 : Int32))])) _
            show Steps p.tables e below (s₁.setTop (mkF m 7 #[.val (.ref a1), .val (.ref a2), .val (.int (0 : Int32)), .val (.int (2 : Int32))] [(.int (2 : Int32)), (.int (2 : Int32))])) _
            refine o_icmpYes X0.here hx (pc' := 40) (hb hby dB2_7) (XT.ii_ge_t (by decide)) (by decide) (by decide) ?_
            refine o_iloadN X0.here hx (hb hby dB2_40) rfl ?_
            exact k
          obtain ⟨fs, hr, hrun, hended, hW, hsame⟩ := X0.leave (v := some (.int (0 : Int32))) (fun h => by rw [Bd.returns] at h; cases h)
          refine ⟨_, _, cn57 _ ?_, hrun, hended, _, _, rfl, ?_, ⟨_, rfl⟩, hW, hsame.mono (by decide) (by decide)⟩
          · exact retN X0 hx (t := .boolean) Bd.returns (by simp) (hb hby dB2_41) hr
          · show QB2 Z a1 a2 k1 k2 w0 w1 v0 v1 h0 n0 _ s₁.heap _
            rw [e0]
            exact ⟨(by simp [own_beats, h17_8, h29_15, h17_44, h29_51]), N0, rfl⟩

theorem dE2_0 : decode method_3_code 0 = .ok (.iload_n 0, 1) := by decide +kernel
theorem dE2_1 : decode method_3_code 1 = .ok (.iconst 1, 1) := by decide +kernel
theorem dE2_2 : decode method_3_code 2 = .ok (.if_icmp .lt 10, 3) := by decide +kernel
theorem dE2_5 : decode method_3_code 5 = .ok (.dload_n 1, 1) := by decide +kernel
theorem dE2_6 : decode method_3_code 6 = .ok (.dload 7, 2) := by decide +kernel
theorem dE2_8 : decode method_3_code 8 = .ok (.dcmp .g, 1) := by decide +kernel
theorem dE2_9 : decode method_3_code 9 = .ok (.ifCond .gt 7, 3) := by decide +kernel
theorem dE2_12 : decode method_3_code 12 = .ok (.iconst 1, 1) := by decide +kernel
theorem dE2_13 : decode method_3_code 13 = .ok (.goto 4, 3) := by decide +kernel
theorem dE2_16 : decode method_3_code 16 = .ok (.iconst 0, 1) := by decide +kernel
theorem dE2_17 : decode method_3_code 17 = .ok (.istore 13, 2) := by decide +kernel
theorem dE2_19 : decode method_3_code 19 = .ok (.iload_n 0, 1) := by decide +kernel
theorem dE2_20 : decode method_3_code 20 = .ok (.iconst 2, 1) := by decide +kernel
theorem dE2_21 : decode method_3_code 21 = .ok (.if_icmp .lt 10, 3) := by decide +kernel
theorem dE2_24 : decode method_3_code 24 = .ok (.dload_n 3, 1) := by decide +kernel
theorem dE2_25 : decode method_3_code 25 = .ok (.dload 9, 2) := by decide +kernel
theorem dE2_27 : decode method_3_code 27 = .ok (.dcmp .g, 1) := by decide +kernel
theorem dE2_28 : decode method_3_code 28 = .ok (.ifCond .gt 7, 3) := by decide +kernel
theorem dE2_31 : decode method_3_code 31 = .ok (.iconst 1, 1) := by decide +kernel
theorem dE2_32 : decode method_3_code 32 = .ok (.goto 4, 3) := by decide +kernel
theorem dE2_35 : decode method_3_code 35 = .ok (.iconst 0, 1) := by decide +kernel
theorem dE2_36 : decode method_3_code 36 = .ok (.istore 14, 2) := by decide +kernel
theorem dE2_38 : decode method_3_code 38 = .ok (.iload_n 0, 1) := by decide +kernel
theorem dE2_39 : decode method_3_code 39 = .ok (.iconst 3, 1) := by decide +kernel
theorem dE2_40 : decode method_3_code 40 = .ok (.if_icmp .lt 11, 3) := by decide +kernel
theorem dE2_51 : decode method_3_code 51 = .ok (.iconst 1, 1) := by decide +kernel
theorem dE2_52 : decode method_3_code 52 = .ok (.goto 4, 3) := by decide +kernel
theorem dE2_56 : decode method_3_code 56 = .ok (.istore 15, 2) := by decide +kernel
theorem dE2_58 : decode method_3_code 58 = .ok (.iload_n 0, 1) := by decide +kernel
theorem dE2_59 : decode method_3_code 59 = .ok (.iconst 1, 1) := by decide +kernel
theorem dE2_60 : decode method_3_code 60 = .ok (.if_icmp .lt 14, 3) := by decide +kernel
theorem dE2_63 : decode method_3_code 63 = .ok (.dload_n 1, 1) := by decide +kernel
theorem dE2_64 : decode method_3_code 64 = .ok (.dload 7, 2) := by decide +kernel
theorem dE2_66 : decode method_3_code 66 = .ok (.dcmp .g, 1) := by decide +kernel
theorem dE2_67 : decode method_3_code 67 = .ok (.ifCond .ge 7, 3) := by decide +kernel
theorem dE2_70 : decode method_3_code 70 = .ok (.iconst 1, 1) := by decide +kernel
theorem dE2_71 : decode method_3_code 71 = .ok (.goto 4, 3) := by decide +kernel
theorem dE2_74 : decode method_3_code 74 = .ok (.iconst 0, 1) := by decide +kernel
theorem dE2_75 : decode method_3_code 75 = .ok (.istore 16, 2) := by decide +kernel
theorem dE2_77 : decode method_3_code 77 = .ok (.iload_n 0, 1) := by decide +kernel
theorem dE2_78 : decode method_3_code 78 = .ok (.iconst 2, 1) := by decide +kernel
theorem dE2_79 : decode method_3_code 79 = .ok (.if_icmp .lt 14, 3) := by decide +kernel
theorem dE2_82 : decode method_3_code 82 = .ok (.dload_n 3, 1) := by decide +kernel
theorem dE2_83 : decode method_3_code 83 = .ok (.dload 9, 2) := by decide +kernel
theorem dE2_85 : decode method_3_code 85 = .ok (.dcmp .g, 1) := by decide +kernel
theorem dE2_86 : decode method_3_code 86 = .ok (.ifCond .ge 7, 3) := by decide +kernel
theorem dE2_89 : decode method_3_code 89 = .ok (.iconst 1, 1) := by decide +kernel
theorem dE2_90 : decode method_3_code 90 = .ok (.goto 4, 3) := by decide +kernel
theorem dE2_93 : decode method_3_code 93 = .ok (.iconst 0, 1) := by decide +kernel
theorem dE2_94 : decode method_3_code 94 = .ok (.istore 17, 2) := by decide +kernel
theorem dE2_96 : decode method_3_code 96 = .ok (.iload_n 0, 1) := by decide +kernel
theorem dE2_97 : decode method_3_code 97 = .ok (.iconst 3, 1) := by decide +kernel
theorem dE2_98 : decode method_3_code 98 = .ok (.if_icmp .lt 15, 3) := by decide +kernel
theorem dE2_113 : decode method_3_code 113 = .ok (.iconst 0, 1) := by decide +kernel
theorem dE2_114 : decode method_3_code 114 = .ok (.istore 18, 2) := by decide +kernel
theorem dE2_116 : decode method_3_code 116 = .ok (.iload 13, 2) := by decide +kernel
theorem dE2_118 : decode method_3_code 118 = .ok (.ifCond .eq 32, 3) := by decide +kernel
theorem dE2_121 : decode method_3_code 121 = .ok (.iload 14, 2) := by decide +kernel
theorem dE2_123 : decode method_3_code 123 = .ok (.ifCond .eq 27, 3) := by decide +kernel
theorem dE2_126 : decode method_3_code 126 = .ok (.iload 15, 2) := by decide +kernel
theorem dE2_128 : decode method_3_code 128 = .ok (.ifCond .eq 22, 3) := by decide +kernel
theorem dE2_131 : decode method_3_code 131 = .ok (.iload 16, 2) := by decide +kernel
theorem dE2_133 : decode method_3_code 133 = .ok (.ifCond .ne 13, 3) := by decide +kernel
theorem dE2_136 : decode method_3_code 136 = .ok (.iload 17, 2) := by decide +kernel
theorem dE2_138 : decode method_3_code 138 = .ok (.ifCond .ne 8, 3) := by decide +kernel
theorem dE2_141 : decode method_3_code 141 = .ok (.iload 18, 2) := by decide +kernel
theorem dE2_143 : decode method_3_code 143 = .ok (.ifCond .eq 7, 3) := by decide +kernel
theorem dE2_146 : decode method_3_code 146 = .ok (.iconst 1, 1) := by decide +kernel
theorem dE2_147 : decode method_3_code 147 = .ok (.goto 4, 3) := by decide +kernel
theorem dE2_150 : decode method_3_code 150 = .ok (.iconst 0, 1) := by decide +kernel
theorem dE2_151 : decode method_3_code 151 = .ok (.ireturn, 1) := by decide +kernel
theorem efE2 (m : MethodId) (x0 : Int32) (x1 : UInt64) (x2 : UInt64) (x3 : UInt64) (x4 : UInt64) (x5 : UInt64) (x6 : UInt64) : entryFrame m #[(.int x0), (.double x1), (.double x2), (.double x3), (.double x4), (.double x5), (.double x6)] 19 = (mkF m 0 #[.val (.int x0), .val (.double x1), .second, .val (.double x2), .second, .val (.double x3), .second, .val (.double x4), .second, .val (.double x5), .second, .val (.double x6), .second, .unset, .unset, .unset, .unset, .unset, .unset] []) := by first | (simp [entryFrame, mkF, argsToLocals, Value.category]; done) | rfl
def QE2 (Z : State) (x0 : Int64) (x1 : Int64) (x2 : Int64) (y0 : Int64) (y1 : Int64) (y2 : Int64) (h0 : Heap) (n0 : Nat) (v : Option Value) (h : Heap) (L : List Loc) : Prop := v = some (.int (if own_beats [(x0, y0), (x1, y1)] false = true then (1 : Int32) else 0)) ∧ Fr n0 L ∧ h = h0
set_option maxRecDepth 65536 in
set_option maxHeartbeats 40000000 in
theorem rmE2 (l : Launch) (Z : State) (a0 : Array Value) (hw : ∀ d ∈ tables_1, d.before a0 Z = true) (ws : List Jvm.Cond) (x0 : Int64) (x1 : Int64) (x2 : Int64) (y0 : Int64) (y1 : Int64) (y2 : Int64) (h0 : Heap) (n0 : Nat) (Z0 : n0 ≤ h0.size) (H0 : OBd 2147483648 x0) (H1 : OBd 2147483648 x1) (H2 : OBd 2147483648 x2) (H3 : OBd 2147483648 y0) (H4 : OBd 2147483648 y1) (H5 : OBd 2147483648 y2) :
    MetFree l (⟨"com/example/pareto_loom/paretoloom/model/NondominatedSetBeatsPinLaw", "expect", "(IDDDDDD)Z"⟩ : MethodName) (head1 (Jvm.Cond.code (⟨"com/example/pareto_loom/paretoloom/model/NondominatedSetBeatsPinLaw", "expect", "(IDDDDDD)Z"⟩ : MethodName) method_3_code 19 (some .boolean) :: ws) ({ frames := 0, cells := 0, slots := 0, locals := 0 } : Room)) (fun a U => a = #[(.int (2 : Int32)), (.double (FP.l2d x0)), (.double (FP.l2d x1)), (.double (FP.l2d x2)), (.double (FP.l2d y0)), (.double (FP.l2d y1)), (.double (FP.l2d y2))] ∧ Z.Warmed39 U.vm ∧ U.heap = h0) (fun _ _ _ _ _ => True) (fun _ U o U' => ∃ v L, o = .returned v ∧ QE2 Z x0 x1 x2 y0 y1 y2 h0 n0 v U'.heap L ∧ FrameEnd U o U' L ({ frames := 0, cells := 0, slots := 0, locals := 0 } : Room).cells ({ frames := 0, cells := 0, slots := 0, locals := 0 } : Room).slots) := by
  refine MetFree.of_bodySF (plainFor_of_name pn_com_example_pareto_loom_paretoloom_model_NondominatedSetBeatsPinLaw) hisR ?_
  intro p e s m args below meth c s₁ Bd hml0 hP hK
  obtain ⟨rfl, hZ, hh⟩ := hP
  have hx := Bd.exec
  have hby := Bd.bytes
  have hml : c.maxLocals = 19 := hml0
  have hown : s.vm.findClass "com/example/pareto_loom/paretoloom/model/NondominatedSetBeatsPinLaw" = some m.cls := findClass_of_methodNamed Bd.named
  have hnm := (name_of_methodNamed Bd.named Bd.method).1
  have X0 : Stand p l e ({ frames := 0, cells := 0, slots := 0, locals := 0 } : Room) s m #[(.int (2 : Int32)), (.double (FP.l2d x0)), (.double (FP.l2d x1)), (.double (FP.l2d x2)), (.double (FP.l2d y0)), (.double (FP.l2d y1)), (.double (FP.l2d y2))] below meth c s₁ [] 0 0 := Stand.of_body Bd
  have e0 : s₁.heap = h0 := by rw [← hh, Bd.state]; rfl
  have N0 := Fr.nil n0
  have pre0 : ∀ t, Steps p.tables e below (s₁.setTop (mkF m 0 #[.val (.int (2 : Int32)), .val (.double (FP.l2d x0)), .second, .val (.double (FP.l2d x1)), .second, .val (.double (FP.l2d x2)), .second, .val (.double (FP.l2d y0)), .second, .val (.double (FP.l2d y1)), .second, .val (.double (FP.l2d y2)), .second, .unset, .unset, .unset, .unset, .unset, .unset] [])) t → Steps p.tables e below (s₁.setTop (entryFrame m #[(.int (2 : Int32)), (.double (FP.l2d x0)), (.double (FP.l2d x1)), (.double (FP.l2d x2)), (.double (FP.l2d y0)), (.double (FP.l2d y1)), (.double (FP.l2d y2))] 19)) t := fun t k => castTop (efE2 m (2 : Int32) (FP.l2d x0) (FP.l2d x1) (FP.l2d x2) (FP.l2d y0) (FP.l2d y1) (FP.l2d y2)) k
  have cn1 : ∀ t, Steps p.tables e below (s₁.setTop (mkF m 9 #[.val (.int (2 : Int32)), .val (.double (FP.l2d x0)), .second, .val (.double (FP.l2d x1)), .second, .val (.double (FP.l2d x2)), .second, .val (.double (FP.l2d y0)), .second, .val (.double (FP.l2d y1)), .second, .val (.double (FP.l2d y2)), .second, .unset, .unset, .unset, .unset, .unset, .unset] [(.int (XT.cmpL x0 y0))])) t → Steps p.tables e below (s₁.setTop (entryFrame m #[(.int (2 : Int32)), (.double (FP.l2d x0)), (.double (FP.l2d x1)), (.double (FP.l2d x2)), (.double (FP.l2d y0)), (.double (FP.l2d y1)), (.double (FP.l2d y2))] 19)) t := by
    intro t k
    refine pre0 t ?_
    refine o_iloadN X0.here hx (hb hby dE2_0) rfl ?_
    refine o_iconstV X0.here hx (1 : Int32) (hb hby dE2_1) rfl ?_
    show Steps p.tables e below (s₁.setTop (mkF m 2 #[.val (.int (2 : Int32)), .val (.double (FP.l2d x0)), .second, .val (.double (FP.l2d x1)), .second, .val (.double (FP.l2d x2)), .second, .val (.double (FP.l2d y0)), .second, .val (.double (FP.l2d y1)), .second, .val (.double (FP.l2d y2)), .second, .unset, .unset, .unset, .unset, .unset, .unset] [(.int (1 : Int32)), (.int (2 : Int32))])) _
    refine o_icmpNo X0.here hx (hb hby dE2_2) (XT.ii_lt_f (by decide)) ?_
    refine o_dloadN X0.here hx (hb hby dE2_5) rfl ?_
    refine o_dload X0.here hx (hb hby dE2_6) rfl ?_
    refine o_dcmpS X0.here hx (hb hby dE2_8) (v := XT.cmpL x0 y0) (dcmpV_w (own_bd_b53 H0 (by decide)) (own_bd_b53 H3 (by decide)) _) ?_
    exact k
  have cn2 : ∀ t, Steps p.tables e below (s₁.setTop (mkF m 17 #[.val (.int (2 : Int32)), .val (.double (FP.l2d x0)), .second, .val (.double (FP.l2d x1)), .second, .val (.double (FP.l2d x2)), .second, .val (.double (FP.l2d y0)), .second, .val (.double (FP.l2d y1)), .second, .val (.double (FP.l2d y2)), .second, .unset, .unset, .unset, .unset, .unset, .unset] [(.int (if y0 < x0 then (0 : Int32) else 1))])) t → Steps p.tables e below (s₁.setTop (entryFrame m #[(.int (2 : Int32)), (.double (FP.l2d x0)), (.double (FP.l2d x1)), (.double (FP.l2d x2)), (.double (FP.l2d y0)), (.double (FP.l2d y1)), (.double (FP.l2d y2))] 19)) t := by
    intro t k
    by_cases h9_3 : y0 < x0
    · -- pc 9 taken
      have cn4 : ∀ t, Steps p.tables e below (s₁.setTop (mkF m 17 #[.val (.int (2 : Int32)), .val (.double (FP.l2d x0)), .second, .val (.double (FP.l2d x1)), .second, .val (.double (FP.l2d x2)), .second, .val (.double (FP.l2d y0)), .second, .val (.double (FP.l2d y1)), .second, .val (.double (FP.l2d y2)), .second, .unset, .unset, .unset, .unset, .unset, .unset] [(.int (0 : Int32))])) t → Steps p.tables e below (s₁.setTop (entryFrame m #[(.int (2 : Int32)), (.double (FP.l2d x0)), (.double (FP.l2d x1)), (.double (FP.l2d x2)), (.double (FP.l2d y0)), (.double (FP.l2d y1)), (.double (FP.l2d y2))] 19)) t := by
        intro t k
        refine cn1 t ?_
        refine o_ifYes X0.here hx (pc' := 16) (hb hby dE2_9) (XT.ll_gt_t h9_3) (by decide) (by decide) ?_
        refine o_iconstV X0.here hx (0 : Int32) (hb hby dE2_16) rfl ?_
        exact k
      rw [show (if y0 < x0 then (0 : Int32) else 1) = (0 : Int32) from (if_pos h9_3)] at k
      exact cn4 t k
    · -- pc 9 not taken
      have cn5 : ∀ t, Steps p.tables e below (s₁.setTop (mkF m 17 #[.val (.int (2 : Int32)), .val (.double (FP.l2d x0)), .second, .val (.double (FP.l2d x1)), .second, .val (.double (FP.l2d x2)), .second, .val (.double (FP.l2d y0)), .second, .val (.double (FP.l2d y1)), .second, .val (.double (FP.l2d y2)), .second, .unset, .unset, .unset, .unset, .unset, .unset] [(.int (1 : Int32))])) t → Steps p.tables e below (s₁.setTop (entryFrame m #[(.int (2 : Int32)), (.double (FP.l2d x0)), (.double (FP.l2d x1)), (.double (FP.l2d x2)), (.double (FP.l2d y0)), (.double (FP.l2d y1)), (.double (FP.l2d y2))] 19)) t := by
        intro t k
        refine cn1 t ?_
        refine o_ifNo X0.here hx (hb hby dE2_9) (XT.ll_gt_f h9_3) ?_
        refine o_iconstV X0.here hx (1 : Int32) (hb hby dE2_12) rfl ?_
        show Steps p.tables e below (s₁.setTop (mkF m 13 #[.val (.int (2 : Int32)), .val (.double (FP.l2d x0)), .second, .val (.double (FP.l2d x1)), .second, .val (.double (FP.l2d x2)), .second, .val (.double (FP.l2d y0)), .second, .val (.double (FP.l2d y1)), .second, .val (.double (FP.l2d y2)), .second, .unset, .unset, .unset, .unset, .unset, .unset] [(.int (1 : Int32))])) _
        refine o_goto X0.here hx (pc' := 17) (hb hby dE2_13) (by decide) (by decide) ?_
        exact k
      rw [show (if y0 < x0 then (0 : Int32) else 1) = (1 : Int32) from (if_neg h9_3)] at k
      exact cn5 t k
  have cn6 : ∀ t, Steps p.tables e below (s₁.setTop (mkF m 28 #[.val (.int (2 : Int32)), .val (.double (FP.l2d x0)), .second, .val (.double (FP.l2d x1)), .second, .val (.double (FP.l2d x2)), .second, .val (.double (FP.l2d y0)), .second, .val (.double (FP.l2d y1)), .second, .val (.double (FP.l2d y2)), .second, .val (.int (if y0 < x0 then (0 : Int32) else 1)), .unset, .unset, .unset, .unset, .unset] [(.int (XT.cmpL x1 y1))])) t → Steps p.tables e below (s₁.setTop (entryFrame m #[(.int (2 : Int32)), (.double (FP.l2d x0)), (.double (FP.l2d x1)), (.double (FP.l2d x2)), (.double (FP.l2d y0)), (.double (FP.l2d y1)), (.double (FP.l2d y2))] 19)) t := by
    intro t k
    refine cn2 t ?_
    refine o_istore X0.here hx (hb hby dE2_17) (l' := #[.val (.int (2 : Int32)), .val (.double (FP.l2d x0)), .second, .val (.double (FP.l2d x1)), .second, .val (.double (FP.l2d x2)), .second, .val (.double (FP.l2d y0)), .second, .val (.double (FP.l2d y1)), .second, .val (.double (FP.l2d y2)), .second, .val (.int (if y0 < x0 then (0 : Int32) else 1)), .unset, .unset, .unset, .unset, .unset]) rfl ?_
    refine o_iloadN X0.here hx (hb hby dE2_19) rfl ?_
    refine o_iconstV X0.here hx (2 : Int32) (hb hby dE2_20) rfl ?_
    show Steps p.tables e below (s₁.setTop (mkF m 21 #[.val (.int (2 : Int32)), .val (.double (FP.l2d x0)), .second, .val (.double (FP.l2d x1)), .second, .val (.double (FP.l2d x2)), .second, .val (.double (FP.l2d y0)), .second, .val (.double (FP.l2d y1)), .second, .val (.double (FP.l2d y2)), .second, .val (.int (if y0 < x0 then (0 : Int32) else 1)), .unset, .unset, .unset, .unset, .unset] [(.int (2 : Int32)), (.int (2 : Int32))])) _
    refine o_icmpNo X0.here hx (hb hby dE2_21) (XT.ii_lt_f (by decide)) ?_
    refine o_dloadN X0.here hx (hb hby dE2_24) rfl ?_
    refine o_dload X0.here hx (hb hby dE2_25) rfl ?_
    refine o_dcmpS X0.here hx (hb hby dE2_27) (v := XT.cmpL x1 y1) (dcmpV_w (own_bd_b53 H1 (by decide)) (own_bd_b53 H4 (by decide)) _) ?_
    exact k
  have cn7 : ∀ t, Steps p.tables e below (s₁.setTop (mkF m 36 #[.val (.int (2 : Int32)), .val (.double (FP.l2d x0)), .second, .val (.double (FP.l2d x1)), .second, .val (.double (FP.l2d x2)), .second, .val (.double (FP.l2d y0)), .second, .val (.double (FP.l2d y1)), .second, .val (.double (FP.l2d y2)), .second, .val (.int (if y0 < x0 then (0 : Int32) else 1)), .unset, .unset, .unset, .unset, .unset] [(.int (if y1 < x1 then (0 : Int32) else 1))])) t → Steps p.tables e below (s₁.setTop (entryFrame m #[(.int (2 : Int32)), (.double (FP.l2d x0)), (.double (FP.l2d x1)), (.double (FP.l2d x2)), (.double (FP.l2d y0)), (.double (FP.l2d y1)), (.double (FP.l2d y2))] 19)) t := by
    intro t k
    by_cases h28_8 : y1 < x1
    · -- pc 28 taken
      have cn9 : ∀ t, Steps p.tables e below (s₁.setTop (mkF m 36 #[.val (.int (2 : Int32)), .val (.double (FP.l2d x0)), .second, .val (.double (FP.l2d x1)), .second, .val (.double (FP.l2d x2)), .second, .val (.double (FP.l2d y0)), .second, .val (.double (FP.l2d y1)), .second, .val (.double (FP.l2d y2)), .second, .val (.int (if y0 < x0 then (0 : Int32) else 1)), .unset, .unset, .unset, .unset, .unset] [(.int (0 : Int32))])) t → Steps p.tables e below (s₁.setTop (entryFrame m #[(.int (2 : Int32)), (.double (FP.l2d x0)), (.double (FP.l2d x1)), (.double (FP.l2d x2)), (.double (FP.l2d y0)), (.double (FP.l2d y1)), (.double (FP.l2d y2))] 19)) t := by
        intro t k
        refine cn6 t ?_
        refine o_ifYes X0.here hx (pc' := 35) (hb hby dE2_28) (XT.ll_gt_t h28_8) (by decide) (by decide) ?_
        refine o_iconstV X0.here hx (0 : Int32) (hb hby dE2_35) rfl ?_
        exact k
      rw [show (if y1 < x1 then (0 : Int32) else 1) = (0 : Int32) from (if_pos h28_8)] at k
      exact cn9 t k
    · -- pc 28 not taken
      have cn10 : ∀ t, Steps p.tables e below (s₁.setTop (mkF m 36 #[.val (.int (2 : Int32)), .val (.double (FP.l2d x0)), .second, .val (.double (FP.l2d x1)), .second, .val (.double (FP.l2d x2)), .second, .val (.double (FP.l2d y0)), .second, .val (.double (FP.l2d y1)), .second, .val (.double (FP.l2d y2)), .second, .val (.int (if y0 < x0 then (0 : Int32) else 1)), .unset, .unset, .unset, .unset, .unset] [(.int (1 : Int32))])) t → Steps p.tables e below (s₁.setTop (entryFrame m #[(.int (2 : Int32)), (.double (FP.l2d x0)), (.double (FP.l2d x1)), (.double (FP.l2d x2)), (.double (FP.l2d y0)), (.double (FP.l2d y1)), (.double (FP.l2d y2))] 19)) t := by
        intro t k
        refine cn6 t ?_
        refine o_ifNo X0.here hx (hb hby dE2_28) (XT.ll_gt_f h28_8) ?_
        refine o_iconstV X0.here hx (1 : Int32) (hb hby dE2_31) rfl ?_
        show Steps p.tables e below (s₁.setTop (mkF m 32 #[.val (.int (2 : Int32)), .val (.double (FP.l2d x0)), .second, .val (.double (FP.l2d x1)), .second, .val (.double (FP.l2d x2)), .second, .val (.double (FP.l2d y0)), .second, .val (.double (FP.l2d y1)), .second, .val (.double (FP.l2d y2)), .second, .val (.int (if y0 < x0 then (0 : Int32) else 1)), .unset, .unset, .unset, .unset, .unset] [(.int (1 : Int32))])) _
        refine o_goto X0.here hx (pc' := 36) (hb hby dE2_32) (by decide) (by decide) ?_
        exact k
      rw [show (if y1 < x1 then (0 : Int32) else 1) = (1 : Int32) from (if_neg h28_8)] at k
      exact cn10 t k
  have cn11 : ∀ t, Steps p.tables e below (s₁.setTop (mkF m 67 #[.val (.int (2 : Int32)), .val (.double (FP.l2d x0)), .second, .val (.double (FP.l2d x1)), .second, .val (.double (FP.l2d x2)), .second, .val (.double (FP.l2d y0)), .second, .val (.double (FP.l2d y1)), .second, .val (.double (FP.l2d y2)), .second, .val (.int (if y0 < x0 then (0 : Int32) else 1)), .val (.int (if y1 < x1 then (0 : Int32) else 1)), .val (.int (1 : Int32)), .unset, .unset, .unset] [(.int (XT.cmpL x0 y0))])) t → Steps p.tables e below (s₁.setTop (entryFrame m #[(.int (2 : Int32)), (.double (FP.l2d x0)), (.double (FP.l2d x1)), (.double (FP.l2d x2)), (.double (FP.l2d y0)), (.double (FP.l2d y1)), (.double (FP.l2d y2))] 19)) t := by
    intro t k
    refine cn7 t ?_
    refine o_istore X0.here hx (hb hby dE2_36) (l' := #[.val (.int (2 : Int32)), .val (.double (FP.l2d x0)), .second, .val (.double (FP.l2d x1)), .second, .val (.double (FP.l2d x2)), .second, .val (.double (FP.l2d y0)), .second, .val (.double (FP.l2d y1)), .second, .val (.double (FP.l2d y2)), .second, .val (.int (if y0 < x0 then (0 : Int32) else 1)), .val (.int (if y1 < x1 then (0 : Int32) else 1)), .unset, .unset, .unset, .unset]) rfl ?_
    refine o_iloadN X0.here hx (hb hby dE2_38) rfl ?_
    refine o_iconstV X0.here hx (3 : Int32) (hb hby dE2_39) rfl ?_
    show Steps p.tables e below (s₁.setTop (mkF m 40 #[.val (.int (2 : Int32)), .val (.double (FP.l2d x0)), .second, .val (.double (FP.l2d x1)), .second, .val (.double (FP.l2d x2)), .second, .val (.double (FP.l2d y0)), .second, .val (.double (FP.l2d y1)), .second, .val (.double (FP.l2d y2)), .second, .val (.int (if y0 < x0 then (0 : Int32) else 1)), .val (.int (if y1 < x1 then (0 : Int32) else 1)), .unset, .unset, .unset, .unset] [(.int (3 : Int32)), (.int (2 : Int32))])) _
    refine o_icmpYes X0.here hx (pc' := 51) (hb hby dE2_40) (XT.ii_lt_t (by decide)) (by decide) (by decide) ?_
    refine o_iconstV X0.here hx (1 : Int32) (hb hby dE2_51) rfl ?_
    show Steps p.tables e below (s₁.setTop (mkF m 52 #[.val (.int (2 : Int32)), .val (.double (FP.l2d x0)), .second, .val (.double (FP.l2d x1)), .second, .val (.double (FP.l2d x2)), .second, .val (.double (FP.l2d y0)), .second, .val (.double (FP.l2d y1)), .second, .val (.double (FP.l2d y2)), .second, .val (.int (if y0 < x0 then (0 : Int32) else 1)), .val (.int (if y1 < x1 then (0 : Int32) else 1)), .unset, .unset, .unset, .unset] [(.int (1 : Int32))])) _
    refine o_goto X0.here hx (pc' := 56) (hb hby dE2_52) (by decide) (by decide) ?_
    refine o_istore X0.here hx (hb hby dE2_56) (l' := #[.val (.int (2 : Int32)), .val (.double (FP.l2d x0)), .second, .val (.double (FP.l2d x1)), .second, .val (.double (FP.l2d x2)), .second, .val (.double (FP.l2d y0)), .second, .val (.double (FP.l2d y1)), .second, .val (.double (FP.l2d y2)), .second, .val (.int (if y0 < x0 then (0 : Int32) else 1)), .val (.int (if y1 < x1 then (0 : Int32) else 1)), .val (.int (1 : Int32)), .unset, .unset, .unset]) rfl ?_
    refine o_iloadN X0.here hx (hb hby dE2_58) rfl ?_
    refine o_iconstV X0.here hx (1 : Int32) (hb hby dE2_59) rfl ?_
    show Steps p.tables e below (s₁.setTop (mkF m 60 #[.val (.int (2 : Int32)), .val (.double (FP.l2d x0)), .second, .val (.double (FP.l2d x1)), .second, .val (.double (FP.l2d x2)), .second, .val (.double (FP.l2d y0)), .second, .val (.double (FP.l2d y1)), .second, .val (.double (FP.l2d y2)), .second, .val (.int (if y0 < x0 then (0 : Int32) else 1)), .val (.int (if y1 < x1 then (0 : Int32) else 1)), .val (.int (1 : Int32)), .unset, .unset, .unset] [(.int (1 : Int32)), (.int (2 : Int32))])) _
    refine o_icmpNo X0.here hx (hb hby dE2_60) (XT.ii_lt_f (by decide)) ?_
    refine o_dloadN X0.here hx (hb hby dE2_63) rfl ?_
    refine o_dload X0.here hx (hb hby dE2_64) rfl ?_
    refine o_dcmpS X0.here hx (hb hby dE2_66) (v := XT.cmpL x0 y0) (dcmpV_w (own_bd_b53 H0 (by decide)) (own_bd_b53 H3 (by decide)) _) ?_
    exact k
  have cn12 : ∀ t, Steps p.tables e below (s₁.setTop (mkF m 75 #[.val (.int (2 : Int32)), .val (.double (FP.l2d x0)), .second, .val (.double (FP.l2d x1)), .second, .val (.double (FP.l2d x2)), .second, .val (.double (FP.l2d y0)), .second, .val (.double (FP.l2d y1)), .second, .val (.double (FP.l2d y2)), .second, .val (.int (if y0 < x0 then (0 : Int32) else 1)), .val (.int (if y1 < x1 then (0 : Int32) else 1)), .val (.int (1 : Int32)), .unset, .unset, .unset] [(.int (if x0 < y0 then (1 : Int32) else 0))])) t → Steps p.tables e below (s₁.setTop (entryFrame m #[(.int (2 : Int32)), (.double (FP.l2d x0)), (.double (FP.l2d x1)), (.double (FP.l2d x2)), (.double (FP.l2d y0)), (.double (FP.l2d y1)), (.double (FP.l2d y2))] 19)) t := by
    intro t k
    by_cases h67_13 : x0 < y0
    · -- pc 67 not taken
      have cn14 : ∀ t, Steps p.tables e below (s₁.setTop (mkF m 75 #[.val (.int (2 : Int32)), .val (.double (FP.l2d x0)), .second, .val (.double (FP.l2d x1)), .second, .val (.double (FP.l2d x2)), .second, .val (.double (FP.l2d y0)), .second, .val (.double (FP.l2d y1)), .second, .val (.double (FP.l2d y2)), .second, .val (.int (if y0 < x0 then (0 : Int32) else 1)), .val (.int (if y1 < x1 then (0 : Int32) else 1)), .val (.int (1 : Int32)), .unset, .unset, .unset] [(.int (1 : Int32))])) t → Steps p.tables e below (s₁.setTop (entryFrame m #[(.int (2 : Int32)), (.double (FP.l2d x0)), (.double (FP.l2d x1)), (.double (FP.l2d x2)), (.double (FP.l2d y0)), (.double (FP.l2d y1)), (.double (FP.l2d y2))] 19)) t := by
        intro t k
        refine cn11 t ?_
        refine o_ifNo X0.here hx (hb hby dE2_67) (XT.ll_ge_f h67_13) ?_
        refine o_iconstV X0.here hx (1 : Int32) (hb hby dE2_70) rfl ?_
        show Steps p.tables e below (s₁.setTop (mkF m 71 #[.val (.int (2 : Int32)), .val (.double (FP.l2d x0)), .second, .val (.double (FP.l2d x1)), .second, .val (.double (FP.l2d x2)), .second, .val (.double (FP.l2d y0)), .second, .val (.double (FP.l2d y1)), .second, .val (.double (FP.l2d y2)), .second, .val (.int (if y0 < x0 then (0 : Int32) else 1)), .val (.int (if y1 < x1 then (0 : Int32) else 1)), .val (.int (1 : Int32)), .unset, .unset, .unset] [(.int (1 : Int32))])) _
        refine o_goto X0.here hx (pc' := 75) (hb hby dE2_71) (by decide) (by decide) ?_
        exact k
      rw [show (if x0 < y0 then (1 : Int32) else 0) = (1 : Int32) from (if_pos h67_13)] at k
      exact cn14 t k
    · -- pc 67 taken
      have cn15 : ∀ t, Steps p.tables e below (s₁.setTop (mkF m 75 #[.val (.int (2 : Int32)), .val (.double (FP.l2d x0)), .second, .val (.double (FP.l2d x1)), .second, .val (.double (FP.l2d x2)), .second, .val (.double (FP.l2d y0)), .second, .val (.double (FP.l2d y1)), .second, .val (.double (FP.l2d y2)), .second, .val (.int (if y0 < x0 then (0 : Int32) else 1)), .val (.int (if y1 < x1 then (0 : Int32) else 1)), .val (.int (1 : Int32)), .unset, .unset, .unset] [(.int (0 : Int32))])) t → Steps p.tables e below (s₁.setTop (entryFrame m #[(.int (2 : Int32)), (.double (FP.l2d x0)), (.double (FP.l2d x1)), (.double (FP.l2d x2)), (.double (FP.l2d y0)), (.double (FP.l2d y1)), (.double (FP.l2d y2))] 19)) t := by
        intro t k
        refine cn11 t ?_
        refine o_ifYes X0.here hx (pc' := 74) (hb hby dE2_67) (XT.ll_ge_t h67_13) (by decide) (by decide) ?_
        refine o_iconstV X0.here hx (0 : Int32) (hb hby dE2_74) rfl ?_
        exact k
      rw [show (if x0 < y0 then (1 : Int32) else 0) = (0 : Int32) from (if_neg h67_13)] at k
      exact cn15 t k
  have cn16 : ∀ t, Steps p.tables e below (s₁.setTop (mkF m 86 #[.val (.int (2 : Int32)), .val (.double (FP.l2d x0)), .second, .val (.double (FP.l2d x1)), .second, .val (.double (FP.l2d x2)), .second, .val (.double (FP.l2d y0)), .second, .val (.double (FP.l2d y1)), .second, .val (.double (FP.l2d y2)), .second, .val (.int (if y0 < x0 then (0 : Int32) else 1)), .val (.int (if y1 < x1 then (0 : Int32) else 1)), .val (.int (1 : Int32)), .val (.int (if x0 < y0 then (1 : Int32) else 0)), .unset, .unset] [(.int (XT.cmpL x1 y1))])) t → Steps p.tables e below (s₁.setTop (entryFrame m #[(.int (2 : Int32)), (.double (FP.l2d x0)), (.double (FP.l2d x1)), (.double (FP.l2d x2)), (.double (FP.l2d y0)), (.double (FP.l2d y1)), (.double (FP.l2d y2))] 19)) t := by
    intro t k
    refine cn12 t ?_
    refine o_istore X0.here hx (hb hby dE2_75) (l' := #[.val (.int (2 : Int32)), .val (.double (FP.l2d x0)), .second, .val (.double (FP.l2d x1)), .second, .val (.double (FP.l2d x2)), .second, .val (.double (FP.l2d y0)), .second, .val (.double (FP.l2d y1)), .second, .val (.double (FP.l2d y2)), .second, .val (.int (if y0 < x0 then (0 : Int32) else 1)), .val (.int (if y1 < x1 then (0 : Int32) else 1)), .val (.int (1 : Int32)), .val (.int (if x0 < y0 then (1 : Int32) else 0)), .unset, .unset]) rfl ?_
    refine o_iloadN X0.here hx (hb hby dE2_77) rfl ?_
    refine o_iconstV X0.here hx (2 : Int32) (hb hby dE2_78) rfl ?_
    show Steps p.tables e below (s₁.setTop (mkF m 79 #[.val (.int (2 : Int32)), .val (.double (FP.l2d x0)), .second, .val (.double (FP.l2d x1)), .second, .val (.double (FP.l2d x2)), .second, .val (.double (FP.l2d y0)), .second, .val (.double (FP.l2d y1)), .second, .val (.double (FP.l2d y2)), .second, .val (.int (if y0 < x0 then (0 : Int32) else 1)), .val (.int (if y1 < x1 then (0 : Int32) else 1)), .val (.int (1 : Int32)), .val (.int (if x0 < y0 then (1 : Int32) else 0)), .unset, .unset] [(.int (2 : Int32)), (.int (2 : Int32))])) _
    refine o_icmpNo X0.here hx (hb hby dE2_79) (XT.ii_lt_f (by decide)) ?_
    refine o_dloadN X0.here hx (hb hby dE2_82) rfl ?_
    refine o_dload X0.here hx (hb hby dE2_83) rfl ?_
    refine o_dcmpS X0.here hx (hb hby dE2_85) (v := XT.cmpL x1 y1) (dcmpV_w (own_bd_b53 H1 (by decide)) (own_bd_b53 H4 (by decide)) _) ?_
    exact k
  have cn17 : ∀ t, Steps p.tables e below (s₁.setTop (mkF m 94 #[.val (.int (2 : Int32)), .val (.double (FP.l2d x0)), .second, .val (.double (FP.l2d x1)), .second, .val (.double (FP.l2d x2)), .second, .val (.double (FP.l2d y0)), .second, .val (.double (FP.l2d y1)), .second, .val (.double (FP.l2d y2)), .second, .val (.int (if y0 < x0 then (0 : Int32) else 1)), .val (.int (if y1 < x1 then (0 : Int32) else 1)), .val (.int (1 : Int32)), .val (.int (if x0 < y0 then (1 : Int32) else 0)), .unset, .unset] [(.int (if x1 < y1 then (1 : Int32) else 0))])) t → Steps p.tables e below (s₁.setTop (entryFrame m #[(.int (2 : Int32)), (.double (FP.l2d x0)), (.double (FP.l2d x1)), (.double (FP.l2d x2)), (.double (FP.l2d y0)), (.double (FP.l2d y1)), (.double (FP.l2d y2))] 19)) t := by
    intro t k
    by_cases h86_18 : x1 < y1
    · -- pc 86 not taken
      have cn19 : ∀ t, Steps p.tables e below (s₁.setTop (mkF m 94 #[.val (.int (2 : Int32)), .val (.double (FP.l2d x0)), .second, .val (.double (FP.l2d x1)), .second, .val (.double (FP.l2d x2)), .second, .val (.double (FP.l2d y0)), .second, .val (.double (FP.l2d y1)), .second, .val (.double (FP.l2d y2)), .second, .val (.int (if y0 < x0 then (0 : Int32) else 1)), .val (.int (if y1 < x1 then (0 : Int32) else 1)), .val (.int (1 : Int32)), .val (.int (if x0 < y0 then (1 : Int32) else 0)), .unset, .unset] [(.int (1 : Int32))])) t → Steps p.tables e below (s₁.setTop (entryFrame m #[(.int (2 : Int32)), (.double (FP.l2d x0)), (.double (FP.l2d x1)), (.double (FP.l2d x2)), (.double (FP.l2d y0)), (.double (FP.l2d y1)), (.double (FP.l2d y2))] 19)) t := by
        intro t k
        refine cn16 t ?_
        refine o_ifNo X0.here hx (hb hby dE2_86) (XT.ll_ge_f h86_18) ?_
        refine o_iconstV X0.here hx (1 : Int32) (hb hby dE2_89) rfl ?_
        show Steps p.tables e below (s₁.setTop (mkF m 90 #[.val (.int (2 : Int32)), .val (.double (FP.l2d x0)), .second, .val (.double (FP.l2d x1)), .second, .val (.double (FP.l2d x2)), .second, .val (.double (FP.l2d y0)), .second, .val (.double (FP.l2d y1)), .second, .val (.double (FP.l2d y2)), .second, .val (.int (if y0 < x0 then (0 : Int32) else 1)), .val (.int (if y1 < x1 then (0 : Int32) else 1)), .val (.int (1 : Int32)), .val (.int (if x0 < y0 then (1 : Int32) else 0)), .unset, .unset] [(.int (1 : Int32))])) _
        refine o_goto X0.here hx (pc' := 94) (hb hby dE2_90) (by decide) (by decide) ?_
        exact k
      rw [show (if x1 < y1 then (1 : Int32) else 0) = (1 : Int32) from (if_pos h86_18)] at k
      exact cn19 t k
    · -- pc 86 taken
      have cn20 : ∀ t, Steps p.tables e below (s₁.setTop (mkF m 94 #[.val (.int (2 : Int32)), .val (.double (FP.l2d x0)), .second, .val (.double (FP.l2d x1)), .second, .val (.double (FP.l2d x2)), .second, .val (.double (FP.l2d y0)), .second, .val (.double (FP.l2d y1)), .second, .val (.double (FP.l2d y2)), .second, .val (.int (if y0 < x0 then (0 : Int32) else 1)), .val (.int (if y1 < x1 then (0 : Int32) else 1)), .val (.int (1 : Int32)), .val (.int (if x0 < y0 then (1 : Int32) else 0)), .unset, .unset] [(.int (0 : Int32))])) t → Steps p.tables e below (s₁.setTop (entryFrame m #[(.int (2 : Int32)), (.double (FP.l2d x0)), (.double (FP.l2d x1)), (.double (FP.l2d x2)), (.double (FP.l2d y0)), (.double (FP.l2d y1)), (.double (FP.l2d y2))] 19)) t := by
        intro t k
        refine cn16 t ?_
        refine o_ifYes X0.here hx (pc' := 93) (hb hby dE2_86) (XT.ll_ge_t h86_18) (by decide) (by decide) ?_
        refine o_iconstV X0.here hx (0 : Int32) (hb hby dE2_93) rfl ?_
        exact k
      rw [show (if x1 < y1 then (1 : Int32) else 0) = (0 : Int32) from (if_neg h86_18)] at k
      exact cn20 t k
  have cn21 : ∀ t, Steps p.tables e below (s₁.setTop (mkF m 118 #[.val (.int (2 : Int32)), .val (.double (FP.l2d x0)), .second, .val (.double (FP.l2d x1)), .second, .val (.double (FP.l2d x2)), .second, .val (.double (FP.l2d y0)), .second, .val (.double (FP.l2d y1)), .second, .val (.double (FP.l2d y2)), .second, .val (.int (if y0 < x0 then (0 : Int32) else 1)), .val (.int (if y1 < x1 then (0 : Int32) else 1)), .val (.int (1 : Int32)), .val (.int (if x0 < y0 then (1 : Int32) else 0)), .val (.int (if x1 < y1 then (1 : Int32) else 0)), .val (.int (0 : Int32))] [(.int (if y0 < x0 then (0 : Int32) else 1))])) t → Steps p.tables e below (s₁.setTop (entryFrame m #[(.int (2 : Int32)), (.double (FP.l2d x0)), (.double (FP.l2d x1)), (.double (FP.l2d x2)), (.double (FP.l2d y0)), (.double (FP.l2d y1)), (.double (FP.l2d y2))] 19)) t := by
    intro t k
    refine cn17 t ?_
    refine o_istore X0.here hx (hb hby dE2_94) (l' := #[.val (.int (2 : Int32)), .val (.double (FP.l2d x0)), .second, .val (.double (FP.l2d x1)), .second, .val (.double (FP.l2d x2)), .second, .val (.double (FP.l2d y0)), .second, .val (.double (FP.l2d y1)), .second, .val (.double (FP.l2d y2)), .second, .val (.int (if y0 < x0 then (0 : Int32) else 1)), .val (.int (if y1 < x1 then (0 : Int32) else 1)), .val (.int (1 : Int32)), .val (.int (if x0 < y0 then (1 : Int32) else 0)), .val (.int (if x1 < y1 then (1 : Int32) else 0)), .unset]) rfl ?_
    refine o_iloadN X0.here hx (hb hby dE2_96) rfl ?_
    refine o_iconstV X0.here hx (3 : Int32) (hb hby dE2_97) rfl ?_
    show Steps p.tables e below (s₁.setTop (mkF m 98 #[.val (.int (2 : Int32)), .val (.double (FP.l2d x0)), .second, .val (.double (FP.l2d x1)), .second, .val (.double (FP.l2d x2)), .second, .val (.double (FP.l2d y0)), .second, .val (.double (FP.l2d y1)), .second, .val (.double (FP.l2d y2)), .second, .val (.int (if y0 < x0 then (0 : Int32) else 1)), .val (.int (if y1 < x1 then (0 : Int32) else 1)), .val (.int (1 : Int32)), .val (.int (if x0 < y0 then (1 : Int32) else 0)), .val (.int (if x1 < y1 then (1 : Int32) else 0)), .unset] [(.int (3 : Int32)), (.int (2 : Int32))])) _
    refine o_icmpYes X0.here hx (pc' := 113) (hb hby dE2_98) (XT.ii_lt_t (by decide)) (by decide) (by decide) ?_
    refine o_iconstV X0.here hx (0 : Int32) (hb hby dE2_113) rfl ?_
    refine o_istore X0.here hx (hb hby dE2_114) (l' := #[.val (.int (2 : Int32)), .val (.double (FP.l2d x0)), .second, .val (.double (FP.l2d x1)), .second, .val (.double (FP.l2d x2)), .second, .val (.double (FP.l2d y0)), .second, .val (.double (FP.l2d y1)), .second, .val (.double (FP.l2d y2)), .second, .val (.int (if y0 < x0 then (0 : Int32) else 1)), .val (.int (if y1 < x1 then (0 : Int32) else 1)), .val (.int (1 : Int32)), .val (.int (if x0 < y0 then (1 : Int32) else 0)), .val (.int (if x1 < y1 then (1 : Int32) else 0)), .val (.int (0 : Int32))]) rfl ?_
    refine o_iload X0.here hx (hb hby dE2_116) rfl ?_
    exact k
  by_cases h118_22 : (if y0 < x0 then (0 : Int32) else 1) = 0
  · -- pc 118 taken
    have cn23 : ∀ t, Steps p.tables e below (s₁.setTop (mkF m 151 #[.val (.int (2 : Int32)), .val (.double (FP.l2d x0)), .second, .val (.double (FP.l2d x1)), .second, .val (.double (FP.l2d x2)), .second, .val (.double (FP.l2d y0)), .second, .val (.double (FP.l2d y1)), .second, .val (.double (FP.l2d y2)), .second, .val (.int (if y0 < x0 then (0 : Int32) else 1)), .val (.int (if y1 < x1 then (0 : Int32) else 1)), .val (.int (1 : Int32)), .val (.int (if x0 < y0 then (1 : Int32) else 0)), .val (.int (if x1 < y1 then (1 : Int32) else 0)), .val (.int (0 : Int32))] [(.int (0 : Int32))])) t → Steps p.tables e below (s₁.setTop (entryFrame m #[(.int (2 : Int32)), (.double (FP.l2d x0)), (.double (FP.l2d x1)), (.double (FP.l2d x2)), (.double (FP.l2d y0)), (.double (FP.l2d y1)), (.double (FP.l2d y2))] 19)) t := by
      intro t k
      refine cn21 t ?_
      refine o_ifYes X0.here hx (pc' := 150) (hb hby dE2_118) (XT.i0_eq_t h118_22) (by decide) (by decide) ?_
      refine o_iconstV X0.here hx (0 : Int32) (hb hby dE2_150) rfl ?_
      exact k
    obtain ⟨fs, hr, hrun, hended, hW, hsame⟩ := X0.leave (v := some (.int (0 : Int32))) (fun h => by rw [Bd.returns] at h; cases h)
    refine ⟨_, _, cn23 _ ?_, hrun, hended, _, _, rfl, ?_, ⟨_, rfl⟩, hW, hsame.mono (by decide) (by decide)⟩
    · exact retN X0 hx (t := .boolean) Bd.returns (by simp) (hb hby dE2_151) hr
    · show QE2 Z x0 x1 x2 y0 y1 y2 h0 n0 _ s₁.heap _
      rw [e0]
      exact ⟨(by simp [own_beats, own_ite0.mp h118_22]), N0, rfl⟩
  · -- pc 118 not taken
    have cn24 : ∀ t, Steps p.tables e below (s₁.setTop (mkF m 123 #[.val (.int (2 : Int32)), .val (.double (FP.l2d x0)), .second, .val (.double (FP.l2d x1)), .second, .val (.double (FP.l2d x2)), .second, .val (.double (FP.l2d y0)), .second, .val (.double (FP.l2d y1)), .second, .val (.double (FP.l2d y2)), .second, .val (.int (if y0 < x0 then (0 : Int32) else 1)), .val (.int (if y1 < x1 then (0 : Int32) else 1)), .val (.int (1 : Int32)), .val (.int (if x0 < y0 then (1 : Int32) else 0)), .val (.int (if x1 < y1 then (1 : Int32) else 0)), .val (.int (0 : Int32))] [(.int (if y1 < x1 then (0 : Int32) else 1))])) t → Steps p.tables e below (s₁.setTop (entryFrame m #[(.int (2 : Int32)), (.double (FP.l2d x0)), (.double (FP.l2d x1)), (.double (FP.l2d x2)), (.double (FP.l2d y0)), (.double (FP.l2d y1)), (.double (FP.l2d y2))] 19)) t := by
      intro t k
      refine cn21 t ?_
      refine o_ifNo X0.here hx (hb hby dE2_118) (XT.i0_eq_f h118_22) ?_
      refine o_iload X0.here hx (hb hby dE2_121) rfl ?_
      exact k
    by_cases h123_25 : (if y1 < x1 then (0 : Int32) else 1) = 0
    · -- pc 123 taken
      have cn26 : ∀ t, Steps p.tables e below (s₁.setTop (mkF m 151 #[.val (.int (2 : Int32)), .val (.double (FP.l2d x0)), .second, .val (.double (FP.l2d x1)), .second, .val (.double (FP.l2d x2)), .second, .val (.double (FP.l2d y0)), .second, .val (.double (FP.l2d y1)), .second, .val (.double (FP.l2d y2)), .second, .val (.int (if y0 < x0 then (0 : Int32) else 1)), .val (.int (if y1 < x1 then (0 : Int32) else 1)), .val (.int (1 : Int32)), .val (.int (if x0 < y0 then (1 : Int32) else 0)), .val (.int (if x1 < y1 then (1 : Int32) else 0)), .val (.int (0 : Int32))] [(.int (0 : Int32))])) t → Steps p.tables e below (s₁.setTop (entryFrame m #[(.int (2 : Int32)), (.double (FP.l2d x0)), (.double (FP.l2d x1)), (.double (FP.l2d x2)), (.double (FP.l2d y0)), (.double (FP.l2d y1)), (.double (FP.l2d y2))] 19)) t := by
        intro t k
        refine cn24 t ?_
        refine o_ifYes X0.here hx (pc' := 150) (hb hby dE2_123) (XT.i0_eq_t h123_25) (by decide) (by decide) ?_
        refine o_iconstV X0.here hx (0 : Int32) (hb hby dE2_150) rfl ?_
        exact k
      obtain ⟨fs, hr, hrun, hended, hW, hsame⟩ := X0.leave (v := some (.int (0 : Int32))) (fun h => by rw [Bd.returns] at h; cases h)
      refine ⟨_, _, cn26 _ ?_, hrun, hended, _, _, rfl, ?_, ⟨_, rfl⟩, hW, hsame.mono (by decide) (by decide)⟩
      · exact retN X0 hx (t := .boolean) Bd.returns (by simp) (hb hby dE2_151) hr
      · show QE2 Z x0 x1 x2 y0 y1 y2 h0 n0 _ s₁.heap _
        rw [e0]
        exact ⟨(by simp [own_beats, mt own_ite0.mpr h118_22, own_ite0.mp h123_25]), N0, rfl⟩
    · -- pc 123 not taken
      have cn27 : ∀ t, Steps p.tables e below (s₁.setTop (mkF m 133 #[.val (.int (2 : Int32)), .val (.double (FP.l2d x0)), .second, .val (.double (FP.l2d x1)), .second, .val (.double (FP.l2d x2)), .second, .val (.double (FP.l2d y0)), .second, .val (.double (FP.l2d y1)), .second, .val (.double (FP.l2d y2)), .second, .val (.int (if y0 < x0 then (0 : Int32) else 1)), .val (.int (if y1 < x1 then (0 : Int32) else 1)), .val (.int (1 : Int32)), .val (.int (if x0 < y0 then (1 : Int32) else 0)), .val (.int (if x1 < y1 then (1 : Int32) else 0)), .val (.int (0 : Int32))] [(.int (if x0 < y0 then (1 : Int32) else 0))])) t → Steps p.tables e below (s₁.setTop (entryFrame m #[(.int (2 : Int32)), (.double (FP.l2d x0)), (.double (FP.l2d x1)), (.double (FP.l2d x2)), (.double (FP.l2d y0)), (.double (FP.l2d y1)), (.double (FP.l2d y2))] 19)) t := by
        intro t k
        refine cn24 t ?_
        refine o_ifNo X0.here hx (hb hby dE2_123) (XT.i0_eq_f h123_25) ?_
        refine o_iload X0.here hx (hb hby dE2_126) rfl ?_
        show Steps p.tables e below (s₁.setTop (mkF m 128 #[.val (.int (2 : Int32)), .val (.double (FP.l2d x0)), .second, .val (.double (FP.l2d x1)), .second, .val (.double (FP.l2d x2)), .second, .val (.double (FP.l2d y0)), .second, .val (.double (FP.l2d y1)), .second, .val (.double (FP.l2d y2)), .second, .val (.int (if y0 < x0 then (0 : Int32) else 1)), .val (.int (if y1 < x1 then (0 : Int32) else 1)), .val (.int (1 : Int32)), .val (.int (if x0 < y0 then (1 : Int32) else 0)), .val (.int (if x1 < y1 then (1 : Int32) else 0)), .val (.int (0 : Int32))] [(.int (1 : Int32))])) _
        refine o_ifNo X0.here hx (hb hby dE2_128) (by decide) ?_
        refine o_iload X0.here hx (hb hby dE2_131) rfl ?_
        exact k
      by_cases h133_28 : (if x0 < y0 then (1 : Int32) else 0) = 0
      · -- pc 133 not taken
        have cn29 : ∀ t, Steps p.tables e below (s₁.setTop (mkF m 138 #[.val (.int (2 : Int32)), .val (.double (FP.l2d x0)), .second, .val (.double (FP.l2d x1)), .second, .val (.double (FP.l2d x2)), .second, .val (.double (FP.l2d y0)), .second, .val (.double (FP.l2d y1)), .second, .val (.double (FP.l2d y2)), .second, .val (.int (if y0 < x0 then (0 : Int32) else 1)), .val (.int (if y1 < x1 then (0 : Int32) else 1)), .val (.int (1 : Int32)), .val (.int (if x0 < y0 then (1 : Int32) else 0)), .val (.int (if x1 < y1 then (1 : Int32) else 0)), .val (.int (0 : Int32))] [(.int (if x1 < y1 then (1 : Int32) else 0))])) t → Steps p.tables e below (s₁.setTop (entryFrame m #[(.int (2 : Int32)), (.double (FP.l2d x0)), (.double (FP.l2d x1)), (.double (FP.l2d x2)), (.double (FP.l2d y0)), (.double (FP.l2d y1)), (.double (FP.l2d y2))] 19)) t := by
          intro t k
          refine cn27 t ?_
          refine o_ifNo X0.here hx (hb hby dE2_133) (XT.i0_ne_f h133_28) ?_
          refine o_iload X0.here hx (hb hby dE2_136) rfl ?_
          exact k
        by_cases h138_30 : (if x1 < y1 then (1 : Int32) else 0) = 0
        · -- pc 138 not taken
          have cn31 : ∀ t, Steps p.tables e below (s₁.setTop (mkF m 151 #[.val (.int (2 : Int32)), .val (.double (FP.l2d x0)), .second, .val (.double (FP.l2d x1)), .second, .val (.double (FP.l2d x2)), .second, .val (.double (FP.l2d y0)), .second, .val (.double (FP.l2d y1)), .second, .val (.double (FP.l2d y2)), .second, .val (.int (if y0 < x0 then (0 : Int32) else 1)), .val (.int (if y1 < x1 then (0 : Int32) else 1)), .val (.int (1 : Int32)), .val (.int (if x0 < y0 then (1 : Int32) else 0)), .val (.int (if x1 < y1 then (1 : Int32) else 0)), .val (.int (0 : Int32))] [(.int (0 : Int32))])) t → Steps p.tables e below (s₁.setTop (entryFrame m #[(.int (2 : Int32)), (.double (FP.l2d x0)), (.double (FP.l2d x1)), (.double (FP.l2d x2)), (.double (FP.l2d y0)), (.double (FP.l2d y1)), (.double (FP.l2d y2))] 19)) t := by
            intro t k
            refine cn29 t ?_
            refine o_ifNo X0.here hx (hb hby dE2_138) (XT.i0_ne_f h138_30) ?_
            refine o_iload X0.here hx (hb hby dE2_141) rfl ?_
            show Steps p.tables e below (s₁.setTop (mkF m 143 #[.val (.int (2 : Int32)), .val (.double (FP.l2d x0)), .second, .val (.double (FP.l2d x1)), .second, .val (.double (FP.l2d x2)), .second, .val (.double (FP.l2d y0)), .second, .val (.double (FP.l2d y1)), .second, .val (.double (FP.l2d y2)), .second, .val (.int (if y0 < x0 then (0 : Int32) else 1)), .val (.int (if y1 < x1 then (0 : Int32) else 1)), .val (.int (1 : Int32)), .val (.int (if x0 < y0 then (1 : Int32) else 0)), .val (.int (if x1 < y1 then (1 : Int32) else 0)), .val (.int (0 : Int32))] [(.int (0 : Int32))])) _
            refine o_ifYes X0.here hx (pc' := 150) (hb hby dE2_143) (by decide) (by decide) (by decide) ?_
            refine o_iconstV X0.here hx (0 : Int32) (hb hby dE2_150) rfl ?_
            exact k
          obtain ⟨fs, hr, hrun, hended, hW, hsame⟩ := X0.leave (v := some (.int (0 : Int32))) (fun h => by rw [Bd.returns] at h; cases h)
          refine ⟨_, _, cn31 _ ?_, hrun, hended, _, _, rfl, ?_, ⟨_, rfl⟩, hW, hsame.mono (by decide) (by decide)⟩
          · exact retN X0 hx (t := .boolean) Bd.returns (by simp) (hb hby dE2_151) hr
          · show QE2 Z x0 x1 x2 y0 y1 y2 h0 n0 _ s₁.heap _
            rw [e0]
            exact ⟨(by simp [own_beats, mt own_ite0.mpr h118_22, mt own_ite0.mpr h123_25, own_ite1.mp h133_28, own_ite1.mp h138_30]), N0, rfl⟩
        · -- pc 138 taken
          have cn32 : ∀ t, Steps p.tables e below (s₁.setTop (mkF m 151 #[.val (.int (2 : Int32)), .val (.double (FP.l2d x0)), .second, .val (.double (FP.l2d x1)), .second, .val (.double (FP.l2d x2)), .second, .val (.double (FP.l2d y0)), .second, .val (.double (FP.l2d y1)), .second, .val (.double (FP.l2d y2)), .second, .val (.int (if y0 < x0 then (0 : Int32) else 1)), .val (.int (if y1 < x1 then (0 : Int32) else 1)), .val (.int (1 : Int32)), .val (.int (if x0 < y0 then (1 : Int32) else 0)), .val (.int (if x1 < y1 then (1 : Int32) else 0)), .val (.int (0 : Int32))] [(.int (1 : Int32))])) t → Steps p.tables e below (s₁.setTop (entryFrame m #[(.int (2 : Int32)), (.double (FP.l2d x0)), (.double (FP.l2d x1)), (.double (FP.l2d x2)), (.double (FP.l2d y0)), (.double (FP.l2d y1)), (.double (FP.l2d y2))] 19)) t := by
            intro t k
            refine cn29 t ?_
            refine o_ifYes X0.here hx (pc' := 146) (hb hby dE2_138) (XT.i0_ne_t h138_30) (by decide) (by decide) ?_
            refine o_iconstV X0.here hx (1 : Int32) (hb hby dE2_146) rfl ?_
            show Steps p.tables e below (s₁.setTop (mkF m 147 #[.val (.int (2 : Int32)), .val (.double (FP.l2d x0)), .second, .val (.double (FP.l2d x1)), .second, .val (.double (FP.l2d x2)), .second, .val (.double (FP.l2d y0)), .second, .val (.double (FP.l2d y1)), .second, .val (.double (FP.l2d y2)), .second, .val (.int (if y0 < x0 then (0 : Int32) else 1)), .val (.int (if y1 < x1 then (0 : Int32) else 1)), .val (.int (1 : Int32)), .val (.int (if x0 < y0 then (1 : Int32) else 0)), .val (.int (if x1 < y1 then (1 : Int32) else 0)), .val (.int (0 : Int32))] [(.int (1 : Int32))])) _
            refine o_goto X0.here hx (pc' := 151) (hb hby dE2_147) (by decide) (by decide) ?_
            exact k
          obtain ⟨fs, hr, hrun, hended, hW, hsame⟩ := X0.leave (v := some (.int (1 : Int32))) (fun h => by rw [Bd.returns] at h; cases h)
          refine ⟨_, _, cn32 _ ?_, hrun, hended, _, _, rfl, ?_, ⟨_, rfl⟩, hW, hsame.mono (by decide) (by decide)⟩
          · exact retN X0 hx (t := .boolean) Bd.returns (by simp) (hb hby dE2_151) hr
          · show QE2 Z x0 x1 x2 y0 y1 y2 h0 n0 _ s₁.heap _
            rw [e0]
            exact ⟨(by simp [own_beats, mt own_ite0.mpr h118_22, mt own_ite0.mpr h123_25, own_ite1.mp h133_28, own_ite1n.mp h138_30]), N0, rfl⟩
      · -- pc 133 taken
        have cn33 : ∀ t, Steps p.tables e below (s₁.setTop (mkF m 151 #[.val (.int (2 : Int32)), .val (.double (FP.l2d x0)), .second, .val (.double (FP.l2d x1)), .second, .val (.double (FP.l2d x2)), .second, .val (.double (FP.l2d y0)), .second, .val (.double (FP.l2d y1)), .second, .val (.double (FP.l2d y2)), .second, .val (.int (if y0 < x0 then (0 : Int32) else 1)), .val (.int (if y1 < x1 then (0 : Int32) else 1)), .val (.int (1 : Int32)), .val (.int (if x0 < y0 then (1 : Int32) else 0)), .val (.int (if x1 < y1 then (1 : Int32) else 0)), .val (.int (0 : Int32))] [(.int (1 : Int32))])) t → Steps p.tables e below (s₁.setTop (entryFrame m #[(.int (2 : Int32)), (.double (FP.l2d x0)), (.double (FP.l2d x1)), (.double (FP.l2d x2)), (.double (FP.l2d y0)), (.double (FP.l2d y1)), (.double (FP.l2d y2))] 19)) t := by
          intro t k
          refine cn27 t ?_
          refine o_ifYes X0.here hx (pc' := 146) (hb hby dE2_133) (XT.i0_ne_t h133_28) (by decide) (by decide) ?_
          refine o_iconstV X0.here hx (1 : Int32) (hb hby dE2_146) rfl ?_
          show Steps p.tables e below (s₁.setTop (mkF m 147 #[.val (.int (2 : Int32)), .val (.double (FP.l2d x0)), .second, .val (.double (FP.l2d x1)), .second, .val (.double (FP.l2d x2)), .second, .val (.double (FP.l2d y0)), .second, .val (.double (FP.l2d y1)), .second, .val (.double (FP.l2d y2)), .second, .val (.int (if y0 < x0 then (0 : Int32) else 1)), .val (.int (if y1 < x1 then (0 : Int32) else 1)), .val (.int (1 : Int32)), .val (.int (if x0 < y0 then (1 : Int32) else 0)), .val (.int (if x1 < y1 then (1 : Int32) else 0)), .val (.int (0 : Int32))] [(.int (1 : Int32))])) _
          refine o_goto X0.here hx (pc' := 151) (hb hby dE2_147) (by decide) (by decide) ?_
          exact k
        obtain ⟨fs, hr, hrun, hended, hW, hsame⟩ := X0.leave (v := some (.int (1 : Int32))) (fun h => by rw [Bd.returns] at h; cases h)
        refine ⟨_, _, cn33 _ ?_, hrun, hended, _, _, rfl, ?_, ⟨_, rfl⟩, hW, hsame.mono (by decide) (by decide)⟩
        · exact retN X0 hx (t := .boolean) Bd.returns (by simp) (hb hby dE2_151) hr
        · show QE2 Z x0 x1 x2 y0 y1 y2 h0 n0 _ s₁.heap _
          rw [e0]
          exact ⟨(by simp [own_beats, mt own_ite0.mpr h118_22, mt own_ite0.mpr h123_25, own_ite1n.mp h133_28]), N0, rfl⟩

theorem dB3_0 : decode prog_48_method_10_code 0 = .ok (.iconst 0, 1) := by decide +kernel
theorem dB3_1 : decode prog_48_method_10_code 1 = .ok (.istore_n 2, 1) := by decide +kernel
theorem dB3_2 : decode prog_48_method_10_code 2 = .ok (.iconst 0, 1) := by decide +kernel
theorem dB3_3 : decode prog_48_method_10_code 3 = .ok (.istore_n 3, 1) := by decide +kernel
theorem dB3_4 : decode prog_48_method_10_code 4 = .ok (.iload_n 3, 1) := by decide +kernel
theorem dB3_5 : decode prog_48_method_10_code 5 = .ok (.aload_n 0, 1) := by decide +kernel
theorem dB3_6 : decode prog_48_method_10_code 6 = .ok (.arraylength, 1) := by decide +kernel
theorem dB3_7 : decode prog_48_method_10_code 7 = .ok (.if_icmp .ge 33, 3) := by decide +kernel
theorem dB3_10 : decode prog_48_method_10_code 10 = .ok (.aload_n 0, 1) := by decide +kernel
theorem dB3_11 : decode prog_48_method_10_code 11 = .ok (.iload_n 3, 1) := by decide +kernel
theorem dB3_12 : decode prog_48_method_10_code 12 = .ok (.daload, 1) := by decide +kernel
theorem dB3_13 : decode prog_48_method_10_code 13 = .ok (.aload_n 1, 1) := by decide +kernel
theorem dB3_14 : decode prog_48_method_10_code 14 = .ok (.iload_n 3, 1) := by decide +kernel
theorem dB3_15 : decode prog_48_method_10_code 15 = .ok (.daload, 1) := by decide +kernel
theorem dB3_16 : decode prog_48_method_10_code 16 = .ok (.dcmp .l, 1) := by decide +kernel
theorem dB3_17 : decode prog_48_method_10_code 17 = .ok (.ifCond .le 5, 3) := by decide +kernel
theorem dB3_20 : decode prog_48_method_10_code 20 = .ok (.iconst 0, 1) := by decide +kernel
theorem dB3_21 : decode prog_48_method_10_code 21 = .ok (.ireturn, 1) := by decide +kernel
theorem dB3_22 : decode prog_48_method_10_code 22 = .ok (.aload_n 0, 1) := by decide +kernel
theorem dB3_23 : decode prog_48_method_10_code 23 = .ok (.iload_n 3, 1) := by decide +kernel
theorem dB3_24 : decode prog_48_method_10_code 24 = .ok (.daload, 1) := by decide +kernel
theorem dB3_25 : decode prog_48_method_10_code 25 = .ok (.aload_n 1, 1) := by decide +kernel
theorem dB3_26 : decode prog_48_method_10_code 26 = .ok (.iload_n 3, 1) := by decide +kernel
theorem dB3_27 : decode prog_48_method_10_code 27 = .ok (.daload, 1) := by decide +kernel
theorem dB3_28 : decode prog_48_method_10_code 28 = .ok (.dcmp .g, 1) := by decide +kernel
theorem dB3_29 : decode prog_48_method_10_code 29 = .ok (.ifCond .ge 5, 3) := by decide +kernel
theorem dB3_32 : decode prog_48_method_10_code 32 = .ok (.iconst 1, 1) := by decide +kernel
theorem dB3_33 : decode prog_48_method_10_code 33 = .ok (.istore_n 2, 1) := by decide +kernel
theorem dB3_34 : decode prog_48_method_10_code 34 = .ok (.iinc 3 1, 3) := by decide +kernel
theorem dB3_37 : decode prog_48_method_10_code 37 = .ok (.goto (-33), 3) := by decide +kernel
theorem dB3_40 : decode prog_48_method_10_code 40 = .ok (.iload_n 2, 1) := by decide +kernel
theorem dB3_41 : decode prog_48_method_10_code 41 = .ok (.ireturn, 1) := by decide +kernel
theorem efB3 (m : MethodId) (x0 : Addr) (x1 : Addr) : entryFrame m #[(.ref x0), (.ref x1)] 4 = (mkF m 0 #[.val (.ref x0), .val (.ref x1), .unset, .unset] []) := by first | (simp [entryFrame, mkF, argsToLocals, Value.category]; done) | rfl
def QB3 (Z : State) (a1 : Addr) (a2 : Addr) (k1 : ClassId) (k2 : ClassId) (w0 : Int64) (w1 : Int64) (w2 : Int64) (v0 : Int64) (v1 : Int64) (v2 : Int64) (h0 : Heap) (n0 : Nat) (v : Option Value) (h : Heap) (L : List Loc) : Prop := v = some (.int (if own_beats [(w0, v0), (w1, v1), (w2, v2)] false = true then (1 : Int32) else 0)) ∧ Fr n0 L ∧ h = h0
set_option maxRecDepth 65536 in
set_option maxHeartbeats 40000000 in
theorem rmB3 (l : Launch) (Z : State) (a0 : Array Value) (hw : ∀ d ∈ tables_1, d.before a0 Z = true) (ws : List Jvm.Cond) (a1 : Addr) (a2 : Addr) (k1 : ClassId) (k2 : ClassId) (w0 : Int64) (w1 : Int64) (w2 : Int64) (v0 : Int64) (v1 : Int64) (v2 : Int64) (h0 : Heap) (n0 : Nat) (Z0 : n0 ≤ h0.size) (H0 : OBd 2147483648 w0) (H1 : OBd 2147483648 w1) (H2 : OBd 2147483648 w2) (H3 : OBd 2147483648 v0) (H4 : OBd 2147483648 v1) (H5 : OBd 2147483648 v2) (pr6 : Arv Z h0 a1 k1 .double (3 : Int32) [(.double (FP.l2d w0)), (.double (FP.l2d w1)), (.double (FP.l2d w2))] (.double (0 : UInt64))) (pr7 : Arv Z h0 a2 k2 .double (3 : Int32) [(.double (FP.l2d v0)), (.double (FP.l2d v1)), (.double (FP.l2d v2))] (.double (0 : UInt64))) :
    MetFree l (⟨"com/example/pareto_loom/paretoloom/model/NondominatedSet", "beats", "([D[D)Z"⟩ : MethodName) (head1 (Jvm.Cond.code (⟨"com/example/pareto_loom/paretoloom/model/NondominatedSet", "beats", "([D[D)Z"⟩ : MethodName) prog_48_method_10_code 4 (some .boolean) :: ws) ({ frames := 0, cells := 0, slots := 0, locals := 0 } : Room)) (fun a U => a = #[(.ref a1), (.ref a2)] ∧ Z.Warmed39 U.vm ∧ U.heap = h0) (fun _ _ _ _ _ => True) (fun _ U o U' => ∃ v L, o = .returned v ∧ QB3 Z a1 a2 k1 k2 w0 w1 w2 v0 v1 v2 h0 n0 v U'.heap L ∧ FrameEnd U o U' L ({ frames := 0, cells := 0, slots := 0, locals := 0 } : Room).cells ({ frames := 0, cells := 0, slots := 0, locals := 0 } : Room).slots) := by
  refine MetFree.of_bodySF (plainFor_of_name pn_com_example_pareto_loom_paretoloom_model_NondominatedSet) hisR ?_
  intro p e s m args below meth c s₁ Bd hml0 hP hK
  obtain ⟨rfl, hZ, hh⟩ := hP
  have hx := Bd.exec
  have hby := Bd.bytes
  have hml : c.maxLocals = 4 := hml0
  have hown : s.vm.findClass "com/example/pareto_loom/paretoloom/model/NondominatedSet" = some m.cls := findClass_of_methodNamed Bd.named
  have hnm := (name_of_methodNamed Bd.named Bd.method).1
  have X0 : Stand p l e ({ frames := 0, cells := 0, slots := 0, locals := 0 } : Room) s m #[(.ref a1), (.ref a2)] below meth c s₁ [] 0 0 := Stand.of_body Bd
  have e0 : s₁.heap = h0 := by rw [← hh, Bd.state]; rfl
  have N0 := Fr.nil n0
  have pre0 : ∀ t, Steps p.tables e below (s₁.setTop (mkF m 0 #[.val (.ref a1), .val (.ref a2), .unset, .unset] [])) t → Steps p.tables e below (s₁.setTop (entryFrame m #[(.ref a1), (.ref a2)] 4)) t := fun t k => castTop (efB3 m a1 a2) k
  have cn1 : ∀ t, Steps p.tables e below (s₁.setTop (mkF m 6 #[.val (.ref a1), .val (.ref a2), .val (.int (0 : Int32)), .val (.int (0 : Int32))] [(.ref a1), (.int (0 : Int32))])) t → Steps p.tables e below (s₁.setTop (entryFrame m #[(.ref a1), (.ref a2)] 4)) t := by
    intro t k
    refine pre0 t ?_
    refine o_iconstV X0.here hx (0 : Int32) (hb hby dB3_0) rfl ?_
    refine o_istoreN X0.here hx (hb hby dB3_1) (l' := #[.val (.ref a1), .val (.ref a2), .val (.int (0 : Int32)), .unset]) rfl ?_
    refine o_iconstV X0.here hx (0 : Int32) (hb hby dB3_2) rfl ?_
    refine o_istoreN X0.here hx (hb hby dB3_3) (l' := #[.val (.ref a1), .val (.ref a2), .val (.int (0 : Int32)), .val (.int (0 : Int32))]) rfl ?_
    refine o_iloadN X0.here hx (hb hby dB3_4) rfl ?_
    refine o_aloadN X0.here hx (hb hby dB3_5) rfl rfl ?_
    exact k
  obtain ⟨cl2, Ar2, qk2, Sz2, Mz2, Hh2, Gg2⟩ := pr6
  have pr6 : Arv Z h0 a1 k1 .double (3 : Int32) [(.double (FP.l2d w0)), (.double (FP.l2d w1)), (.double (FP.l2d w2))] (.double (0 : UInt64)) := ⟨cl2, Ar2, qk2, Sz2, Mz2, Hh2, Gg2⟩
  have cn3 : ∀ t, Steps p.tables e below (s₁.setTop (mkF m 12 #[.val (.ref a1), .val (.ref a2), .val (.int (0 : Int32)), .val (.int (0 : Int32))] [(.int (0 : Int32)), (.ref a1)])) t → Steps p.tables e below (s₁.setTop (entryFrame m #[(.ref a1), (.ref a2)] 4)) t := by
    intro t k
    refine cn1 t ?_
    refine X0.arraylength hx (by rw [e0]; exact Ar2.1) (State.isArrayOf_alike hZ.alike Ar2.2.1) (g := (mkF m 6 #[.val (.ref a1), .val (.ref a2), .val (.int (0 : Int32)), .val (.int (0 : Int32))] [(.ref a1), (.int (0 : Int32))])) rfl rfl (hb hby dB3_6) _ ?_
    rw [len_of Sz2 Mz2]
    show Steps p.tables e below (s₁.setTop (mkF m 7 #[.val (.ref a1), .val (.ref a2), .val (.int (0 : Int32)), .val (.int (0 : Int32))] [(.int (3 : Int32)), (.int (0 : Int32))])) _
    show Steps p.tables e below (s₁.setTop (mkF m 7 #[.val (.ref a1), .val (.ref a2), .val (.int (0 : Int32)), .val (.int (0 : Int32))] [(.int (3 : Int32)), (.int (0 : Int32))])) _
    refine o_icmpNo X0.here hx (hb hby dB3_7) (XT.ii_ge_f (by decide)) ?_
    refine o_aloadN X0.here hx (hb hby dB3_10) rfl rfl ?_
    refine o_iloadN X0.here hx (hb hby dB3_11) rfl ?_
    exact k
  obtain ⟨cl4, Ar4, qk4, Sz4, Mz4, Hh4, Gg4⟩ := pr6
  have pr6 : Arv Z h0 a1 k1 .double (3 : Int32) [(.double (FP.l2d w0)), (.double (FP.l2d w1)), (.double (FP.l2d w2))] (.double (0 : UInt64)) := ⟨cl4, Ar4, qk4, Sz4, Mz4, Hh4, Gg4⟩
  have cn5 : ∀ t, Steps p.tables e below (s₁.setTop (mkF m 15 #[.val (.ref a1), .val (.ref a2), .val (.int (0 : Int32)), .val (.int (0 : Int32))] [(.int (0 : Int32)), (.ref a2), (.double (FP.l2d w0))])) t → Steps p.tables e below (s₁.setTop (entryFrame m #[(.ref a1), (.ref a2)] 4)) t := by
    intro t k
    refine cn3 t ?_
    refine X0.daload hx (j := (0 : Int32)) (v := (.double (FP.l2d w0))) (by rw [e0]; exact Ar4.1) (State.isArrayOf_alike hZ.alike Ar4.2.1) Ar4.2.2 (inb_of Sz4 ⟨(by decide), (by decide)⟩) (Hh4.at (inb_of Sz4 ⟨(by decide), (by decide)⟩) rfl) (g := (mkF m 12 #[.val (.ref a1), .val (.ref a2), .val (.int (0 : Int32)), .val (.int (0 : Int32))] [(.int (0 : Int32)), (.ref a1)])) rfl rfl (hb hby dB3_12) _ ?_
    show Steps p.tables e below (s₁.setTop (mkF m 13 #[.val (.ref a1), .val (.ref a2), .val (.int (0 : Int32)), .val (.int (0 : Int32))] [(.double (FP.l2d w0))])) _
    refine o_aloadN X0.here hx (hb hby dB3_13) rfl rfl ?_
    refine o_iloadN X0.here hx (hb hby dB3_14) rfl ?_
    exact k
  obtain ⟨cl6, Ar6, qk6, Sz6, Mz6, Hh6, Gg6⟩ := pr7
  have pr7 : Arv Z h0 a2 k2 .double (3 : Int32) [(.double (FP.l2d v0)), (.double (FP.l2d v1)), (.double (FP.l2d v2))] (.double (0 : UInt64)) := ⟨cl6, Ar6, qk6, Sz6, Mz6, Hh6, Gg6⟩
  have cn7 : ∀ t, Steps p.tables e below (s₁.setTop (mkF m 17 #[.val (.ref a1), .val (.ref a2), .val (.int (0 : Int32)), .val (.int (0 : Int32))] [(.int (XT.cmpL w0 v0))])) t → Steps p.tables e below (s₁.setTop (entryFrame m #[(.ref a1), (.ref a2)] 4)) t := by
    intro t k
    refine cn5 t ?_
    refine X0.daload hx (j := (0 : Int32)) (v := (.double (FP.l2d v0))) (by rw [e0]; exact Ar6.1) (State.isArrayOf_alike hZ.alike Ar6.2.1) Ar6.2.2 (inb_of Sz6 ⟨(by decide), (by decide)⟩) (Hh6.at (inb_of Sz6 ⟨(by decide), (by decide)⟩) rfl) (g := (mkF m 15 #[.val (.ref a1), .val (.ref a2), .val (.int (0 : Int32)), .val (.int (0 : Int32))] [(.int (0 : Int32)), (.ref a2), (.double (FP.l2d w0))])) rfl rfl (hb hby dB3_15) _ ?_
    show Steps p.tables e below (s₁.setTop (mkF m 16 #[.val (.ref a1), .val (.ref a2), .val (.int (0 : Int32)), .val (.int (0 : Int32))] [(.double (FP.l2d v0)), (.double (FP.l2d w0))])) _
    refine o_dcmpS X0.here hx (hb hby dB3_16) (v := XT.cmpL w0 v0) (dcmpV_w (own_bd_b53 H0 (by decide)) (own_bd_b53 H3 (by decide)) _) ?_
    exact k
  by_cases h17_8 : v0 < w0
  · -- pc 17 not taken
    have cn9 : ∀ t, Steps p.tables e below (s₁.setTop (mkF m 21 #[.val (.ref a1), .val (.ref a2), .val (.int (0 : Int32)), .val (.int (0 : Int32))] [(.int (0 : Int32))])) t → Steps p.tables e below (s₁.setTop (entryFrame m #[(.ref a1), (.ref a2)] 4)) t := by
      intro t k
      refine cn7 t ?_
      refine o_ifNo X0.here hx (hb hby dB3_17) (XT.ll_le_f h17_8) ?_
      refine o_iconstV X0.here hx (0 : Int32) (hb hby dB3_20) rfl ?_
      exact k
    obtain ⟨fs, hr, hrun, hended, hW, hsame⟩ := X0.leave (v := some (.int (0 : Int32))) (fun h => by rw [Bd.returns] at h; cases h)
    refine ⟨_, _, cn9 _ ?_, hrun, hended, _, _, rfl, ?_, ⟨_, rfl⟩, hW, hsame.mono (by decide) (by decide)⟩
    · exact retN X0 hx (t := .boolean) Bd.returns (by simp) (hb hby dB3_21) hr
    · show QB3 Z a1 a2 k1 k2 w0 w1 w2 v0 v1 v2 h0 n0 _ s₁.heap _
      rw [e0]
      exact ⟨(by simp [own_beats, h17_8, own_asymm h17_8]), N0, rfl⟩
  · -- pc 17 taken
    have cn10 : ∀ t, Steps p.tables e below (s₁.setTop (mkF m 24 #[.val (.ref a1), .val (.ref a2), .val (.int (0 : Int32)), .val (.int (0 : Int32))] [(.int (0 : Int32)), (.ref a1)])) t → Steps p.tables e below (s₁.setTop (entryFrame m #[(.ref a1), (.ref a2)] 4)) t := by
      intro t k
      refine cn7 t ?_
      refine o_ifYes X0.here hx (pc' := 22) (hb hby dB3_17) (XT.ll_le_t h17_8) (by decide) (by decide) ?_
      refine o_aloadN X0.here hx (hb hby dB3_22) rfl rfl ?_
      refine o_iloadN X0.here hx (hb hby dB3_23) rfl ?_
      exact k
    obtain ⟨cl11, Ar11, qk11, Sz11, Mz11, Hh11, Gg11⟩ := pr6
    have pr6 : Arv Z h0 a1 k1 .double (3 : Int32) [(.double (FP.l2d w0)), (.double (FP.l2d w1)), (.double (FP.l2d w2))] (.double (0 : UInt64)) := ⟨cl11, Ar11, qk11, Sz11, Mz11, Hh11, Gg11⟩
    have cn12 : ∀ t, Steps p.tables e below (s₁.setTop (mkF m 27 #[.val (.ref a1), .val (.ref a2), .val (.int (0 : Int32)), .val (.int (0 : Int32))] [(.int (0 : Int32)), (.ref a2), (.double (FP.l2d w0))])) t → Steps p.tables e below (s₁.setTop (entryFrame m #[(.ref a1), (.ref a2)] 4)) t := by
      intro t k
      refine cn10 t ?_
      refine X0.daload hx (j := (0 : Int32)) (v := (.double (FP.l2d w0))) (by rw [e0]; exact Ar11.1) (State.isArrayOf_alike hZ.alike Ar11.2.1) Ar11.2.2 (inb_of Sz11 ⟨(by decide), (by decide)⟩) (Hh11.at (inb_of Sz11 ⟨(by decide), (by decide)⟩) rfl) (g := (mkF m 24 #[.val (.ref a1), .val (.ref a2), .val (.int (0 : Int32)), .val (.int (0 : Int32))] [(.int (0 : Int32)), (.ref a1)])) rfl rfl (hb hby dB3_24) _ ?_
      show Steps p.tables e below (s₁.setTop (mkF m 25 #[.val (.ref a1), .val (.ref a2), .val (.int (0 : Int32)), .val (.int (0 : Int32))] [(.double (FP.l2d w0))])) _
      refine o_aloadN X0.here hx (hb hby dB3_25) rfl rfl ?_
      refine o_iloadN X0.here hx (hb hby dB3_26) rfl ?_
      exact k
    obtain ⟨cl13, Ar13, qk13, Sz13, Mz13, Hh13, Gg13⟩ := pr7
    have pr7 : Arv Z h0 a2 k2 .double (3 : Int32) [(.double (FP.l2d v0)), (.double (FP.l2d v1)), (.double (FP.l2d v2))] (.double (0 : UInt64)) := ⟨cl13, Ar13, qk13, Sz13, Mz13, Hh13, Gg13⟩
    have cn14 : ∀ t, Steps p.tables e below (s₁.setTop (mkF m 29 #[.val (.ref a1), .val (.ref a2), .val (.int (0 : Int32)), .val (.int (0 : Int32))] [(.int (XT.cmpL w0 v0))])) t → Steps p.tables e below (s₁.setTop (entryFrame m #[(.ref a1), (.ref a2)] 4)) t := by
      intro t k
      refine cn12 t ?_
      refine X0.daload hx (j := (0 : Int32)) (v := (.double (FP.l2d v0))) (by rw [e0]; exact Ar13.1) (State.isArrayOf_alike hZ.alike Ar13.2.1) Ar13.2.2 (inb_of Sz13 ⟨(by decide), (by decide)⟩) (Hh13.at (inb_of Sz13 ⟨(by decide), (by decide)⟩) rfl) (g := (mkF m 27 #[.val (.ref a1), .val (.ref a2), .val (.int (0 : Int32)), .val (.int (0 : Int32))] [(.int (0 : Int32)), (.ref a2), (.double (FP.l2d w0))])) rfl rfl (hb hby dB3_27) _ ?_
      show Steps p.tables e below (s₁.setTop (mkF m 28 #[.val (.ref a1), .val (.ref a2), .val (.int (0 : Int32)), .val (.int (0 : Int32))] [(.double (FP.l2d v0)), (.double (FP.l2d w0))])) _
      refine o_dcmpS X0.here hx (hb hby dB3_28) (v := XT.cmpL w0 v0) (dcmpV_w (own_bd_b53 H0 (by decide)) (own_bd_b53 H3 (by decide)) _) ?_
      exact k
    by_cases h29_15 : w0 < v0
    · -- pc 29 not taken
      have cn16 : ∀ t, Steps p.tables e below (s₁.setTop (mkF m 6 #[.val (.ref a1), .val (.ref a2), .val (.int (1 : Int32)), .val (.int (1 : Int32))] [(.ref a1), (.int (1 : Int32))])) t → Steps p.tables e below (s₁.setTop (entryFrame m #[(.ref a1), (.ref a2)] 4)) t := by
        intro t k
        refine cn14 t ?_
        refine o_ifNo X0.here hx (hb hby dB3_29) (XT.ll_ge_f h29_15) ?_
        refine o_iconstV X0.here hx (1 : Int32) (hb hby dB3_32) rfl ?_
        refine o_istoreN X0.here hx (hb hby dB3_33) (l' := #[.val (.ref a1), .val (.ref a2), .val (.int (1 : Int32)), .val (.int (0 : Int32))]) rfl ?_
        refine o_iincV X0.here hx (1 : Int32) (hb hby dB3_34) rfl rfl (l' := #[.val (.ref a1), .val (.ref a2), .val (.int (1 : Int32)), .val (.int ((0 : Int32) + (1 : Int32)))]) rfl ?_
        show Steps p.tables e below (s₁.setTop (mkF m 37 #[.val (.ref a1), .val (.ref a2), .val (.int (1 : Int32)), .val (.int (1 : Int32))] [])) _
        show Steps p.tables e below (s₁.setTop (mkF m 37 #[.val (.ref a1), .val (.ref a2), .val (.int (1 : Int32)), .val (.int (1 : Int32))] [])) _
        refine o_goto X0.here hx (pc' := 4) (hb hby dB3_37) (by decide) (by decide) ?_
        refine o_iloadN X0.here hx (hb hby dB3_4) rfl ?_
        refine o_aloadN X0.here hx (hb hby dB3_5) rfl rfl ?_
        exact k
      obtain ⟨cl17, Ar17, qk17, Sz17, Mz17, Hh17, Gg17⟩ := pr6
      have pr6 : Arv Z h0 a1 k1 .double (3 : Int32) [(.double (FP.l2d w0)), (.double (FP.l2d w1)), (.double (FP.l2d w2))] (.double (0 : UInt64)) := ⟨cl17, Ar17, qk17, Sz17, Mz17, Hh17, Gg17⟩
      have cn18 : ∀ t, Steps p.tables e below (s₁.setTop (mkF m 12 #[.val (.ref a1), .val (.ref a2), .val (.int (1 : Int32)), .val (.int (1 : Int32))] [(.int (1 : Int32)), (.ref a1)])) t → Steps p.tables e below (s₁.setTop (entryFrame m #[(.ref a1), (.ref a2)] 4)) t := by
        intro t k
        refine cn16 t ?_
        refine X0.arraylength hx (by rw [e0]; exact Ar17.1) (State.isArrayOf_alike hZ.alike Ar17.2.1) (g := (mkF m 6 #[.val (.ref a1), .val (.ref a2), .val (.int (1 : Int32)), .val (.int (1 : Int32))] [(.ref a1), (.int (1 : Int32))])) rfl rfl (hb hby dB3_6) _ ?_
        rw [len_of Sz17 Mz17]
        show Steps p.tables e below (s₁.setTop (mkF m 7 #[.val (.ref a1), .val (.ref a2), .val (.int (1 : Int32)), .val (.int (1 : Int32))] [(.int (3 : Int32)), (.int (1 : Int32))])) _
        show Steps p.tables e below (s₁.setTop (mkF m 7 #[.val (.ref a1), .val (.ref a2), .val (.int (1 : Int32)), .val (.int (1 : Int32))] [(.int (3 : Int32)), (.int (1 : Int32))])) _
        refine o_icmpNo X0.here hx (hb hby dB3_7) (XT.ii_ge_f (by decide)) ?_
        refine o_aloadN X0.here hx (hb hby dB3_10) rfl rfl ?_
        refine o_iloadN X0.here hx (hb hby dB3_11) rfl ?_
        exact k
      obtain ⟨cl19, Ar19, qk19, Sz19, Mz19, Hh19, Gg19⟩ := pr6
      have pr6 : Arv Z h0 a1 k1 .double (3 : Int32) [(.double (FP.l2d w0)), (.double (FP.l2d w1)), (.double (FP.l2d w2))] (.double (0 : UInt64)) := ⟨cl19, Ar19, qk19, Sz19, Mz19, Hh19, Gg19⟩
      have cn20 : ∀ t, Steps p.tables e below (s₁.setTop (mkF m 15 #[.val (.ref a1), .val (.ref a2), .val (.int (1 : Int32)), .val (.int (1 : Int32))] [(.int (1 : Int32)), (.ref a2), (.double (FP.l2d w1))])) t → Steps p.tables e below (s₁.setTop (entryFrame m #[(.ref a1), (.ref a2)] 4)) t := by
        intro t k
        refine cn18 t ?_
        refine X0.daload hx (j := (1 : Int32)) (v := (.double (FP.l2d w1))) (by rw [e0]; exact Ar19.1) (State.isArrayOf_alike hZ.alike Ar19.2.1) Ar19.2.2 (inb_of Sz19 ⟨(by decide), (by decide)⟩) (Hh19.at (inb_of Sz19 ⟨(by decide), (by decide)⟩) rfl) (g := (mkF m 12 #[.val (.ref a1), .val (.ref a2), .val (.int (1 : Int32)), .val (.int (1 : Int32))] [(.int (1 : Int32)), (.ref a1)])) rfl rfl (hb hby dB3_12) _ ?_
        show Steps p.tables e below (s₁.setTop (mkF m 13 #[.val (.ref a1), .val (.ref a2), .val (.int (1 : Int32)), .val (.int (1 : Int32))] [(.double (FP.l2d w1))])) _
        refine o_aloadN X0.here hx (hb hby dB3_13) rfl rfl ?_
        refine o_iloadN X0.here hx (hb hby dB3_14) rfl ?_
        exact k
      obtain ⟨cl21, Ar21, qk21, Sz21, Mz21, Hh21, Gg21⟩ := pr7
      have pr7 : Arv Z h0 a2 k2 .double (3 : Int32) [(.double (FP.l2d v0)), (.double (FP.l2d v1)), (.double (FP.l2d v2))] (.double (0 : UInt64)) := ⟨cl21, Ar21, qk21, Sz21, Mz21, Hh21, Gg21⟩
      have cn22 : ∀ t, Steps p.tables e below (s₁.setTop (mkF m 17 #[.val (.ref a1), .val (.ref a2), .val (.int (1 : Int32)), .val (.int (1 : Int32))] [(.int (XT.cmpL w1 v1))])) t → Steps p.tables e below (s₁.setTop (entryFrame m #[(.ref a1), (.ref a2)] 4)) t := by
        intro t k
        refine cn20 t ?_
        refine X0.daload hx (j := (1 : Int32)) (v := (.double (FP.l2d v1))) (by rw [e0]; exact Ar21.1) (State.isArrayOf_alike hZ.alike Ar21.2.1) Ar21.2.2 (inb_of Sz21 ⟨(by decide), (by decide)⟩) (Hh21.at (inb_of Sz21 ⟨(by decide), (by decide)⟩) rfl) (g := (mkF m 15 #[.val (.ref a1), .val (.ref a2), .val (.int (1 : Int32)), .val (.int (1 : Int32))] [(.int (1 : Int32)), (.ref a2), (.double (FP.l2d w1))])) rfl rfl (hb hby dB3_15) _ ?_
        show Steps p.tables e below (s₁.setTop (mkF m 16 #[.val (.ref a1), .val (.ref a2), .val (.int (1 : Int32)), .val (.int (1 : Int32))] [(.double (FP.l2d v1)), (.double (FP.l2d w1))])) _
        refine o_dcmpS X0.here hx (hb hby dB3_16) (v := XT.cmpL w1 v1) (dcmpV_w (own_bd_b53 H1 (by decide)) (own_bd_b53 H4 (by decide)) _) ?_
        exact k
      by_cases h17_23 : v1 < w1
      · -- pc 17 not taken
        have cn24 : ∀ t, Steps p.tables e below (s₁.setTop (mkF m 21 #[.val (.ref a1), .val (.ref a2), .val (.int (1 : Int32)), .val (.int (1 : Int32))] [(.int (0 : Int32))])) t → Steps p.tables e below (s₁.setTop (entryFrame m #[(.ref a1), (.ref a2)] 4)) t := by
          intro t k
          refine cn22 t ?_
          refine o_ifNo X0.here hx (hb hby dB3_17) (XT.ll_le_f h17_23) ?_
          refine o_iconstV X0.here hx (0 : Int32) (hb hby dB3_20) rfl ?_
          exact k
        obtain ⟨fs, hr, hrun, hended, hW, hsame⟩ := X0.leave (v := some (.int (0 : Int32))) (fun h => by rw [Bd.returns] at h; cases h)
        refine ⟨_, _, cn24 _ ?_, hrun, hended, _, _, rfl, ?_, ⟨_, rfl⟩, hW, hsame.mono (by decide) (by decide)⟩
        · exact retN X0 hx (t := .boolean) Bd.returns (by simp) (hb hby dB3_21) hr
        · show QB3 Z a1 a2 k1 k2 w0 w1 w2 v0 v1 v2 h0 n0 _ s₁.heap _
          rw [e0]
          exact ⟨(by simp [own_beats, h17_8, h29_15, h17_23, own_asymm h29_15, own_asymm h17_23]), N0, rfl⟩
      · -- pc 17 taken
        have cn25 : ∀ t, Steps p.tables e below (s₁.setTop (mkF m 24 #[.val (.ref a1), .val (.ref a2), .val (.int (1 : Int32)), .val (.int (1 : Int32))] [(.int (1 : Int32)), (.ref a1)])) t → Steps p.tables e below (s₁.setTop (entryFrame m #[(.ref a1), (.ref a2)] 4)) t := by
          intro t k
          refine cn22 t ?_
          refine o_ifYes X0.here hx (pc' := 22) (hb hby dB3_17) (XT.ll_le_t h17_23) (by decide) (by decide) ?_
          refine o_aloadN X0.here hx (hb hby dB3_22) rfl rfl ?_
          refine o_iloadN X0.here hx (hb hby dB3_23) rfl ?_
          exact k
        obtain ⟨cl26, Ar26, qk26, Sz26, Mz26, Hh26, Gg26⟩ := pr6
        have pr6 : Arv Z h0 a1 k1 .double (3 : Int32) [(.double (FP.l2d w0)), (.double (FP.l2d w1)), (.double (FP.l2d w2))] (.double (0 : UInt64)) := ⟨cl26, Ar26, qk26, Sz26, Mz26, Hh26, Gg26⟩
        have cn27 : ∀ t, Steps p.tables e below (s₁.setTop (mkF m 27 #[.val (.ref a1), .val (.ref a2), .val (.int (1 : Int32)), .val (.int (1 : Int32))] [(.int (1 : Int32)), (.ref a2), (.double (FP.l2d w1))])) t → Steps p.tables e below (s₁.setTop (entryFrame m #[(.ref a1), (.ref a2)] 4)) t := by
          intro t k
          refine cn25 t ?_
          refine X0.daload hx (j := (1 : Int32)) (v := (.double (FP.l2d w1))) (by rw [e0]; exact Ar26.1) (State.isArrayOf_alike hZ.alike Ar26.2.1) Ar26.2.2 (inb_of Sz26 ⟨(by decide), (by decide)⟩) (Hh26.at (inb_of Sz26 ⟨(by decide), (by decide)⟩) rfl) (g := (mkF m 24 #[.val (.ref a1), .val (.ref a2), .val (.int (1 : Int32)), .val (.int (1 : Int32))] [(.int (1 : Int32)), (.ref a1)])) rfl rfl (hb hby dB3_24) _ ?_
          show Steps p.tables e below (s₁.setTop (mkF m 25 #[.val (.ref a1), .val (.ref a2), .val (.int (1 : Int32)), .val (.int (1 : Int32))] [(.double (FP.l2d w1))])) _
          refine o_aloadN X0.here hx (hb hby dB3_25) rfl rfl ?_
          refine o_iloadN X0.here hx (hb hby dB3_26) rfl ?_
          exact k
        obtain ⟨cl28, Ar28, qk28, Sz28, Mz28, Hh28, Gg28⟩ := pr7
        have pr7 : Arv Z h0 a2 k2 .double (3 : Int32) [(.double (FP.l2d v0)), (.double (FP.l2d v1)), (.double (FP.l2d v2))] (.double (0 : UInt64)) := ⟨cl28, Ar28, qk28, Sz28, Mz28, Hh28, Gg28⟩
        have cn29 : ∀ t, Steps p.tables e below (s₁.setTop (mkF m 29 #[.val (.ref a1), .val (.ref a2), .val (.int (1 : Int32)), .val (.int (1 : Int32))] [(.int (XT.cmpL w1 v1))])) t → Steps p.tables e below (s₁.setTop (entryFrame m #[(.ref a1), (.ref a2)] 4)) t := by
          intro t k
          refine cn27 t ?_
          refine X0.daload hx (j := (1 : Int32)) (v := (.double (FP.l2d v1))) (by rw [e0]; exact Ar28.1) (State.isArrayOf_alike hZ.alike Ar28.2.1) Ar28.2.2 (inb_of Sz28 ⟨(by decide), (by decide)⟩) (Hh28.at (inb_of Sz28 ⟨(by decide), (by decide)⟩) rfl) (g := (mkF m 27 #[.val (.ref a1), .val (.ref a2), .val (.int (1 : Int32)), .val (.int (1 : Int32))] [(.int (1 : Int32)), (.ref a2), (.double (FP.l2d w1))])) rfl rfl (hb hby dB3_27) _ ?_
          show Steps p.tables e below (s₁.setTop (mkF m 28 #[.val (.ref a1), .val (.ref a2), .val (.int (1 : Int32)), .val (.int (1 : Int32))] [(.double (FP.l2d v1)), (.double (FP.l2d w1))])) _
          refine o_dcmpS X0.here hx (hb hby dB3_28) (v := XT.cmpL w1 v1) (dcmpV_w (own_bd_b53 H1 (by decide)) (own_bd_b53 H4 (by decide)) _) ?_
          exact k
        by_cases h29_30 : w1 < v1
        · -- pc 29 not taken
          have cn31 : ∀ t, Steps p.tables e below (s₁.setTop (mkF m 6 #[.val (.ref a1), .val (.ref a2), .val (.int (1 : Int32)), .val (.int (2 : Int32))] [(.ref a1), (.int (2 : Int32))])) t → Steps p.tables e below (s₁.setTop (entryFrame m #[(.ref a1), (.ref a2)] 4)) t := by
            intro t k
            refine cn29 t ?_
            refine o_ifNo X0.here hx (hb hby dB3_29) (XT.ll_ge_f h29_30) ?_
            refine o_iconstV X0.here hx (1 : Int32) (hb hby dB3_32) rfl ?_
            refine o_istoreN X0.here hx (hb hby dB3_33) (l' := #[.val (.ref a1), .val (.ref a2), .val (.int (1 : Int32)), .val (.int (1 : Int32))]) rfl ?_
            refine o_iincV X0.here hx (1 : Int32) (hb hby dB3_34) rfl rfl (l' := #[.val (.ref a1), .val (.ref a2), .val (.int (1 : Int32)), .val (.int ((1 : Int32) + (1 : Int32)))]) rfl ?_
            show Steps p.tables e below (s₁.setTop (mkF m 37 #[.val (.ref a1), .val (.ref a2), .val (.int (1 : Int32)), .val (.int (2 : Int32))] [])) _
            show Steps p.tables e below (s₁.setTop (mkF m 37 #[.val (.ref a1), .val (.ref a2), .val (.int (1 : Int32)), .val (.int (2 : Int32))] [])) _
            refine o_goto X0.here hx (pc' := 4) (hb hby dB3_37) (by decide) (by decide) ?_
            refine o_iloadN X0.here hx (hb hby dB3_4) rfl ?_
            refine o_aloadN X0.here hx (hb hby dB3_5) rfl rfl ?_
            exact k
          obtain ⟨cl32, Ar32, qk32, Sz32, Mz32, Hh32, Gg32⟩ := pr6
          have pr6 : Arv Z h0 a1 k1 .double (3 : Int32) [(.double (FP.l2d w0)), (.double (FP.l2d w1)), (.double (FP.l2d w2))] (.double (0 : UInt64)) := ⟨cl32, Ar32, qk32, Sz32, Mz32, Hh32, Gg32⟩
          have cn33 : ∀ t, Steps p.tables e below (s₁.setTop (mkF m 12 #[.val (.ref a1), .val (.ref a2), .val (.int (1 : Int32)), .val (.int (2 : Int32))] [(.int (2 : Int32)), (.ref a1)])) t → Steps p.tables e below (s₁.setTop (entryFrame m #[(.ref a1), (.ref a2)] 4)) t := by
            intro t k
            refine cn31 t ?_
            refine X0.arraylength hx (by rw [e0]; exact Ar32.1) (State.isArrayOf_alike hZ.alike Ar32.2.1) (g := (mkF m 6 #[.val (.ref a1), .val (.ref a2), .val (.int (1 : Int32)), .val (.int (2 : Int32))] [(.ref a1), (.int (2 : Int32))])) rfl rfl (hb hby dB3_6) _ ?_
            rw [len_of Sz32 Mz32]
            show Steps p.tables e below (s₁.setTop (mkF m 7 #[.val (.ref a1), .val (.ref a2), .val (.int (1 : Int32)), .val (.int (2 : Int32))] [(.int (3 : Int32)), (.int (2 : Int32))])) _
            show Steps p.tables e below (s₁.setTop (mkF m 7 #[.val (.ref a1), .val (.ref a2), .val (.int (1 : Int32)), .val (.int (2 : Int32))] [(.int (3 : Int32)), (.int (2 : Int32))])) _
            refine o_icmpNo X0.here hx (hb hby dB3_7) (XT.ii_ge_f (by decide)) ?_
            refine o_aloadN X0.here hx (hb hby dB3_10) rfl rfl ?_
            refine o_iloadN X0.here hx (hb hby dB3_11) rfl ?_
            exact k
          obtain ⟨cl34, Ar34, qk34, Sz34, Mz34, Hh34, Gg34⟩ := pr6
          have pr6 : Arv Z h0 a1 k1 .double (3 : Int32) [(.double (FP.l2d w0)), (.double (FP.l2d w1)), (.double (FP.l2d w2))] (.double (0 : UInt64)) := ⟨cl34, Ar34, qk34, Sz34, Mz34, Hh34, Gg34⟩
          have cn35 : ∀ t, Steps p.tables e below (s₁.setTop (mkF m 15 #[.val (.ref a1), .val (.ref a2), .val (.int (1 : Int32)), .val (.int (2 : Int32))] [(.int (2 : Int32)), (.ref a2), (.double (FP.l2d w2))])) t → Steps p.tables e below (s₁.setTop (entryFrame m #[(.ref a1), (.ref a2)] 4)) t := by
            intro t k
            refine cn33 t ?_
            refine X0.daload hx (j := (2 : Int32)) (v := (.double (FP.l2d w2))) (by rw [e0]; exact Ar34.1) (State.isArrayOf_alike hZ.alike Ar34.2.1) Ar34.2.2 (inb_of Sz34 ⟨(by decide), (by decide)⟩) (Hh34.at (inb_of Sz34 ⟨(by decide), (by decide)⟩) rfl) (g := (mkF m 12 #[.val (.ref a1), .val (.ref a2), .val (.int (1 : Int32)), .val (.int (2 : Int32))] [(.int (2 : Int32)), (.ref a1)])) rfl rfl (hb hby dB3_12) _ ?_
            show Steps p.tables e below (s₁.setTop (mkF m 13 #[.val (.ref a1), .val (.ref a2), .val (.int (1 : Int32)), .val (.int (2 : Int32))] [(.double (FP.l2d w2))])) _
            refine o_aloadN X0.here hx (hb hby dB3_13) rfl rfl ?_
            refine o_iloadN X0.here hx (hb hby dB3_14) rfl ?_
            exact k
          obtain ⟨cl36, Ar36, qk36, Sz36, Mz36, Hh36, Gg36⟩ := pr7
          have pr7 : Arv Z h0 a2 k2 .double (3 : Int32) [(.double (FP.l2d v0)), (.double (FP.l2d v1)), (.double (FP.l2d v2))] (.double (0 : UInt64)) := ⟨cl36, Ar36, qk36, Sz36, Mz36, Hh36, Gg36⟩
          have cn37 : ∀ t, Steps p.tables e below (s₁.setTop (mkF m 17 #[.val (.ref a1), .val (.ref a2), .val (.int (1 : Int32)), .val (.int (2 : Int32))] [(.int (XT.cmpL w2 v2))])) t → Steps p.tables e below (s₁.setTop (entryFrame m #[(.ref a1), (.ref a2)] 4)) t := by
            intro t k
            refine cn35 t ?_
            refine X0.daload hx (j := (2 : Int32)) (v := (.double (FP.l2d v2))) (by rw [e0]; exact Ar36.1) (State.isArrayOf_alike hZ.alike Ar36.2.1) Ar36.2.2 (inb_of Sz36 ⟨(by decide), (by decide)⟩) (Hh36.at (inb_of Sz36 ⟨(by decide), (by decide)⟩) rfl) (g := (mkF m 15 #[.val (.ref a1), .val (.ref a2), .val (.int (1 : Int32)), .val (.int (2 : Int32))] [(.int (2 : Int32)), (.ref a2), (.double (FP.l2d w2))])) rfl rfl (hb hby dB3_15) _ ?_
            show Steps p.tables e below (s₁.setTop (mkF m 16 #[.val (.ref a1), .val (.ref a2), .val (.int (1 : Int32)), .val (.int (2 : Int32))] [(.double (FP.l2d v2)), (.double (FP.l2d w2))])) _
            refine o_dcmpS X0.here hx (hb hby dB3_16) (v := XT.cmpL w2 v2) (dcmpV_w (own_bd_b53 H2 (by decide)) (own_bd_b53 H5 (by decide)) _) ?_
            exact k
          by_cases h17_38 : v2 < w2
          · -- pc 17 not taken
            have cn39 : ∀ t, Steps p.tables e below (s₁.setTop (mkF m 21 #[.val (.ref a1), .val (.ref a2), .val (.int (1 : Int32)), .val (.int (2 : Int32))] [(.int (0 : Int32))])) t → Steps p.tables e below (s₁.setTop (entryFrame m #[(.ref a1), (.ref a2)] 4)) t := by
              intro t k
              refine cn37 t ?_
              refine o_ifNo X0.here hx (hb hby dB3_17) (XT.ll_le_f h17_38) ?_
              refine o_iconstV X0.here hx (0 : Int32) (hb hby dB3_20) rfl ?_
              exact k
            obtain ⟨fs, hr, hrun, hended, hW, hsame⟩ := X0.leave (v := some (.int (0 : Int32))) (fun h => by rw [Bd.returns] at h; cases h)
            refine ⟨_, _, cn39 _ ?_, hrun, hended, _, _, rfl, ?_, ⟨_, rfl⟩, hW, hsame.mono (by decide) (by decide)⟩
            · exact retN X0 hx (t := .boolean) Bd.returns (by simp) (hb hby dB3_21) hr
            · show QB3 Z a1 a2 k1 k2 w0 w1 w2 v0 v1 v2 h0 n0 _ s₁.heap _
              rw [e0]
              exact ⟨(by simp [own_beats, h17_8, h29_15, h17_23, h29_30, h17_38, own_asymm h29_15, own_asymm h29_30, own_asymm h17_38]), N0, rfl⟩
          · -- pc 17 taken
            have cn40 : ∀ t, Steps p.tables e below (s₁.setTop (mkF m 24 #[.val (.ref a1), .val (.ref a2), .val (.int (1 : Int32)), .val (.int (2 : Int32))] [(.int (2 : Int32)), (.ref a1)])) t → Steps p.tables e below (s₁.setTop (entryFrame m #[(.ref a1), (.ref a2)] 4)) t := by
              intro t k
              refine cn37 t ?_
              refine o_ifYes X0.here hx (pc' := 22) (hb hby dB3_17) (XT.ll_le_t h17_38) (by decide) (by decide) ?_
              refine o_aloadN X0.here hx (hb hby dB3_22) rfl rfl ?_
              refine o_iloadN X0.here hx (hb hby dB3_23) rfl ?_
              exact k
            obtain ⟨cl41, Ar41, qk41, Sz41, Mz41, Hh41, Gg41⟩ := pr6
            have pr6 : Arv Z h0 a1 k1 .double (3 : Int32) [(.double (FP.l2d w0)), (.double (FP.l2d w1)), (.double (FP.l2d w2))] (.double (0 : UInt64)) := ⟨cl41, Ar41, qk41, Sz41, Mz41, Hh41, Gg41⟩
            have cn42 : ∀ t, Steps p.tables e below (s₁.setTop (mkF m 27 #[.val (.ref a1), .val (.ref a2), .val (.int (1 : Int32)), .val (.int (2 : Int32))] [(.int (2 : Int32)), (.ref a2), (.double (FP.l2d w2))])) t → Steps p.tables e below (s₁.setTop (entryFrame m #[(.ref a1), (.ref a2)] 4)) t := by
              intro t k
              refine cn40 t ?_
              refine X0.daload hx (j := (2 : Int32)) (v := (.double (FP.l2d w2))) (by rw [e0]; exact Ar41.1) (State.isArrayOf_alike hZ.alike Ar41.2.1) Ar41.2.2 (inb_of Sz41 ⟨(by decide), (by decide)⟩) (Hh41.at (inb_of Sz41 ⟨(by decide), (by decide)⟩) rfl) (g := (mkF m 24 #[.val (.ref a1), .val (.ref a2), .val (.int (1 : Int32)), .val (.int (2 : Int32))] [(.int (2 : Int32)), (.ref a1)])) rfl rfl (hb hby dB3_24) _ ?_
              show Steps p.tables e below (s₁.setTop (mkF m 25 #[.val (.ref a1), .val (.ref a2), .val (.int (1 : Int32)), .val (.int (2 : Int32))] [(.double (FP.l2d w2))])) _
              refine o_aloadN X0.here hx (hb hby dB3_25) rfl rfl ?_
              refine o_iloadN X0.here hx (hb hby dB3_26) rfl ?_
              exact k
            obtain ⟨cl43, Ar43, qk43, Sz43, Mz43, Hh43, Gg43⟩ := pr7
            have pr7 : Arv Z h0 a2 k2 .double (3 : Int32) [(.double (FP.l2d v0)), (.double (FP.l2d v1)), (.double (FP.l2d v2))] (.double (0 : UInt64)) := ⟨cl43, Ar43, qk43, Sz43, Mz43, Hh43, Gg43⟩
            have cn44 : ∀ t, Steps p.tables e below (s₁.setTop (mkF m 29 #[.val (.ref a1), .val (.ref a2), .val (.int (1 : Int32)), .val (.int (2 : Int32))] [(.int (XT.cmpL w2 v2))])) t → Steps p.tables e below (s₁.setTop (entryFrame m #[(.ref a1), (.ref a2)] 4)) t := by
              intro t k
              refine cn42 t ?_
              refine X0.daload hx (j := (2 : Int32)) (v := (.double (FP.l2d v2))) (by rw [e0]; exact Ar43.1) (State.isArrayOf_alike hZ.alike Ar43.2.1) Ar43.2.2 (inb_of Sz43 ⟨(by decide), (by decide)⟩) (Hh43.at (inb_of Sz43 ⟨(by decide), (by decide)⟩) rfl) (g := (mkF m 27 #[.val (.ref a1), .val (.ref a2), .val (.int (1 : Int32)), .val (.int (2 : Int32))] [(.int (2 : Int32)), (.ref a2), (.double (FP.l2d w2))])) rfl rfl (hb hby dB3_27) _ ?_
              show Steps p.tables e below (s₁.setTop (mkF m 28 #[.val (.ref a1), .val (.ref a2), .val (.int (1 : Int32)), .val (.int (2 : Int32))] [(.double (FP.l2d v2)), (.double (FP.l2d w2))])) _
              refine o_dcmpS X0.here hx (hb hby dB3_28) (v := XT.cmpL w2 v2) (dcmpV_w (own_bd_b53 H2 (by decide)) (own_bd_b53 H5 (by decide)) _) ?_
              exact k
            by_cases h29_45 : w2 < v2
            · -- pc 29 not taken
              have cn46 : ∀ t, Steps p.tables e below (s₁.setTop (mkF m 6 #[.val (.ref a1), .val (.ref a2), .val (.int (1 : Int32)), .val (.int (3 : Int32))] [(.ref a1), (.int (3 : Int32))])) t → Steps p.tables e below (s₁.setTop (entryFrame m #[(.ref a1), (.ref a2)] 4)) t := by
                intro t k
                refine cn44 t ?_
                refine o_ifNo X0.here hx (hb hby dB3_29) (XT.ll_ge_f h29_45) ?_
                refine o_iconstV X0.here hx (1 : Int32) (hb hby dB3_32) rfl ?_
                refine o_istoreN X0.here hx (hb hby dB3_33) (l' := #[.val (.ref a1), .val (.ref a2), .val (.int (1 : Int32)), .val (.int (2 : Int32))]) rfl ?_
                refine o_iincV X0.here hx (1 : Int32) (hb hby dB3_34) rfl rfl (l' := #[.val (.ref a1), .val (.ref a2), .val (.int (1 : Int32)), .val (.int ((2 : Int32) + (1 : Int32)))]) rfl ?_
                show Steps p.tables e below (s₁.setTop (mkF m 37 #[.val (.ref a1), .val (.ref a2), .val (.int (1 : Int32)), .val (.int (3 : Int32))] [])) _
                show Steps p.tables e below (s₁.setTop (mkF m 37 #[.val (.ref a1), .val (.ref a2), .val (.int (1 : Int32)), .val (.int (3 : Int32))] [])) _
                refine o_goto X0.here hx (pc' := 4) (hb hby dB3_37) (by decide) (by decide) ?_
                refine o_iloadN X0.here hx (hb hby dB3_4) rfl ?_
                refine o_aloadN X0.here hx (hb hby dB3_5) rfl rfl ?_
                exact k
              obtain ⟨cl47, Ar47, qk47, Sz47, Mz47, Hh47, Gg47⟩ := pr6
              have pr6 : Arv Z h0 a1 k1 .double (3 : Int32) [(.double (FP.l2d w0)), (.double (FP.l2d w1)), (.double (FP.l2d w2))] (.double (0 : UInt64)) := ⟨cl47, Ar47, qk47, Sz47, Mz47, Hh47, Gg47⟩
              have cn48 : ∀ t, Steps p.tables e below (s₁.setTop (mkF m 41 #[.val (.ref a1), .val (.ref a2), .val (.int (1 : Int32)), .val (.int (3 : Int32))] [(.int (1 : Int32))])) t → Steps p.tables e below (s₁.setTop (entryFrame m #[(.ref a1), (.ref a2)] 4)) t := by
                intro t k
                refine cn46 t ?_
                refine X0.arraylength hx (by rw [e0]; exact Ar47.1) (State.isArrayOf_alike hZ.alike Ar47.2.1) (g := (mkF m 6 #[.val (.ref a1), .val (.ref a2), .val (.int (1 : Int32)), .val (.int (3 : Int32))] [(.ref a1), (.int (3 : Int32))])) rfl rfl (hb hby dB3_6) _ ?_
                rw [len_of Sz47 Mz47]
                show Steps p.tables e below (s₁.setTop (mkF m 7 #[.val (.ref a1), .val (.ref a2), .val (.int (1 : Int32)), .val (.int (3 : Int32))] [(.int (3 : Int32)), (.int (3 : Int32))])) _
                show Steps p.tables e below (s₁.setTop (mkF m 7 #[.val (.ref a1), .val (.ref a2), .val (.int (1 : Int32)), .val (.int (3 : Int32))] [(.int (3 : Int32)), (.int (3 : Int32))])) _
                refine o_icmpYes X0.here hx (pc' := 40) (hb hby dB3_7) (XT.ii_ge_t (by decide)) (by decide) (by decide) ?_
                refine o_iloadN X0.here hx (hb hby dB3_40) rfl ?_
                exact k
              obtain ⟨fs, hr, hrun, hended, hW, hsame⟩ := X0.leave (v := some (.int (1 : Int32))) (fun h => by rw [Bd.returns] at h; cases h)
              refine ⟨_, _, cn48 _ ?_, hrun, hended, _, _, rfl, ?_, ⟨_, rfl⟩, hW, hsame.mono (by decide) (by decide)⟩
              · exact retN X0 hx (t := .boolean) Bd.returns (by simp) (hb hby dB3_41) hr
              · show QB3 Z a1 a2 k1 k2 w0 w1 w2 v0 v1 v2 h0 n0 _ s₁.heap _
                rw [e0]
                exact ⟨(by simp [own_beats, h17_8, h29_15, h17_23, h29_30, h17_38, h29_45, own_asymm h29_15, own_asymm h29_30, own_asymm h29_45]), N0, rfl⟩
            · -- pc 29 taken
              have cn49 : ∀ t, Steps p.tables e below (s₁.setTop (mkF m 6 #[.val (.ref a1), .val (.ref a2), .val (.int (1 : Int32)), .val (.int (3 : Int32))] [(.ref a1), (.int (3 : Int32))])) t → Steps p.tables e below (s₁.setTop (entryFrame m #[(.ref a1), (.ref a2)] 4)) t := by
                intro t k
                refine cn44 t ?_
                refine o_ifYes X0.here hx (pc' := 34) (hb hby dB3_29) (XT.ll_ge_t h29_45) (by decide) (by decide) ?_
                refine o_iincV X0.here hx (1 : Int32) (hb hby dB3_34) rfl rfl (l' := #[.val (.ref a1), .val (.ref a2), .val (.int (1 : Int32)), .val (.int ((2 : Int32) + (1 : Int32)))]) rfl ?_
                show Steps p.tables e below (s₁.setTop (mkF m 37 #[.val (.ref a1), .val (.ref a2), .val (.int (1 : Int32)), .val (.int (3 : Int32))] [])) _
                show Steps p.tables e below (s₁.setTop (mkF m 37 #[.val (.ref a1), .val (.ref a2), .val (.int (1 : Int32)), .val (.int (3 : Int32))] [])) _
                refine o_goto X0.here hx (pc' := 4) (hb hby dB3_37) (by decide) (by decide) ?_
                refine o_iloadN X0.here hx (hb hby dB3_4) rfl ?_
                refine o_aloadN X0.here hx (hb hby dB3_5) rfl rfl ?_
                exact k
              obtain ⟨cl50, Ar50, qk50, Sz50, Mz50, Hh50, Gg50⟩ := pr6
              have pr6 : Arv Z h0 a1 k1 .double (3 : Int32) [(.double (FP.l2d w0)), (.double (FP.l2d w1)), (.double (FP.l2d w2))] (.double (0 : UInt64)) := ⟨cl50, Ar50, qk50, Sz50, Mz50, Hh50, Gg50⟩
              have cn51 : ∀ t, Steps p.tables e below (s₁.setTop (mkF m 41 #[.val (.ref a1), .val (.ref a2), .val (.int (1 : Int32)), .val (.int (3 : Int32))] [(.int (1 : Int32))])) t → Steps p.tables e below (s₁.setTop (entryFrame m #[(.ref a1), (.ref a2)] 4)) t := by
                intro t k
                refine cn49 t ?_
                refine X0.arraylength hx (by rw [e0]; exact Ar50.1) (State.isArrayOf_alike hZ.alike Ar50.2.1) (g := (mkF m 6 #[.val (.ref a1), .val (.ref a2), .val (.int (1 : Int32)), .val (.int (3 : Int32))] [(.ref a1), (.int (3 : Int32))])) rfl rfl (hb hby dB3_6) _ ?_
                rw [len_of Sz50 Mz50]
                show Steps p.tables e below (s₁.setTop (mkF m 7 #[.val (.ref a1), .val (.ref a2), .val (.int (1 : Int32)), .val (.int (3 : Int32))] [(.int (3 : Int32)), (.int (3 : Int32))])) _
                show Steps p.tables e below (s₁.setTop (mkF m 7 #[.val (.ref a1), .val (.ref a2), .val (.int (1 : Int32)), .val (.int (3 : Int32))] [(.int (3 : Int32)), (.int (3 : Int32))])) _
                refine o_icmpYes X0.here hx (pc' := 40) (hb hby dB3_7) (XT.ii_ge_t (by decide)) (by decide) (by decide) ?_
                refine o_iloadN X0.here hx (hb hby dB3_40) rfl ?_
                exact k
              obtain ⟨fs, hr, hrun, hended, hW, hsame⟩ := X0.leave (v := some (.int (1 : Int32))) (fun h => by rw [Bd.returns] at h; cases h)
              refine ⟨_, _, cn51 _ ?_, hrun, hended, _, _, rfl, ?_, ⟨_, rfl⟩, hW, hsame.mono (by decide) (by decide)⟩
              · exact retN X0 hx (t := .boolean) Bd.returns (by simp) (hb hby dB3_41) hr
              · show QB3 Z a1 a2 k1 k2 w0 w1 w2 v0 v1 v2 h0 n0 _ s₁.heap _
                rw [e0]
                exact ⟨(by simp [own_beats, h17_8, h29_15, h17_23, h29_30, h17_38, h29_45, own_asymm h29_15, own_asymm h29_30]), N0, rfl⟩
        · -- pc 29 taken
          have cn52 : ∀ t, Steps p.tables e below (s₁.setTop (mkF m 6 #[.val (.ref a1), .val (.ref a2), .val (.int (1 : Int32)), .val (.int (2 : Int32))] [(.ref a1), (.int (2 : Int32))])) t → Steps p.tables e below (s₁.setTop (entryFrame m #[(.ref a1), (.ref a2)] 4)) t := by
            intro t k
            refine cn29 t ?_
            refine o_ifYes X0.here hx (pc' := 34) (hb hby dB3_29) (XT.ll_ge_t h29_30) (by decide) (by decide) ?_
            refine o_iincV X0.here hx (1 : Int32) (hb hby dB3_34) rfl rfl (l' := #[.val (.ref a1), .val (.ref a2), .val (.int (1 : Int32)), .val (.int ((1 : Int32) + (1 : Int32)))]) rfl ?_
            show Steps p.tables e below (s₁.setTop (mkF m 37 #[.val (.ref a1), .val (.ref a2), .val (.int (1 : Int32)), .val (.int (2 : Int32))] [])) _
            show Steps p.tables e below (s₁.setTop (mkF m 37 #[.val (.ref a1), .val (.ref a2), .val (.int (1 : Int32)), .val (.int (2 : Int32))] [])) _
            refine o_goto X0.here hx (pc' := 4) (hb hby dB3_37) (by decide) (by decide) ?_
            refine o_iloadN X0.here hx (hb hby dB3_4) rfl ?_
            refine o_aloadN X0.here hx (hb hby dB3_5) rfl rfl ?_
            exact k
          obtain ⟨cl53, Ar53, qk53, Sz53, Mz53, Hh53, Gg53⟩ := pr6
          have pr6 : Arv Z h0 a1 k1 .double (3 : Int32) [(.double (FP.l2d w0)), (.double (FP.l2d w1)), (.double (FP.l2d w2))] (.double (0 : UInt64)) := ⟨cl53, Ar53, qk53, Sz53, Mz53, Hh53, Gg53⟩
          have cn54 : ∀ t, Steps p.tables e below (s₁.setTop (mkF m 12 #[.val (.ref a1), .val (.ref a2), .val (.int (1 : Int32)), .val (.int (2 : Int32))] [(.int (2 : Int32)), (.ref a1)])) t → Steps p.tables e below (s₁.setTop (entryFrame m #[(.ref a1), (.ref a2)] 4)) t := by
            intro t k
            refine cn52 t ?_
            refine X0.arraylength hx (by rw [e0]; exact Ar53.1) (State.isArrayOf_alike hZ.alike Ar53.2.1) (g := (mkF m 6 #[.val (.ref a1), .val (.ref a2), .val (.int (1 : Int32)), .val (.int (2 : Int32))] [(.ref a1), (.int (2 : Int32))])) rfl rfl (hb hby dB3_6) _ ?_
            rw [len_of Sz53 Mz53]
            show Steps p.tables e below (s₁.setTop (mkF m 7 #[.val (.ref a1), .val (.ref a2), .val (.int (1 : Int32)), .val (.int (2 : Int32))] [(.int (3 : Int32)), (.int (2 : Int32))])) _
            show Steps p.tables e below (s₁.setTop (mkF m 7 #[.val (.ref a1), .val (.ref a2), .val (.int (1 : Int32)), .val (.int (2 : Int32))] [(.int (3 : Int32)), (.int (2 : Int32))])) _
            refine o_icmpNo X0.here hx (hb hby dB3_7) (XT.ii_ge_f (by decide)) ?_
            refine o_aloadN X0.here hx (hb hby dB3_10) rfl rfl ?_
            refine o_iloadN X0.here hx (hb hby dB3_11) rfl ?_
            exact k
          obtain ⟨cl55, Ar55, qk55, Sz55, Mz55, Hh55, Gg55⟩ := pr6
          have pr6 : Arv Z h0 a1 k1 .double (3 : Int32) [(.double (FP.l2d w0)), (.double (FP.l2d w1)), (.double (FP.l2d w2))] (.double (0 : UInt64)) := ⟨cl55, Ar55, qk55, Sz55, Mz55, Hh55, Gg55⟩
          have cn56 : ∀ t, Steps p.tables e below (s₁.setTop (mkF m 15 #[.val (.ref a1), .val (.ref a2), .val (.int (1 : Int32)), .val (.int (2 : Int32))] [(.int (2 : Int32)), (.ref a2), (.double (FP.l2d w2))])) t → Steps p.tables e below (s₁.setTop (entryFrame m #[(.ref a1), (.ref a2)] 4)) t := by
            intro t k
            refine cn54 t ?_
            refine X0.daload hx (j := (2 : Int32)) (v := (.double (FP.l2d w2))) (by rw [e0]; exact Ar55.1) (State.isArrayOf_alike hZ.alike Ar55.2.1) Ar55.2.2 (inb_of Sz55 ⟨(by decide), (by decide)⟩) (Hh55.at (inb_of Sz55 ⟨(by decide), (by decide)⟩) rfl) (g := (mkF m 12 #[.val (.ref a1), .val (.ref a2), .val (.int (1 : Int32)), .val (.int (2 : Int32))] [(.int (2 : Int32)), (.ref a1)])) rfl rfl (hb hby dB3_12) _ ?_
            show Steps p.tables e below (s₁.setTop (mkF m 13 #[.val (.ref a1), .val (.ref a2), .val (.int (1 : Int32)), .val (.int (2 : Int32))] [(.double (FP.l2d w2))])) _
            refine o_aloadN X0.here hx (hb hby dB3_13) rfl rfl ?_
            refine o_iloadN X0.here hx (hb hby dB3_14) rfl ?_
            exact k
          obtain ⟨cl57, Ar57, qk57, Sz57, Mz57, Hh57, Gg57⟩ := pr7
          have pr7 : Arv Z h0 a2 k2 .double (3 : Int32) [(.double (FP.l2d v0)), (.double (FP.l2d v1)), (.double (FP.l2d v2))] (.double (0 : UInt64)) := ⟨cl57, Ar57, qk57, Sz57, Mz57, Hh57, Gg57⟩
          have cn58 : ∀ t, Steps p.tables e below (s₁.setTop (mkF m 17 #[.val (.ref a1), .val (.ref a2), .val (.int (1 : Int32)), .val (.int (2 : Int32))] [(.int (XT.cmpL w2 v2))])) t → Steps p.tables e below (s₁.setTop (entryFrame m #[(.ref a1), (.ref a2)] 4)) t := by
            intro t k
            refine cn56 t ?_
            refine X0.daload hx (j := (2 : Int32)) (v := (.double (FP.l2d v2))) (by rw [e0]; exact Ar57.1) (State.isArrayOf_alike hZ.alike Ar57.2.1) Ar57.2.2 (inb_of Sz57 ⟨(by decide), (by decide)⟩) (Hh57.at (inb_of Sz57 ⟨(by decide), (by decide)⟩) rfl) (g := (mkF m 15 #[.val (.ref a1), .val (.ref a2), .val (.int (1 : Int32)), .val (.int (2 : Int32))] [(.int (2 : Int32)), (.ref a2), (.double (FP.l2d w2))])) rfl rfl (hb hby dB3_15) _ ?_
            show Steps p.tables e below (s₁.setTop (mkF m 16 #[.val (.ref a1), .val (.ref a2), .val (.int (1 : Int32)), .val (.int (2 : Int32))] [(.double (FP.l2d v2)), (.double (FP.l2d w2))])) _
            refine o_dcmpS X0.here hx (hb hby dB3_16) (v := XT.cmpL w2 v2) (dcmpV_w (own_bd_b53 H2 (by decide)) (own_bd_b53 H5 (by decide)) _) ?_
            exact k
          by_cases h17_59 : v2 < w2
          · -- pc 17 not taken
            have cn60 : ∀ t, Steps p.tables e below (s₁.setTop (mkF m 21 #[.val (.ref a1), .val (.ref a2), .val (.int (1 : Int32)), .val (.int (2 : Int32))] [(.int (0 : Int32))])) t → Steps p.tables e below (s₁.setTop (entryFrame m #[(.ref a1), (.ref a2)] 4)) t := by
              intro t k
              refine cn58 t ?_
              refine o_ifNo X0.here hx (hb hby dB3_17) (XT.ll_le_f h17_59) ?_
              refine o_iconstV X0.here hx (0 : Int32) (hb hby dB3_20) rfl ?_
              exact k
            obtain ⟨fs, hr, hrun, hended, hW, hsame⟩ := X0.leave (v := some (.int (0 : Int32))) (fun h => by rw [Bd.returns] at h; cases h)
            refine ⟨_, _, cn60 _ ?_, hrun, hended, _, _, rfl, ?_, ⟨_, rfl⟩, hW, hsame.mono (by decide) (by decide)⟩
            · exact retN X0 hx (t := .boolean) Bd.returns (by simp) (hb hby dB3_21) hr
            · show QB3 Z a1 a2 k1 k2 w0 w1 w2 v0 v1 v2 h0 n0 _ s₁.heap _
              rw [e0]
              exact ⟨(by simp [own_beats, h17_8, h29_15, h17_23, h29_30, h17_59, own_asymm h29_15, own_asymm h17_59]), N0, rfl⟩
          · -- pc 17 taken
            have cn61 : ∀ t, Steps p.tables e below (s₁.setTop (mkF m 24 #[.val (.ref a1), .val (.ref a2), .val (.int (1 : Int32)), .val (.int (2 : Int32))] [(.int (2 : Int32)), (.ref a1)])) t → Steps p.tables e below (s₁.setTop (entryFrame m #[(.ref a1), (.ref a2)] 4)) t := by
              intro t k
              refine cn58 t ?_
              refine o_ifYes X0.here hx (pc' := 22) (hb hby dB3_17) (XT.ll_le_t h17_59) (by decide) (by decide) ?_
              refine o_aloadN X0.here hx (hb hby dB3_22) rfl rfl ?_
              refine o_iloadN X0.here hx (hb hby dB3_23) rfl ?_
              exact k
            obtain ⟨cl62, Ar62, qk62, Sz62, Mz62, Hh62, Gg62⟩ := pr6
            have pr6 : Arv Z h0 a1 k1 .double (3 : Int32) [(.double (FP.l2d w0)), (.double (FP.l2d w1)), (.double (FP.l2d w2))] (.double (0 : UInt64)) := ⟨cl62, Ar62, qk62, Sz62, Mz62, Hh62, Gg62⟩
            have cn63 : ∀ t, Steps p.tables e below (s₁.setTop (mkF m 27 #[.val (.ref a1), .val (.ref a2), .val (.int (1 : Int32)), .val (.int (2 : Int32))] [(.int (2 : Int32)), (.ref a2), (.double (FP.l2d w2))])) t → Steps p.tables e below (s₁.setTop (entryFrame m #[(.ref a1), (.ref a2)] 4)) t := by
              intro t k
              refine cn61 t ?_
              refine X0.daload hx (j := (2 : Int32)) (v := (.double (FP.l2d w2))) (by rw [e0]; exact Ar62.1) (State.isArrayOf_alike hZ.alike Ar62.2.1) Ar62.2.2 (inb_of Sz62 ⟨(by decide), (by decide)⟩) (Hh62.at (inb_of Sz62 ⟨(by decide), (by decide)⟩) rfl) (g := (mkF m 24 #[.val (.ref a1), .val (.ref a2), .val (.int (1 : Int32)), .val (.int (2 : Int32))] [(.int (2 : Int32)), (.ref a1)])) rfl rfl (hb hby dB3_24) _ ?_
              show Steps p.tables e below (s₁.setTop (mkF m 25 #[.val (.ref a1), .val (.ref a2), .val (.int (1 : Int32)), .val (.int (2 : Int32))] [(.double (FP.l2d w2))])) _
              refine o_aloadN X0.here hx (hb hby dB3_25) rfl rfl ?_
              refine o_iloadN X0.here hx (hb hby dB3_26) rfl ?_
              exact k
            obtain ⟨cl64, Ar64, qk64, Sz64, Mz64, Hh64, Gg64⟩ := pr7
            have pr7 : Arv Z h0 a2 k2 .double (3 : Int32) [(.double (FP.l2d v0)), (.double (FP.l2d v1)), (.double (FP.l2d v2))] (.double (0 : UInt64)) := ⟨cl64, Ar64, qk64, Sz64, Mz64, Hh64, Gg64⟩
            have cn65 : ∀ t, Steps p.tables e below (s₁.setTop (mkF m 29 #[.val (.ref a1), .val (.ref a2), .val (.int (1 : Int32)), .val (.int (2 : Int32))] [(.int (XT.cmpL w2 v2))])) t → Steps p.tables e below (s₁.setTop (entryFrame m #[(.ref a1), (.ref a2)] 4)) t := by
              intro t k
              refine cn63 t ?_
              refine X0.daload hx (j := (2 : Int32)) (v := (.double (FP.l2d v2))) (by rw [e0]; exact Ar64.1) (State.isArrayOf_alike hZ.alike Ar64.2.1) Ar64.2.2 (inb_of Sz64 ⟨(by decide), (by decide)⟩) (Hh64.at (inb_of Sz64 ⟨(by decide), (by decide)⟩) rfl) (g := (mkF m 27 #[.val (.ref a1), .val (.ref a2), .val (.int (1 : Int32)), .val (.int (2 : Int32))] [(.int (2 : Int32)), (.ref a2), (.double (FP.l2d w2))])) rfl rfl (hb hby dB3_27) _ ?_
              show Steps p.tables e below (s₁.setTop (mkF m 28 #[.val (.ref a1), .val (.ref a2), .val (.int (1 : Int32)), .val (.int (2 : Int32))] [(.double (FP.l2d v2)), (.double (FP.l2d w2))])) _
              refine o_dcmpS X0.here hx (hb hby dB3_28) (v := XT.cmpL w2 v2) (dcmpV_w (own_bd_b53 H2 (by decide)) (own_bd_b53 H5 (by decide)) _) ?_
              exact k
            by_cases h29_66 : w2 < v2
            · -- pc 29 not taken
              have cn67 : ∀ t, Steps p.tables e below (s₁.setTop (mkF m 6 #[.val (.ref a1), .val (.ref a2), .val (.int (1 : Int32)), .val (.int (3 : Int32))] [(.ref a1), (.int (3 : Int32))])) t → Steps p.tables e below (s₁.setTop (entryFrame m #[(.ref a1), (.ref a2)] 4)) t := by
                intro t k
                refine cn65 t ?_
                refine o_ifNo X0.here hx (hb hby dB3_29) (XT.ll_ge_f h29_66) ?_
                refine o_iconstV X0.here hx (1 : Int32) (hb hby dB3_32) rfl ?_
                refine o_istoreN X0.here hx (hb hby dB3_33) (l' := #[.val (.ref a1), .val (.ref a2), .val (.int (1 : Int32)), .val (.int (2 : Int32))]) rfl ?_
                refine o_iincV X0.here hx (1 : Int32) (hb hby dB3_34) rfl rfl (l' := #[.val (.ref a1), .val (.ref a2), .val (.int (1 : Int32)), .val (.int ((2 : Int32) + (1 : Int32)))]) rfl ?_
                show Steps p.tables e below (s₁.setTop (mkF m 37 #[.val (.ref a1), .val (.ref a2), .val (.int (1 : Int32)), .val (.int (3 : Int32))] [])) _
                show Steps p.tables e below (s₁.setTop (mkF m 37 #[.val (.ref a1), .val (.ref a2), .val (.int (1 : Int32)), .val (.int (3 : Int32))] [])) _
                refine o_goto X0.here hx (pc' := 4) (hb hby dB3_37) (by decide) (by decide) ?_
                refine o_iloadN X0.here hx (hb hby dB3_4) rfl ?_
                refine o_aloadN X0.here hx (hb hby dB3_5) rfl rfl ?_
                exact k
              obtain ⟨cl68, Ar68, qk68, Sz68, Mz68, Hh68, Gg68⟩ := pr6
              have pr6 : Arv Z h0 a1 k1 .double (3 : Int32) [(.double (FP.l2d w0)), (.double (FP.l2d w1)), (.double (FP.l2d w2))] (.double (0 : UInt64)) := ⟨cl68, Ar68, qk68, Sz68, Mz68, Hh68, Gg68⟩
              have cn69 : ∀ t, Steps p.tables e below (s₁.setTop (mkF m 41 #[.val (.ref a1), .val (.ref a2), .val (.int (1 : Int32)), .val (.int (3 : Int32))] [(.int (1 : Int32))])) t → Steps p.tables e below (s₁.setTop (entryFrame m #[(.ref a1), (.ref a2)] 4)) t := by
                intro t k
                refine cn67 t ?_
                refine X0.arraylength hx (by rw [e0]; exact Ar68.1) (State.isArrayOf_alike hZ.alike Ar68.2.1) (g := (mkF m 6 #[.val (.ref a1), .val (.ref a2), .val (.int (1 : Int32)), .val (.int (3 : Int32))] [(.ref a1), (.int (3 : Int32))])) rfl rfl (hb hby dB3_6) _ ?_
                rw [len_of Sz68 Mz68]
                show Steps p.tables e below (s₁.setTop (mkF m 7 #[.val (.ref a1), .val (.ref a2), .val (.int (1 : Int32)), .val (.int (3 : Int32))] [(.int (3 : Int32)), (.int (3 : Int32))])) _
                show Steps p.tables e below (s₁.setTop (mkF m 7 #[.val (.ref a1), .val (.ref a2), .val (.int (1 : Int32)), .val (.int (3 : Int32))] [(.int (3 : Int32)), (.int (3 : Int32))])) _
                refine o_icmpYes X0.here hx (pc' := 40) (hb hby dB3_7) (XT.ii_ge_t (by decide)) (by decide) (by decide) ?_
                refine o_iloadN X0.here hx (hb hby dB3_40) rfl ?_
                exact k
              obtain ⟨fs, hr, hrun, hended, hW, hsame⟩ := X0.leave (v := some (.int (1 : Int32))) (fun h => by rw [Bd.returns] at h; cases h)
              refine ⟨_, _, cn69 _ ?_, hrun, hended, _, _, rfl, ?_, ⟨_, rfl⟩, hW, hsame.mono (by decide) (by decide)⟩
              · exact retN X0 hx (t := .boolean) Bd.returns (by simp) (hb hby dB3_41) hr
              · show QB3 Z a1 a2 k1 k2 w0 w1 w2 v0 v1 v2 h0 n0 _ s₁.heap _
                rw [e0]
                exact ⟨(by simp [own_beats, h17_8, h29_15, h17_23, h29_30, h17_59, h29_66, own_asymm h29_15, own_asymm h29_66]), N0, rfl⟩
            · -- pc 29 taken
              have cn70 : ∀ t, Steps p.tables e below (s₁.setTop (mkF m 6 #[.val (.ref a1), .val (.ref a2), .val (.int (1 : Int32)), .val (.int (3 : Int32))] [(.ref a1), (.int (3 : Int32))])) t → Steps p.tables e below (s₁.setTop (entryFrame m #[(.ref a1), (.ref a2)] 4)) t := by
                intro t k
                refine cn65 t ?_
                refine o_ifYes X0.here hx (pc' := 34) (hb hby dB3_29) (XT.ll_ge_t h29_66) (by decide) (by decide) ?_
                refine o_iincV X0.here hx (1 : Int32) (hb hby dB3_34) rfl rfl (l' := #[.val (.ref a1), .val (.ref a2), .val (.int (1 : Int32)), .val (.int ((2 : Int32) + (1 : Int32)))]) rfl ?_
                show Steps p.tables e below (s₁.setTop (mkF m 37 #[.val (.ref a1), .val (.ref a2), .val (.int (1 : Int32)), .val (.int (3 : Int32))] [])) _
                show Steps p.tables e below (s₁.setTop (mkF m 37 #[.val (.ref a1), .val (.ref a2), .val (.int (1 : Int32)), .val (.int (3 : Int32))] [])) _
                refine o_goto X0.here hx (pc' := 4) (hb hby dB3_37) (by decide) (by decide) ?_
                refine o_iloadN X0.here hx (hb hby dB3_4) rfl ?_
                refine o_aloadN X0.here hx (hb hby dB3_5) rfl rfl ?_
                exact k
              obtain ⟨cl71, Ar71, qk71, Sz71, Mz71, Hh71, Gg71⟩ := pr6
              have pr6 : Arv Z h0 a1 k1 .double (3 : Int32) [(.double (FP.l2d w0)), (.double (FP.l2d w1)), (.double (FP.l2d w2))] (.double (0 : UInt64)) := ⟨cl71, Ar71, qk71, Sz71, Mz71, Hh71, Gg71⟩
              have cn72 : ∀ t, Steps p.tables e below (s₁.setTop (mkF m 41 #[.val (.ref a1), .val (.ref a2), .val (.int (1 : Int32)), .val (.int (3 : Int32))] [(.int (1 : Int32))])) t → Steps p.tables e below (s₁.setTop (entryFrame m #[(.ref a1), (.ref a2)] 4)) t := by
                intro t k
                refine cn70 t ?_
                refine X0.arraylength hx (by rw [e0]; exact Ar71.1) (State.isArrayOf_alike hZ.alike Ar71.2.1) (g := (mkF m 6 #[.val (.ref a1), .val (.ref a2), .val (.int (1 : Int32)), .val (.int (3 : Int32))] [(.ref a1), (.int (3 : Int32))])) rfl rfl (hb hby dB3_6) _ ?_
                rw [len_of Sz71 Mz71]
                show Steps p.tables e below (s₁.setTop (mkF m 7 #[.val (.ref a1), .val (.ref a2), .val (.int (1 : Int32)), .val (.int (3 : Int32))] [(.int (3 : Int32)), (.int (3 : Int32))])) _
                show Steps p.tables e below (s₁.setTop (mkF m 7 #[.val (.ref a1), .val (.ref a2), .val (.int (1 : Int32)), .val (.int (3 : Int32))] [(.int (3 : Int32)), (.int (3 : Int32))])) _
                refine o_icmpYes X0.here hx (pc' := 40) (hb hby dB3_7) (XT.ii_ge_t (by decide)) (by decide) (by decide) ?_
                refine o_iloadN X0.here hx (hb hby dB3_40) rfl ?_
                exact k
              obtain ⟨fs, hr, hrun, hended, hW, hsame⟩ := X0.leave (v := some (.int (1 : Int32))) (fun h => by rw [Bd.returns] at h; cases h)
              refine ⟨_, _, cn72 _ ?_, hrun, hended, _, _, rfl, ?_, ⟨_, rfl⟩, hW, hsame.mono (by decide) (by decide)⟩
              · exact retN X0 hx (t := .boolean) Bd.returns (by simp) (hb hby dB3_41) hr
              · show QB3 Z a1 a2 k1 k2 w0 w1 w2 v0 v1 v2 h0 n0 _ s₁.heap _
                rw [e0]
                exact ⟨(by simp [own_beats, h17_8, h29_15, h17_23, h29_30, h17_59, h29_66, own_asymm h29_15]), N0, rfl⟩
    · -- pc 29 taken
      have cn73 : ∀ t, Steps p.tables e below (s₁.setTop (mkF m 6 #[.val (.ref a1), .val (.ref a2), .val (.int (0 : Int32)), .val (.int (1 : Int32))] [(.ref a1), (.int (1 : Int32))])) t → Steps p.tables e below (s₁.setTop (entryFrame m #[(.ref a1), (.ref a2)] 4)) t := by
        intro t k
        refine cn14 t ?_
        refine o_ifYes X0.here hx (pc' := 34) (hb hby dB3_29) (XT.ll_ge_t h29_15) (by decide) (by decide) ?_
        refine o_iincV X0.here hx (1 : Int32) (hb hby dB3_34) rfl rfl (l' := #[.val (.ref a1), .val (.ref a2), .val (.int (0 : Int32)), .val (.int ((0 : Int32) + (1 : Int32)))]) rfl ?_
        show Steps p.tables e below (s₁.setTop (mkF m 37 #[.val (.ref a1), .val (.ref a2), .val (.int (0 : Int32)), .val (.int (1 : Int32))] [])) _
        show Steps p.tables e below (s₁.setTop (mkF m 37 #[.val (.ref a1), .val (.ref a2), .val (.int (0 : Int32)), .val (.int (1 : Int32))] [])) _
        refine o_goto X0.here hx (pc' := 4) (hb hby dB3_37) (by decide) (by decide) ?_
        refine o_iloadN X0.here hx (hb hby dB3_4) rfl ?_
        refine o_aloadN X0.here hx (hb hby dB3_5) rfl rfl ?_
        exact k
      obtain ⟨cl74, Ar74, qk74, Sz74, Mz74, Hh74, Gg74⟩ := pr6
      have pr6 : Arv Z h0 a1 k1 .double (3 : Int32) [(.double (FP.l2d w0)), (.double (FP.l2d w1)), (.double (FP.l2d w2))] (.double (0 : UInt64)) := ⟨cl74, Ar74, qk74, Sz74, Mz74, Hh74, Gg74⟩
      have cn75 : ∀ t, Steps p.tables e below (s₁.setTop (mkF m 12 #[.val (.ref a1), .val (.ref a2), .val (.int (0 : Int32)), .val (.int (1 : Int32))] [(.int (1 : Int32)), (.ref a1)])) t → Steps p.tables e below (s₁.setTop (entryFrame m #[(.ref a1), (.ref a2)] 4)) t := by
        intro t k
        refine cn73 t ?_
        refine X0.arraylength hx (by rw [e0]; exact Ar74.1) (State.isArrayOf_alike hZ.alike Ar74.2.1) (g := (mkF m 6 #[.val (.ref a1), .val (.ref a2), .val (.int (0 : Int32)), .val (.int (1 : Int32))] [(.ref a1), (.int (1 : Int32))])) rfl rfl (hb hby dB3_6) _ ?_
        rw [len_of Sz74 Mz74]
        show Steps p.tables e below (s₁.setTop (mkF m 7 #[.val (.ref a1), .val (.ref a2), .val (.int (0 : Int32)), .val (.int (1 : Int32))] [(.int (3 : Int32)), (.int (1 : Int32))])) _
        show Steps p.tables e below (s₁.setTop (mkF m 7 #[.val (.ref a1), .val (.ref a2), .val (.int (0 : Int32)), .val (.int (1 : Int32))] [(.int (3 : Int32)), (.int (1 : Int32))])) _
        refine o_icmpNo X0.here hx (hb hby dB3_7) (XT.ii_ge_f (by decide)) ?_
        refine o_aloadN X0.here hx (hb hby dB3_10) rfl rfl ?_
        refine o_iloadN X0.here hx (hb hby dB3_11) rfl ?_
        exact k
      obtain ⟨cl76, Ar76, qk76, Sz76, Mz76, Hh76, Gg76⟩ := pr6
      have pr6 : Arv Z h0 a1 k1 .double (3 : Int32) [(.double (FP.l2d w0)), (.double (FP.l2d w1)), (.double (FP.l2d w2))] (.double (0 : UInt64)) := ⟨cl76, Ar76, qk76, Sz76, Mz76, Hh76, Gg76⟩
      have cn77 : ∀ t, Steps p.tables e below (s₁.setTop (mkF m 15 #[.val (.ref a1), .val (.ref a2), .val (.int (0 : Int32)), .val (.int (1 : Int32))] [(.int (1 : Int32)), (.ref a2), (.double (FP.l2d w1))])) t → Steps p.tables e below (s₁.setTop (entryFrame m #[(.ref a1), (.ref a2)] 4)) t := by
        intro t k
        refine cn75 t ?_
        refine X0.daload hx (j := (1 : Int32)) (v := (.double (FP.l2d w1))) (by rw [e0]; exact Ar76.1) (State.isArrayOf_alike hZ.alike Ar76.2.1) Ar76.2.2 (inb_of Sz76 ⟨(by decide), (by decide)⟩) (Hh76.at (inb_of Sz76 ⟨(by decide), (by decide)⟩) rfl) (g := (mkF m 12 #[.val (.ref a1), .val (.ref a2), .val (.int (0 : Int32)), .val (.int (1 : Int32))] [(.int (1 : Int32)), (.ref a1)])) rfl rfl (hb hby dB3_12) _ ?_
        show Steps p.tables e below (s₁.setTop (mkF m 13 #[.val (.ref a1), .val (.ref a2), .val (.int (0 : Int32)), .val (.int (1 : Int32))] [(.double (FP.l2d w1))])) _
        refine o_aloadN X0.here hx (hb hby dB3_13) rfl rfl ?_
        refine o_iloadN X0.here hx (hb hby dB3_14) rfl ?_
        exact k
      obtain ⟨cl78, Ar78, qk78, Sz78, Mz78, Hh78, Gg78⟩ := pr7
      have pr7 : Arv Z h0 a2 k2 .double (3 : Int32) [(.double (FP.l2d v0)), (.double (FP.l2d v1)), (.double (FP.l2d v2))] (.double (0 : UInt64)) := ⟨cl78, Ar78, qk78, Sz78, Mz78, Hh78, Gg78⟩
      have cn79 : ∀ t, Steps p.tables e below (s₁.setTop (mkF m 17 #[.val (.ref a1), .val (.ref a2), .val (.int (0 : Int32)), .val (.int (1 : Int32))] [(.int (XT.cmpL w1 v1))])) t → Steps p.tables e below (s₁.setTop (entryFrame m #[(.ref a1), (.ref a2)] 4)) t := by
        intro t k
        refine cn77 t ?_
        refine X0.daload hx (j := (1 : Int32)) (v := (.double (FP.l2d v1))) (by rw [e0]; exact Ar78.1) (State.isArrayOf_alike hZ.alike Ar78.2.1) Ar78.2.2 (inb_of Sz78 ⟨(by decide), (by decide)⟩) (Hh78.at (inb_of Sz78 ⟨(by decide), (by decide)⟩) rfl) (g := (mkF m 15 #[.val (.ref a1), .val (.ref a2), .val (.int (0 : Int32)), .val (.int (1 : Int32))] [(.int (1 : Int32)), (.ref a2), (.double (FP.l2d w1))])) rfl rfl (hb hby dB3_15) _ ?_
        show Steps p.tables e below (s₁.setTop (mkF m 16 #[.val (.ref a1), .val (.ref a2), .val (.int (0 : Int32)), .val (.int (1 : Int32))] [(.double (FP.l2d v1)), (.double (FP.l2d w1))])) _
        refine o_dcmpS X0.here hx (hb hby dB3_16) (v := XT.cmpL w1 v1) (dcmpV_w (own_bd_b53 H1 (by decide)) (own_bd_b53 H4 (by decide)) _) ?_
        exact k
      by_cases h17_80 : v1 < w1
      · -- pc 17 not taken
        have cn81 : ∀ t, Steps p.tables e below (s₁.setTop (mkF m 21 #[.val (.ref a1), .val (.ref a2), .val (.int (0 : Int32)), .val (.int (1 : Int32))] [(.int (0 : Int32))])) t → Steps p.tables e below (s₁.setTop (entryFrame m #[(.ref a1), (.ref a2)] 4)) t := by
          intro t k
          refine cn79 t ?_
          refine o_ifNo X0.here hx (hb hby dB3_17) (XT.ll_le_f h17_80) ?_
          refine o_iconstV X0.here hx (0 : Int32) (hb hby dB3_20) rfl ?_
          exact k
        obtain ⟨fs, hr, hrun, hended, hW, hsame⟩ := X0.leave (v := some (.int (0 : Int32))) (fun h => by rw [Bd.returns] at h; cases h)
        refine ⟨_, _, cn81 _ ?_, hrun, hended, _, _, rfl, ?_, ⟨_, rfl⟩, hW, hsame.mono (by decide) (by decide)⟩
        · exact retN X0 hx (t := .boolean) Bd.returns (by simp) (hb hby dB3_21) hr
        · show QB3 Z a1 a2 k1 k2 w0 w1 w2 v0 v1 v2 h0 n0 _ s₁.heap _
          rw [e0]
          exact ⟨(by simp [own_beats, h17_8, h29_15, h17_80, own_asymm h17_80]), N0, rfl⟩
      · -- pc 17 taken
        have cn82 : ∀ t, Steps p.tables e below (s₁.setTop (mkF m 24 #[.val (.ref a1), .val (.ref a2), .val (.int (0 : Int32)), .val (.int (1 : Int32))] [(.int (1 : Int32)), (.ref a1)])) t → Steps p.tables e below (s₁.setTop (entryFrame m #[(.ref a1), (.ref a2)] 4)) t := by
          intro t k
          refine cn79 t ?_
          refine o_ifYes X0.here hx (pc' := 22) (hb hby dB3_17) (XT.ll_le_t h17_80) (by decide) (by decide) ?_
          refine o_aloadN X0.here hx (hb hby dB3_22) rfl rfl ?_
          refine o_iloadN X0.here hx (hb hby dB3_23) rfl ?_
          exact k
        obtain ⟨cl83, Ar83, qk83, Sz83, Mz83, Hh83, Gg83⟩ := pr6
        have pr6 : Arv Z h0 a1 k1 .double (3 : Int32) [(.double (FP.l2d w0)), (.double (FP.l2d w1)), (.double (FP.l2d w2))] (.double (0 : UInt64)) := ⟨cl83, Ar83, qk83, Sz83, Mz83, Hh83, Gg83⟩
        have cn84 : ∀ t, Steps p.tables e below (s₁.setTop (mkF m 27 #[.val (.ref a1), .val (.ref a2), .val (.int (0 : Int32)), .val (.int (1 : Int32))] [(.int (1 : Int32)), (.ref a2), (.double (FP.l2d w1))])) t → Steps p.tables e below (s₁.setTop (entryFrame m #[(.ref a1), (.ref a2)] 4)) t := by
          intro t k
          refine cn82 t ?_
          refine X0.daload hx (j := (1 : Int32)) (v := (.double (FP.l2d w1))) (by rw [e0]; exact Ar83.1) (State.isArrayOf_alike hZ.alike Ar83.2.1) Ar83.2.2 (inb_of Sz83 ⟨(by decide), (by decide)⟩) (Hh83.at (inb_of Sz83 ⟨(by decide), (by decide)⟩) rfl) (g := (mkF m 24 #[.val (.ref a1), .val (.ref a2), .val (.int (0 : Int32)), .val (.int (1 : Int32))] [(.int (1 : Int32)), (.ref a1)])) rfl rfl (hb hby dB3_24) _ ?_
          show Steps p.tables e below (s₁.setTop (mkF m 25 #[.val (.ref a1), .val (.ref a2), .val (.int (0 : Int32)), .val (.int (1 : Int32))] [(.double (FP.l2d w1))])) _
          refine o_aloadN X0.here hx (hb hby dB3_25) rfl rfl ?_
          refine o_iloadN X0.here hx (hb hby dB3_26) rfl ?_
          exact k
        obtain ⟨cl85, Ar85, qk85, Sz85, Mz85, Hh85, Gg85⟩ := pr7
        have pr7 : Arv Z h0 a2 k2 .double (3 : Int32) [(.double (FP.l2d v0)), (.double (FP.l2d v1)), (.double (FP.l2d v2))] (.double (0 : UInt64)) := ⟨cl85, Ar85, qk85, Sz85, Mz85, Hh85, Gg85⟩
        have cn86 : ∀ t, Steps p.tables e below (s₁.setTop (mkF m 29 #[.val (.ref a1), .val (.ref a2), .val (.int (0 : Int32)), .val (.int (1 : Int32))] [(.int (XT.cmpL w1 v1))])) t → Steps p.tables e below (s₁.setTop (entryFrame m #[(.ref a1), (.ref a2)] 4)) t := by
          intro t k
          refine cn84 t ?_
          refine X0.daload hx (j := (1 : Int32)) (v := (.double (FP.l2d v1))) (by rw [e0]; exact Ar85.1) (State.isArrayOf_alike hZ.alike Ar85.2.1) Ar85.2.2 (inb_of Sz85 ⟨(by decide), (by decide)⟩) (Hh85.at (inb_of Sz85 ⟨(by decide), (by decide)⟩) rfl) (g := (mkF m 27 #[.val (.ref a1), .val (.ref a2), .val (.int (0 : Int32)), .val (.int (1 : Int32))] [(.int (1 : Int32)), (.ref a2), (.double (FP.l2d w1))])) rfl rfl (hb hby dB3_27) _ ?_
          show Steps p.tables e below (s₁.setTop (mkF m 28 #[.val (.ref a1), .val (.ref a2), .val (.int (0 : Int32)), .val (.int (1 : Int32))] [(.double (FP.l2d v1)), (.double (FP.l2d w1))])) _
          refine o_dcmpS X0.here hx (hb hby dB3_28) (v := XT.cmpL w1 v1) (dcmpV_w (own_bd_b53 H1 (by decide)) (own_bd_b53 H4 (by decide)) _) ?_
          exact k
        by_cases h29_87 : w1 < v1
        · -- pc 29 not taken
          have cn88 : ∀ t, Steps p.tables e below (s₁.setTop (mkF m 6 #[.val (.ref a1), .val (.ref a2), .val (.int (1 : Int32)), .val (.int (2 : Int32))] [(.ref a1), (.int (2 : Int32))])) t → Steps p.tables e below (s₁.setTop (entryFrame m #[(.ref a1), (.ref a2)] 4)) t := by
            intro t k
            refine cn86 t ?_
            refine o_ifNo X0.here hx (hb hby dB3_29) (XT.ll_ge_f h29_87) ?_
            refine o_iconstV X0.here hx (1 : Int32) (hb hby dB3_32) rfl ?_
            refine o_istoreN X0.here hx (hb hby dB3_33) (l' := #[.val (.ref a1), .val (.ref a2), .val (.int (1 : Int32)), .val (.int (1 : Int32))]) rfl ?_
            refine o_iincV X0.here hx (1 : Int32) (hb hby dB3_34) rfl rfl (l' := #[.val (.ref a1), .val (.ref a2), .val (.int (1 : Int32)), .val (.int ((1 : Int32) + (1 : Int32)))]) rfl ?_
            show Steps p.tables e below (s₁.setTop (mkF m 37 #[.val (.ref a1), .val (.ref a2), .val (.int (1 : Int32)), .val (.int (2 : Int32))] [])) _
            show Steps p.tables e below (s₁.setTop (mkF m 37 #[.val (.ref a1), .val (.ref a2), .val (.int (1 : Int32)), .val (.int (2 : Int32))] [])) _
            refine o_goto X0.here hx (pc' := 4) (hb hby dB3_37) (by decide) (by decide) ?_
            refine o_iloadN X0.here hx (hb hby dB3_4) rfl ?_
            refine o_aloadN X0.here hx (hb hby dB3_5) rfl rfl ?_
            exact k
          obtain ⟨cl89, Ar89, qk89, Sz89, Mz89, Hh89, Gg89⟩ := pr6
          have pr6 : Arv Z h0 a1 k1 .double (3 : Int32) [(.double (FP.l2d w0)), (.double (FP.l2d w1)), (.double (FP.l2d w2))] (.double (0 : UInt64)) := ⟨cl89, Ar89, qk89, Sz89, Mz89, Hh89, Gg89⟩
          have cn90 : ∀ t, Steps p.tables e below (s₁.setTop (mkF m 12 #[.val (.ref a1), .val (.ref a2), .val (.int (1 : Int32)), .val (.int (2 : Int32))] [(.int (2 : Int32)), (.ref a1)])) t → Steps p.tables e below (s₁.setTop (entryFrame m #[(.ref a1), (.ref a2)] 4)) t := by
            intro t k
            refine cn88 t ?_
            refine X0.arraylength hx (by rw [e0]; exact Ar89.1) (State.isArrayOf_alike hZ.alike Ar89.2.1) (g := (mkF m 6 #[.val (.ref a1), .val (.ref a2), .val (.int (1 : Int32)), .val (.int (2 : Int32))] [(.ref a1), (.int (2 : Int32))])) rfl rfl (hb hby dB3_6) _ ?_
            rw [len_of Sz89 Mz89]
            show Steps p.tables e below (s₁.setTop (mkF m 7 #[.val (.ref a1), .val (.ref a2), .val (.int (1 : Int32)), .val (.int (2 : Int32))] [(.int (3 : Int32)), (.int (2 : Int32))])) _
            show Steps p.tables e below (s₁.setTop (mkF m 7 #[.val (.ref a1), .val (.ref a2), .val (.int (1 : Int32)), .val (.int (2 : Int32))] [(.int (3 : Int32)), (.int (2 : Int32))])) _
            refine o_icmpNo X0.here hx (hb hby dB3_7) (XT.ii_ge_f (by decide)) ?_
            refine o_aloadN X0.here hx (hb hby dB3_10) rfl rfl ?_
            refine o_iloadN X0.here hx (hb hby dB3_11) rfl ?_
            exact k
          obtain ⟨cl91, Ar91, qk91, Sz91, Mz91, Hh91, Gg91⟩ := pr6
          have pr6 : Arv Z h0 a1 k1 .double (3 : Int32) [(.double (FP.l2d w0)), (.double (FP.l2d w1)), (.double (FP.l2d w2))] (.double (0 : UInt64)) := ⟨cl91, Ar91, qk91, Sz91, Mz91, Hh91, Gg91⟩
          have cn92 : ∀ t, Steps p.tables e below (s₁.setTop (mkF m 15 #[.val (.ref a1), .val (.ref a2), .val (.int (1 : Int32)), .val (.int (2 : Int32))] [(.int (2 : Int32)), (.ref a2), (.double (FP.l2d w2))])) t → Steps p.tables e below (s₁.setTop (entryFrame m #[(.ref a1), (.ref a2)] 4)) t := by
            intro t k
            refine cn90 t ?_
            refine X0.daload hx (j := (2 : Int32)) (v := (.double (FP.l2d w2))) (by rw [e0]; exact Ar91.1) (State.isArrayOf_alike hZ.alike Ar91.2.1) Ar91.2.2 (inb_of Sz91 ⟨(by decide), (by decide)⟩) (Hh91.at (inb_of Sz91 ⟨(by decide), (by decide)⟩) rfl) (g := (mkF m 12 #[.val (.ref a1), .val (.ref a2), .val (.int (1 : Int32)), .val (.int (2 : Int32))] [(.int (2 : Int32)), (.ref a1)])) rfl rfl (hb hby dB3_12) _ ?_
            show Steps p.tables e below (s₁.setTop (mkF m 13 #[.val (.ref a1), .val (.ref a2), .val (.int (1 : Int32)), .val (.int (2 : Int32))] [(.double (FP.l2d w2))])) _
            refine o_aloadN X0.here hx (hb hby dB3_13) rfl rfl ?_
            refine o_iloadN X0.here hx (hb hby dB3_14) rfl ?_
            exact k
          obtain ⟨cl93, Ar93, qk93, Sz93, Mz93, Hh93, Gg93⟩ := pr7
          have pr7 : Arv Z h0 a2 k2 .double (3 : Int32) [(.double (FP.l2d v0)), (.double (FP.l2d v1)), (.double (FP.l2d v2))] (.double (0 : UInt64)) := ⟨cl93, Ar93, qk93, Sz93, Mz93, Hh93, Gg93⟩
          have cn94 : ∀ t, Steps p.tables e below (s₁.setTop (mkF m 17 #[.val (.ref a1), .val (.ref a2), .val (.int (1 : Int32)), .val (.int (2 : Int32))] [(.int (XT.cmpL w2 v2))])) t → Steps p.tables e below (s₁.setTop (entryFrame m #[(.ref a1), (.ref a2)] 4)) t := by
            intro t k
            refine cn92 t ?_
            refine X0.daload hx (j := (2 : Int32)) (v := (.double (FP.l2d v2))) (by rw [e0]; exact Ar93.1) (State.isArrayOf_alike hZ.alike Ar93.2.1) Ar93.2.2 (inb_of Sz93 ⟨(by decide), (by decide)⟩) (Hh93.at (inb_of Sz93 ⟨(by decide), (by decide)⟩) rfl) (g := (mkF m 15 #[.val (.ref a1), .val (.ref a2), .val (.int (1 : Int32)), .val (.int (2 : Int32))] [(.int (2 : Int32)), (.ref a2), (.double (FP.l2d w2))])) rfl rfl (hb hby dB3_15) _ ?_
            show Steps p.tables e below (s₁.setTop (mkF m 16 #[.val (.ref a1), .val (.ref a2), .val (.int (1 : Int32)), .val (.int (2 : Int32))] [(.double (FP.l2d v2)), (.double (FP.l2d w2))])) _
            refine o_dcmpS X0.here hx (hb hby dB3_16) (v := XT.cmpL w2 v2) (dcmpV_w (own_bd_b53 H2 (by decide)) (own_bd_b53 H5 (by decide)) _) ?_
            exact k
          by_cases h17_95 : v2 < w2
          · -- pc 17 not taken
            have cn96 : ∀ t, Steps p.tables e below (s₁.setTop (mkF m 21 #[.val (.ref a1), .val (.ref a2), .val (.int (1 : Int32)), .val (.int (2 : Int32))] [(.int (0 : Int32))])) t → Steps p.tables e below (s₁.setTop (entryFrame m #[(.ref a1), (.ref a2)] 4)) t := by
              intro t k
              refine cn94 t ?_
              refine o_ifNo X0.here hx (hb hby dB3_17) (XT.ll_le_f h17_95) ?_
              refine o_iconstV X0.here hx (0 : Int32) (hb hby dB3_20) rfl ?_
              exact k
            obtain ⟨fs, hr, hrun, hended, hW, hsame⟩ := X0.leave (v := some (.int (0 : Int32))) (fun h => by rw [Bd.returns] at h; cases h)
            refine ⟨_, _, cn96 _ ?_, hrun, hended, _, _, rfl, ?_, ⟨_, rfl⟩, hW, hsame.mono (by decide) (by decide)⟩
            · exact retN X0 hx (t := .boolean) Bd.returns (by simp) (hb hby dB3_21) hr
            · show QB3 Z a1 a2 k1 k2 w0 w1 w2 v0 v1 v2 h0 n0 _ s₁.heap _
              rw [e0]
              exact ⟨(by simp [own_beats, h17_8, h29_15, h17_80, h29_87, h17_95, own_asymm h29_87, own_asymm h17_95]), N0, rfl⟩
          · -- pc 17 taken
            have cn97 : ∀ t, Steps p.tables e below (s₁.setTop (mkF m 24 #[.val (.ref a1), .val (.ref a2), .val (.int (1 : Int32)), .val (.int (2 : Int32))] [(.int (2 : Int32)), (.ref a1)])) t → Steps p.tables e below (s₁.setTop (entryFrame m #[(.ref a1), (.ref a2)] 4)) t := by
              intro t k
              refine cn94 t ?_
              refine o_ifYes X0.here hx (pc' := 22) (hb hby dB3_17) (XT.ll_le_t h17_95) (by decide) (by decide) ?_
              refine o_aloadN X0.here hx (hb hby dB3_22) rfl rfl ?_
              refine o_iloadN X0.here hx (hb hby dB3_23) rfl ?_
              exact k
            obtain ⟨cl98, Ar98, qk98, Sz98, Mz98, Hh98, Gg98⟩ := pr6
            have pr6 : Arv Z h0 a1 k1 .double (3 : Int32) [(.double (FP.l2d w0)), (.double (FP.l2d w1)), (.double (FP.l2d w2))] (.double (0 : UInt64)) := ⟨cl98, Ar98, qk98, Sz98, Mz98, Hh98, Gg98⟩
            have cn99 : ∀ t, Steps p.tables e below (s₁.setTop (mkF m 27 #[.val (.ref a1), .val (.ref a2), .val (.int (1 : Int32)), .val (.int (2 : Int32))] [(.int (2 : Int32)), (.ref a2), (.double (FP.l2d w2))])) t → Steps p.tables e below (s₁.setTop (entryFrame m #[(.ref a1), (.ref a2)] 4)) t := by
              intro t k
              refine cn97 t ?_
              refine X0.daload hx (j := (2 : Int32)) (v := (.double (FP.l2d w2))) (by rw [e0]; exact Ar98.1) (State.isArrayOf_alike hZ.alike Ar98.2.1) Ar98.2.2 (inb_of Sz98 ⟨(by decide), (by decide)⟩) (Hh98.at (inb_of Sz98 ⟨(by decide), (by decide)⟩) rfl) (g := (mkF m 24 #[.val (.ref a1), .val (.ref a2), .val (.int (1 : Int32)), .val (.int (2 : Int32))] [(.int (2 : Int32)), (.ref a1)])) rfl rfl (hb hby dB3_24) _ ?_
              show Steps p.tables e below (s₁.setTop (mkF m 25 #[.val (.ref a1), .val (.ref a2), .val (.int (1 : Int32)), .val (.int (2 : Int32))] [(.double (FP.l2d w2))])) _
              refine o_aloadN X0.here hx (hb hby dB3_25) rfl rfl ?_
              refine o_iloadN X0.here hx (hb hby dB3_26) rfl ?_
              exact k
            obtain ⟨cl100, Ar100, qk100, Sz100, Mz100, Hh100, Gg100⟩ := pr7
            have pr7 : Arv Z h0 a2 k2 .double (3 : Int32) [(.double (FP.l2d v0)), (.double (FP.l2d v1)), (.double (FP.l2d v2))] (.double (0 : UInt64)) := ⟨cl100, Ar100, qk100, Sz100, Mz100, Hh100, Gg100⟩
            have cn101 : ∀ t, Steps p.tables e below (s₁.setTop (mkF m 29 #[.val (.ref a1), .val (.ref a2), .val (.int (1 : Int32)), .val (.int (2 : Int32))] [(.int (XT.cmpL w2 v2))])) t → Steps p.tables e below (s₁.setTop (entryFrame m #[(.ref a1), (.ref a2)] 4)) t := by
              intro t k
              refine cn99 t ?_
              refine X0.daload hx (j := (2 : Int32)) (v := (.double (FP.l2d v2))) (by rw [e0]; exact Ar100.1) (State.isArrayOf_alike hZ.alike Ar100.2.1) Ar100.2.2 (inb_of Sz100 ⟨(by decide), (by decide)⟩) (Hh100.at (inb_of Sz100 ⟨(by decide), (by decide)⟩) rfl) (g := (mkF m 27 #[.val (.ref a1), .val (.ref a2), .val (.int (1 : Int32)), .val (.int (2 : Int32))] [(.int (2 : Int32)), (.ref a2), (.double (FP.l2d w2))])) rfl rfl (hb hby dB3_27) _ ?_
              show Steps p.tables e below (s₁.setTop (mkF m 28 #[.val (.ref a1), .val (.ref a2), .val (.int (1 : Int32)), .val (.int (2 : Int32))] [(.double (FP.l2d v2)), (.double (FP.l2d w2))])) _
              refine o_dcmpS X0.here hx (hb hby dB3_28) (v := XT.cmpL w2 v2) (dcmpV_w (own_bd_b53 H2 (by decide)) (own_bd_b53 H5 (by decide)) _) ?_
              exact k
            by_cases h29_102 : w2 < v2
            · -- pc 29 not taken
              have cn103 : ∀ t, Steps p.tables e below (s₁.setTop (mkF m 6 #[.val (.ref a1), .val (.ref a2), .val (.int (1 : Int32)), .val (.int (3 : Int32))] [(.ref a1), (.int (3 : Int32))])) t → Steps p.tables e below (s₁.setTop (entryFrame m #[(.ref a1), (.ref a2)] 4)) t := by
                intro t k
                refine cn101 t ?_
                refine o_ifNo X0.here hx (hb hby dB3_29) (XT.ll_ge_f h29_102) ?_
                refine o_iconstV X0.here hx (1 : Int32) (hb hby dB3_32) rfl ?_
                refine o_istoreN X0.here hx (hb hby dB3_33) (l' := #[.val (.ref a1), .val (.ref a2), .val (.int (1 : Int32)), .val (.int (2 : Int32))]) rfl ?_
                refine o_iincV X0.here hx (1 : Int32) (hb hby dB3_34) rfl rfl (l' := #[.val (.ref a1), .val (.ref a2), .val (.int (1 : Int32)), .val (.int ((2 : Int32) + (1 : Int32)))]) rfl ?_
                show Steps p.tables e below (s₁.setTop (mkF m 37 #[.val (.ref a1), .val (.ref a2), .val (.int (1 : Int32)), .val (.int (3 : Int32))] [])) _
                show Steps p.tables e below (s₁.setTop (mkF m 37 #[.val (.ref a1), .val (.ref a2), .val (.int (1 : Int32)), .val (.int (3 : Int32))] [])) _
                refine o_goto X0.here hx (pc' := 4) (hb hby dB3_37) (by decide) (by decide) ?_
                refine o_iloadN X0.here hx (hb hby dB3_4) rfl ?_
                refine o_aloadN X0.here hx (hb hby dB3_5) rfl rfl ?_
                exact k
              obtain ⟨cl104, Ar104, qk104, Sz104, Mz104, Hh104, Gg104⟩ := pr6
              have pr6 : Arv Z h0 a1 k1 .double (3 : Int32) [(.double (FP.l2d w0)), (.double (FP.l2d w1)), (.double (FP.l2d w2))] (.double (0 : UInt64)) := ⟨cl104, Ar104, qk104, Sz104, Mz104, Hh104, Gg104⟩
              have cn105 : ∀ t, Steps p.tables e below (s₁.setTop (mkF m 41 #[.val (.ref a1), .val (.ref a2), .val (.int (1 : Int32)), .val (.int (3 : Int32))] [(.int (1 : Int32))])) t → Steps p.tables e below (s₁.setTop (entryFrame m #[(.ref a1), (.ref a2)] 4)) t := by
                intro t k
                refine cn103 t ?_
                refine X0.arraylength hx (by rw [e0]; exact Ar104.1) (State.isArrayOf_alike hZ.alike Ar104.2.1) (g := (mkF m 6 #[.val (.ref a1), .val (.ref a2), .val (.int (1 : Int32)), .val (.int (3 : Int32))] [(.ref a1), (.int (3 : Int32))])) rfl rfl (hb hby dB3_6) _ ?_
                rw [len_of Sz104 Mz104]
                show Steps p.tables e below (s₁.setTop (mkF m 7 #[.val (.ref a1), .val (.ref a2), .val (.int (1 : Int32)), .val (.int (3 : Int32))] [(.int (3 : Int32)), (.int (3 : Int32))])) _
                show Steps p.tables e below (s₁.setTop (mkF m 7 #[.val (.ref a1), .val (.ref a2), .val (.int (1 : Int32)), .val (.int (3 : Int32))] [(.int (3 : Int32)), (.int (3 : Int32))])) _
                refine o_icmpYes X0.here hx (pc' := 40) (hb hby dB3_7) (XT.ii_ge_t (by decide)) (by decide) (by decide) ?_
                refine o_iloadN X0.here hx (hb hby dB3_40) rfl ?_
                exact k
              obtain ⟨fs, hr, hrun, hended, hW, hsame⟩ := X0.leave (v := some (.int (1 : Int32))) (fun h => by rw [Bd.returns] at h; cases h)
              refine ⟨_, _, cn105 _ ?_, hrun, hended, _, _, rfl, ?_, ⟨_, rfl⟩, hW, hsame.mono (by decide) (by decide)⟩
              · exact retN X0 hx (t := .boolean) Bd.returns (by simp) (hb hby dB3_41) hr
              · show QB3 Z a1 a2 k1 k2 w0 w1 w2 v0 v1 v2 h0 n0 _ s₁.heap _
                rw [e0]
                exact ⟨(by simp [own_beats, h17_8, h29_15, h17_80, h29_87, h17_95, h29_102, own_asymm h29_87, own_asymm h29_102]), N0, rfl⟩
            · -- pc 29 taken
              have cn106 : ∀ t, Steps p.tables e below (s₁.setTop (mkF m 6 #[.val (.ref a1), .val (.ref a2), .val (.int (1 : Int32)), .val (.int (3 : Int32))] [(.ref a1), (.int (3 : Int32))])) t → Steps p.tables e below (s₁.setTop (entryFrame m #[(.ref a1), (.ref a2)] 4)) t := by
                intro t k
                refine cn101 t ?_
                refine o_ifYes X0.here hx (pc' := 34) (hb hby dB3_29) (XT.ll_ge_t h29_102) (by decide) (by decide) ?_
                refine o_iincV X0.here hx (1 : Int32) (hb hby dB3_34) rfl rfl (l' := #[.val (.ref a1), .val (.ref a2), .val (.int (1 : Int32)), .val (.int ((2 : Int32) + (1 : Int32)))]) rfl ?_
                show Steps p.tables e below (s₁.setTop (mkF m 37 #[.val (.ref a1), .val (.ref a2), .val (.int (1 : Int32)), .val (.int (3 : Int32))] [])) _
                show Steps p.tables e below (s₁.setTop (mkF m 37 #[.val (.ref a1), .val (.ref a2), .val (.int (1 : Int32)), .val (.int (3 : Int32))] [])) _
                refine o_goto X0.here hx (pc' := 4) (hb hby dB3_37) (by decide) (by decide) ?_
                refine o_iloadN X0.here hx (hb hby dB3_4) rfl ?_
                refine o_aloadN X0.here hx (hb hby dB3_5) rfl rfl ?_
                exact k
              obtain ⟨cl107, Ar107, qk107, Sz107, Mz107, Hh107, Gg107⟩ := pr6
              have pr6 : Arv Z h0 a1 k1 .double (3 : Int32) [(.double (FP.l2d w0)), (.double (FP.l2d w1)), (.double (FP.l2d w2))] (.double (0 : UInt64)) := ⟨cl107, Ar107, qk107, Sz107, Mz107, Hh107, Gg107⟩
              have cn108 : ∀ t, Steps p.tables e below (s₁.setTop (mkF m 41 #[.val (.ref a1), .val (.ref a2), .val (.int (1 : Int32)), .val (.int (3 : Int32))] [(.int (1 : Int32))])) t → Steps p.tables e below (s₁.setTop (entryFrame m #[(.ref a1), (.ref a2)] 4)) t := by
                intro t k
                refine cn106 t ?_
                refine X0.arraylength hx (by rw [e0]; exact Ar107.1) (State.isArrayOf_alike hZ.alike Ar107.2.1) (g := (mkF m 6 #[.val (.ref a1), .val (.ref a2), .val (.int (1 : Int32)), .val (.int (3 : Int32))] [(.ref a1), (.int (3 : Int32))])) rfl rfl (hb hby dB3_6) _ ?_
                rw [len_of Sz107 Mz107]
                show Steps p.tables e below (s₁.setTop (mkF m 7 #[.val (.ref a1), .val (.ref a2), .val (.int (1 : Int32)), .val (.int (3 : Int32))] [(.int (3 : Int32)), (.int (3 : Int32))])) _
                show Steps p.tables e below (s₁.setTop (mkF m 7 #[.val (.ref a1), .val (.ref a2), .val (.int (1 : Int32)), .val (.int (3 : Int32))] [(.int (3 : Int32)), (.int (3 : Int32))])) _
                refine o_icmpYes X0.here hx (pc' := 40) (hb hby dB3_7) (XT.ii_ge_t (by decide)) (by decide) (by decide) ?_
                refine o_iloadN X0.here hx (hb hby dB3_40) rfl ?_
                exact k
              obtain ⟨fs, hr, hrun, hended, hW, hsame⟩ := X0.leave (v := some (.int (1 : Int32))) (fun h => by rw [Bd.returns] at h; cases h)
              refine ⟨_, _, cn108 _ ?_, hrun, hended, _, _, rfl, ?_, ⟨_, rfl⟩, hW, hsame.mono (by decide) (by decide)⟩
              · exact retN X0 hx (t := .boolean) Bd.returns (by simp) (hb hby dB3_41) hr
              · show QB3 Z a1 a2 k1 k2 w0 w1 w2 v0 v1 v2 h0 n0 _ s₁.heap _
                rw [e0]
                exact ⟨(by simp [own_beats, h17_8, h29_15, h17_80, h29_87, h17_95, h29_102, own_asymm h29_87]), N0, rfl⟩
        · -- pc 29 taken
          have cn109 : ∀ t, Steps p.tables e below (s₁.setTop (mkF m 6 #[.val (.ref a1), .val (.ref a2), .val (.int (0 : Int32)), .val (.int (2 : Int32))] [(.ref a1), (.int (2 : Int32))])) t → Steps p.tables e below (s₁.setTop (entryFrame m #[(.ref a1), (.ref a2)] 4)) t := by
            intro t k
            refine cn86 t ?_
            refine o_ifYes X0.here hx (pc' := 34) (hb hby dB3_29) (XT.ll_ge_t h29_87) (by decide) (by decide) ?_
            refine o_iincV X0.here hx (1 : Int32) (hb hby dB3_34) rfl rfl (l' := #[.val (.ref a1), .val (.ref a2), .val (.int (0 : Int32)), .val (.int ((1 : Int32) + (1 : Int32)))]) rfl ?_
            show Steps p.tables e below (s₁.setTop (mkF m 37 #[.val (.ref a1), .val (.ref a2), .val (.int (0 : Int32)), .val (.int (2 : Int32))] [])) _
            show Steps p.tables e below (s₁.setTop (mkF m 37 #[.val (.ref a1), .val (.ref a2), .val (.int (0 : Int32)), .val (.int (2 : Int32))] [])) _
            refine o_goto X0.here hx (pc' := 4) (hb hby dB3_37) (by decide) (by decide) ?_
            refine o_iloadN X0.here hx (hb hby dB3_4) rfl ?_
            refine o_aloadN X0.here hx (hb hby dB3_5) rfl rfl ?_
            exact k
          obtain ⟨cl110, Ar110, qk110, Sz110, Mz110, Hh110, Gg110⟩ := pr6
          have pr6 : Arv Z h0 a1 k1 .double (3 : Int32) [(.double (FP.l2d w0)), (.double (FP.l2d w1)), (.double (FP.l2d w2))] (.double (0 : UInt64)) := ⟨cl110, Ar110, qk110, Sz110, Mz110, Hh110, Gg110⟩
          have cn111 : ∀ t, Steps p.tables e below (s₁.setTop (mkF m 12 #[.val (.ref a1), .val (.ref a2), .val (.int (0 : Int32)), .val (.int (2 : Int32))] [(.int (2 : Int32)), (.ref a1)])) t → Steps p.tables e below (s₁.setTop (entryFrame m #[(.ref a1), (.ref a2)] 4)) t := by
            intro t k
            refine cn109 t ?_
            refine X0.arraylength hx (by rw [e0]; exact Ar110.1) (State.isArrayOf_alike hZ.alike Ar110.2.1) (g := (mkF m 6 #[.val (.ref a1), .val (.ref a2), .val (.int (0 : Int32)), .val (.int (2 : Int32))] [(.ref a1), (.int (2 : Int32))])) rfl rfl (hb hby dB3_6) _ ?_
            rw [len_of Sz110 Mz110]
            show Steps p.tables e below (s₁.setTop (mkF m 7 #[.val (.ref a1), .val (.ref a2), .val (.int (0 : Int32)), .val (.int (2 : Int32))] [(.int (3 : Int32)), (.int (2 : Int32))])) _
            show Steps p.tables e below (s₁.setTop (mkF m 7 #[.val (.ref a1), .val (.ref a2), .val (.int (0 : Int32)), .val (.int (2 : Int32))] [(.int (3 : Int32)), (.int (2 : Int32))])) _
            refine o_icmpNo X0.here hx (hb hby dB3_7) (XT.ii_ge_f (by decide)) ?_
            refine o_aloadN X0.here hx (hb hby dB3_10) rfl rfl ?_
            refine o_iloadN X0.here hx (hb hby dB3_11) rfl ?_
            exact k
          obtain ⟨cl112, Ar112, qk112, Sz112, Mz112, Hh112, Gg112⟩ := pr6
          have pr6 : Arv Z h0 a1 k1 .double (3 : Int32) [(.double (FP.l2d w0)), (.double (FP.l2d w1)), (.double (FP.l2d w2))] (.double (0 : UInt64)) := ⟨cl112, Ar112, qk112, Sz112, Mz112, Hh112, Gg112⟩
          have cn113 : ∀ t, Steps p.tables e below (s₁.setTop (mkF m 15 #[.val (.ref a1), .val (.ref a2), .val (.int (0 : Int32)), .val (.int (2 : Int32))] [(.int (2 : Int32)), (.ref a2), (.double (FP.l2d w2))])) t → Steps p.tables e below (s₁.setTop (entryFrame m #[(.ref a1), (.ref a2)] 4)) t := by
            intro t k
            refine cn111 t ?_
            refine X0.daload hx (j := (2 : Int32)) (v := (.double (FP.l2d w2))) (by rw [e0]; exact Ar112.1) (State.isArrayOf_alike hZ.alike Ar112.2.1) Ar112.2.2 (inb_of Sz112 ⟨(by decide), (by decide)⟩) (Hh112.at (inb_of Sz112 ⟨(by decide), (by decide)⟩) rfl) (g := (mkF m 12 #[.val (.ref a1), .val (.ref a2), .val (.int (0 : Int32)), .val (.int (2 : Int32))] [(.int (2 : Int32)), (.ref a1)])) rfl rfl (hb hby dB3_12) _ ?_
            show Steps p.tables e below (s₁.setTop (mkF m 13 #[.val (.ref a1), .val (.ref a2), .val (.int (0 : Int32)), .val (.int (2 : Int32))] [(.double (FP.l2d w2))])) _
            refine o_aloadN X0.here hx (hb hby dB3_13) rfl rfl ?_
            refine o_iloadN X0.here hx (hb hby dB3_14) rfl ?_
            exact k
          obtain ⟨cl114, Ar114, qk114, Sz114, Mz114, Hh114, Gg114⟩ := pr7
          have pr7 : Arv Z h0 a2 k2 .double (3 : Int32) [(.double (FP.l2d v0)), (.double (FP.l2d v1)), (.double (FP.l2d v2))] (.double (0 : UInt64)) := ⟨cl114, Ar114, qk114, Sz114, Mz114, Hh114, Gg114⟩
          have cn115 : ∀ t, Steps p.tables e below (s₁.setTop (mkF m 17 #[.val (.ref a1), .val (.ref a2), .val (.int (0 : Int32)), .val (.int (2 : Int32))] [(.int (XT.cmpL w2 v2))])) t → Steps p.tables e below (s₁.setTop (entryFrame m #[(.ref a1), (.ref a2)] 4)) t := by
            intro t k
            refine cn113 t ?_
            refine X0.daload hx (j := (2 : Int32)) (v := (.double (FP.l2d v2))) (by rw [e0]; exact Ar114.1) (State.isArrayOf_alike hZ.alike Ar114.2.1) Ar114.2.2 (inb_of Sz114 ⟨(by decide), (by decide)⟩) (Hh114.at (inb_of Sz114 ⟨(by decide), (by decide)⟩) rfl) (g := (mkF m 15 #[.val (.ref a1), .val (.ref a2), .val (.int (0 : Int32)), .val (.int (2 : Int32))] [(.int (2 : Int32)), (.ref a2), (.double (FP.l2d w2))])) rfl rfl (hb hby dB3_15) _ ?_
            show Steps p.tables e below (s₁.setTop (mkF m 16 #[.val (.ref a1), .val (.ref a2), .val (.int (0 : Int32)), .val (.int (2 : Int32))] [(.double (FP.l2d v2)), (.double (FP.l2d w2))])) _
            refine o_dcmpS X0.here hx (hb hby dB3_16) (v := XT.cmpL w2 v2) (dcmpV_w (own_bd_b53 H2 (by decide)) (own_bd_b53 H5 (by decide)) _) ?_
            exact k
          by_cases h17_116 : v2 < w2
          · -- pc 17 not taken
            have cn117 : ∀ t, Steps p.tables e below (s₁.setTop (mkF m 21 #[.val (.ref a1), .val (.ref a2), .val (.int (0 : Int32)), .val (.int (2 : Int32))] [(.int (0 : Int32))])) t → Steps p.tables e below (s₁.setTop (entryFrame m #[(.ref a1), (.ref a2)] 4)) t := by
              intro t k
              refine cn115 t ?_
              refine o_ifNo X0.here hx (hb hby dB3_17) (XT.ll_le_f h17_116) ?_
              refine o_iconstV X0.here hx (0 : Int32) (hb hby dB3_20) rfl ?_
              exact k
            obtain ⟨fs, hr, hrun, hended, hW, hsame⟩ := X0.leave (v := some (.int (0 : Int32))) (fun h => by rw [Bd.returns] at h; cases h)
            refine ⟨_, _, cn117 _ ?_, hrun, hended, _, _, rfl, ?_, ⟨_, rfl⟩, hW, hsame.mono (by decide) (by decide)⟩
            · exact retN X0 hx (t := .boolean) Bd.returns (by simp) (hb hby dB3_21) hr
            · show QB3 Z a1 a2 k1 k2 w0 w1 w2 v0 v1 v2 h0 n0 _ s₁.heap _
              rw [e0]
              exact ⟨(by simp [own_beats, h17_8, h29_15, h17_80, h29_87, h17_116, own_asymm h17_116]), N0, rfl⟩
          · -- pc 17 taken
            have cn118 : ∀ t, Steps p.tables e below (s₁.setTop (mkF m 24 #[.val (.ref a1), .val (.ref a2), .val (.int (0 : Int32)), .val (.int (2 : Int32))] [(.int (2 : Int32)), (.ref a1)])) t → Steps p.tables e below (s₁.setTop (entryFrame m #[(.ref a1), (.ref a2)] 4)) t := by
              intro t k
              refine cn115 t ?_
              refine o_ifYes X0.here hx (pc' := 22) (hb hby dB3_17) (XT.ll_le_t h17_116) (by decide) (by decide) ?_
              refine o_aloadN X0.here hx (hb hby dB3_22) rfl rfl ?_
              refine o_iloadN X0.here hx (hb hby dB3_23) rfl ?_
              exact k
            obtain ⟨cl119, Ar119, qk119, Sz119, Mz119, Hh119, Gg119⟩ := pr6
            have pr6 : Arv Z h0 a1 k1 .double (3 : Int32) [(.double (FP.l2d w0)), (.double (FP.l2d w1)), (.double (FP.l2d w2))] (.double (0 : UInt64)) := ⟨cl119, Ar119, qk119, Sz119, Mz119, Hh119, Gg119⟩
            have cn120 : ∀ t, Steps p.tables e below (s₁.setTop (mkF m 27 #[.val (.ref a1), .val (.ref a2), .val (.int (0 : Int32)), .val (.int (2 : Int32))] [(.int (2 : Int32)), (.ref a2), (.double (FP.l2d w2))])) t → Steps p.tables e below (s₁.setTop (entryFrame m #[(.ref a1), (.ref a2)] 4)) t := by
              intro t k
              refine cn118 t ?_
              refine X0.daload hx (j := (2 : Int32)) (v := (.double (FP.l2d w2))) (by rw [e0]; exact Ar119.1) (State.isArrayOf_alike hZ.alike Ar119.2.1) Ar119.2.2 (inb_of Sz119 ⟨(by decide), (by decide)⟩) (Hh119.at (inb_of Sz119 ⟨(by decide), (by decide)⟩) rfl) (g := (mkF m 24 #[.val (.ref a1), .val (.ref a2), .val (.int (0 : Int32)), .val (.int (2 : Int32))] [(.int (2 : Int32)), (.ref a1)])) rfl rfl (hb hby dB3_24) _ ?_
              show Steps p.tables e below (s₁.setTop (mkF m 25 #[.val (.ref a1), .val (.ref a2), .val (.int (0 : Int32)), .val (.int (2 : Int32))] [(.double (FP.l2d w2))])) _
              refine o_aloadN X0.here hx (hb hby dB3_25) rfl rfl ?_
              refine o_iloadN X0.here hx (hb hby dB3_26) rfl ?_
              exact k
            obtain ⟨cl121, Ar121, qk121, Sz121, Mz121, Hh121, Gg121⟩ := pr7
            have pr7 : Arv Z h0 a2 k2 .double (3 : Int32) [(.double (FP.l2d v0)), (.double (FP.l2d v1)), (.double (FP.l2d v2))] (.double (0 : UInt64)) := ⟨cl121, Ar121, qk121, Sz121, Mz121, Hh121, Gg121⟩
            have cn122 : ∀ t, Steps p.tables e below (s₁.setTop (mkF m 29 #[.val (.ref a1), .val (.ref a2), .val (.int (0 : Int32)), .val (.int (2 : Int32))] [(.int (XT.cmpL w2 v2))])) t → Steps p.tables e below (s₁.setTop (entryFrame m #[(.ref a1), (.ref a2)] 4)) t := by
              intro t k
              refine cn120 t ?_
              refine X0.daload hx (j := (2 : Int32)) (v := (.double (FP.l2d v2))) (by rw [e0]; exact Ar121.1) (State.isArrayOf_alike hZ.alike Ar121.2.1) Ar121.2.2 (inb_of Sz121 ⟨(by decide), (by decide)⟩) (Hh121.at (inb_of Sz121 ⟨(by decide), (by decide)⟩) rfl) (g := (mkF m 27 #[.val (.ref a1), .val (.ref a2), .val (.int (0 : Int32)), .val (.int (2 : Int32))] [(.int (2 : Int32)), (.ref a2), (.double (FP.l2d w2))])) rfl rfl (hb hby dB3_27) _ ?_
              show Steps p.tables e below (s₁.setTop (mkF m 28 #[.val (.ref a1), .val (.ref a2), .val (.int (0 : Int32)), .val (.int (2 : Int32))] [(.double (FP.l2d v2)), (.double (FP.l2d w2))])) _
              refine o_dcmpS X0.here hx (hb hby dB3_28) (v := XT.cmpL w2 v2) (dcmpV_w (own_bd_b53 H2 (by decide)) (own_bd_b53 H5 (by decide)) _) ?_
              exact k
            by_cases h29_123 : w2 < v2
            · -- pc 29 not taken
              have cn124 : ∀ t, Steps p.tables e below (s₁.setTop (mkF m 6 #[.val (.ref a1), .val (.ref a2), .val (.int (1 : Int32)), .val (.int (3 : Int32))] [(.ref a1), (.int (3 : Int32))])) t → Steps p.tables e below (s₁.setTop (entryFrame m #[(.ref a1), (.ref a2)] 4)) t := by
                intro t k
                refine cn122 t ?_
                refine o_ifNo X0.here hx (hb hby dB3_29) (XT.ll_ge_f h29_123) ?_
                refine o_iconstV X0.here hx (1 : Int32) (hb hby dB3_32) rfl ?_
                refine o_istoreN X0.here hx (hb hby dB3_33) (l' := #[.val (.ref a1), .val (.ref a2), .val (.int (1 : Int32)), .val (.int (2 : Int32))]) rfl ?_
                refine o_iincV X0.here hx (1 : Int32) (hb hby dB3_34) rfl rfl (l' := #[.val (.ref a1), .val (.ref a2), .val (.int (1 : Int32)), .val (.int ((2 : Int32) + (1 : Int32)))]) rfl ?_
                show Steps p.tables e below (s₁.setTop (mkF m 37 #[.val (.ref a1), .val (.ref a2), .val (.int (1 : Int32)), .val (.int (3 : Int32))] [])) _
                show Steps p.tables e below (s₁.setTop (mkF m 37 #[.val (.ref a1), .val (.ref a2), .val (.int (1 : Int32)), .val (.int (3 : Int32))] [])) _
                refine o_goto X0.here hx (pc' := 4) (hb hby dB3_37) (by decide) (by decide) ?_
                refine o_iloadN X0.here hx (hb hby dB3_4) rfl ?_
                refine o_aloadN X0.here hx (hb hby dB3_5) rfl rfl ?_
                exact k
              obtain ⟨cl125, Ar125, qk125, Sz125, Mz125, Hh125, Gg125⟩ := pr6
              have pr6 : Arv Z h0 a1 k1 .double (3 : Int32) [(.double (FP.l2d w0)), (.double (FP.l2d w1)), (.double (FP.l2d w2))] (.double (0 : UInt64)) := ⟨cl125, Ar125, qk125, Sz125, Mz125, Hh125, Gg125⟩
              have cn126 : ∀ t, Steps p.tables e below (s₁.setTop (mkF m 41 #[.val (.ref a1), .val (.ref a2), .val (.int (1 : Int32)), .val (.int (3 : Int32))] [(.int (1 : Int32))])) t → Steps p.tables e below (s₁.setTop (entryFrame m #[(.ref a1), (.ref a2)] 4)) t := by
                intro t k
                refine cn124 t ?_
                refine X0.arraylength hx (by rw [e0]; exact Ar125.1) (State.isArrayOf_alike hZ.alike Ar125.2.1) (g := (mkF m 6 #[.val (.ref a1), .val (.ref a2), .val (.int (1 : Int32)), .val (.int (3 : Int32))] [(.ref a1), (.int (3 : Int32))])) rfl rfl (hb hby dB3_6) _ ?_
                rw [len_of Sz125 Mz125]
                show Steps p.tables e below (s₁.setTop (mkF m 7 #[.val (.ref a1), .val (.ref a2), .val (.int (1 : Int32)), .val (.int (3 : Int32))] [(.int (3 : Int32)), (.int (3 : Int32))])) _
                show Steps p.tables e below (s₁.setTop (mkF m 7 #[.val (.ref a1), .val (.ref a2), .val (.int (1 : Int32)), .val (.int (3 : Int32))] [(.int (3 : Int32)), (.int (3 : Int32))])) _
                refine o_icmpYes X0.here hx (pc' := 40) (hb hby dB3_7) (XT.ii_ge_t (by decide)) (by decide) (by decide) ?_
                refine o_iloadN X0.here hx (hb hby dB3_40) rfl ?_
                exact k
              obtain ⟨fs, hr, hrun, hended, hW, hsame⟩ := X0.leave (v := some (.int (1 : Int32))) (fun h => by rw [Bd.returns] at h; cases h)
              refine ⟨_, _, cn126 _ ?_, hrun, hended, _, _, rfl, ?_, ⟨_, rfl⟩, hW, hsame.mono (by decide) (by decide)⟩
              · exact retN X0 hx (t := .boolean) Bd.returns (by simp) (hb hby dB3_41) hr
              · show QB3 Z a1 a2 k1 k2 w0 w1 w2 v0 v1 v2 h0 n0 _ s₁.heap _
                rw [e0]
                exact ⟨(by simp [own_beats, h17_8, h29_15, h17_80, h29_87, h17_116, h29_123, own_asymm h29_123]), N0, rfl⟩
            · -- pc 29 taken
              have cn127 : ∀ t, Steps p.tables e below (s₁.setTop (mkF m 6 #[.val (.ref a1), .val (.ref a2), .val (.int (0 : Int32)), .val (.int (3 : Int32))] [(.ref a1), (.int (3 : Int32))])) t → Steps p.tables e below (s₁.setTop (entryFrame m #[(.ref a1), (.ref a2)] 4)) t := by
                intro t k
                refine cn122 t ?_
                refine o_ifYes X0.here hx (pc' := 34) (hb hby dB3_29) (XT.ll_ge_t h29_123) (by decide) (by decide) ?_
                refine o_iincV X0.here hx (1 : Int32) (hb hby dB3_34) rfl rfl (l' := #[.val (.ref a1), .val (.ref a2), .val (.int (0 : Int32)), .val (.int ((2 : Int32) + (1 : Int32)))]) rfl ?_
                show Steps p.tables e below (s₁.setTop (mkF m 37 #[.val (.ref a1), .val (.ref a2), .val (.int (0 : Int32)), .val (.int (3 : Int32))] [])) _
                show Steps p.tables e below (s₁.setTop (mkF m 37 #[.val (.ref a1), .val (.ref a2), .val (.int (0 : Int32)), .val (.int (3 : Int32))] [])) _
                refine o_goto X0.here hx (pc' := 4) (hb hby dB3_37) (by decide) (by decide) ?_
                refine o_iloadN X0.here hx (hb hby dB3_4) rfl ?_
                refine o_aloadN X0.here hx (hb hby dB3_5) rfl rfl ?_
                exact k
              obtain ⟨cl128, Ar128, qk128, Sz128, Mz128, Hh128, Gg128⟩ := pr6
              have pr6 : Arv Z h0 a1 k1 .double (3 : Int32) [(.double (FP.l2d w0)), (.double (FP.l2d w1)), (.double (FP.l2d w2))] (.double (0 : UInt64)) := ⟨cl128, Ar128, qk128, Sz128, Mz128, Hh128, Gg128⟩
              have cn129 : ∀ t, Steps p.tables e below (s₁.setTop (mkF m 41 #[.val (.ref a1), .val (.ref a2), .val (.int (0 : Int32)), .val (.int (3 : Int32))] [(.int (0 : Int32))])) t → Steps p.tables e below (s₁.setTop (entryFrame m #[(.ref a1), (.ref a2)] 4)) t := by
                intro t k
                refine cn127 t ?_
                refine X0.arraylength hx (by rw [e0]; exact Ar128.1) (State.isArrayOf_alike hZ.alike Ar128.2.1) (g := (mkF m 6 #[.val (.ref a1), .val (.ref a2), .val (.int (0 : Int32)), .val (.int (3 : Int32))] [(.ref a1), (.int (3 : Int32))])) rfl rfl (hb hby dB3_6) _ ?_
                rw [len_of Sz128 Mz128]
                show Steps p.tables e below (s₁.setTop (mkF m 7 #[.val (.ref a1), .val (.ref a2), .val (.int (0 : Int32)), .val (.int (3 : Int32))] [(.int (3 : Int32)), (.int (3 : Int32))])) _
                show Steps p.tables e below (s₁.setTop (mkF m 7 #[.val (.ref a1), .val (.ref a2), .val (.int (0 : Int32)), .val (.int (3 : Int32))] [(.int (3 : Int32)), (.int (3 : Int32))])) _
                refine o_icmpYes X0.here hx (pc' := 40) (hb hby dB3_7) (XT.ii_ge_t (by decide)) (by decide) (by decide) ?_
                refine o_iloadN X0.here hx (hb hby dB3_40) rfl ?_
                exact k
              obtain ⟨fs, hr, hrun, hended, hW, hsame⟩ := X0.leave (v := some (.int (0 : Int32))) (fun h => by rw [Bd.returns] at h; cases h)
              refine ⟨_, _, cn129 _ ?_, hrun, hended, _, _, rfl, ?_, ⟨_, rfl⟩, hW, hsame.mono (by decide) (by decide)⟩
              · exact retN X0 hx (t := .boolean) Bd.returns (by simp) (hb hby dB3_41) hr
              · show QB3 Z a1 a2 k1 k2 w0 w1 w2 v0 v1 v2 h0 n0 _ s₁.heap _
                rw [e0]
                exact ⟨(by simp [own_beats, h17_8, h29_15, h17_80, h29_87, h17_116, h29_123]), N0, rfl⟩

theorem dE3_0 : decode method_3_code 0 = .ok (.iload_n 0, 1) := by decide +kernel
theorem dE3_1 : decode method_3_code 1 = .ok (.iconst 1, 1) := by decide +kernel
theorem dE3_2 : decode method_3_code 2 = .ok (.if_icmp .lt 10, 3) := by decide +kernel
theorem dE3_5 : decode method_3_code 5 = .ok (.dload_n 1, 1) := by decide +kernel
theorem dE3_6 : decode method_3_code 6 = .ok (.dload 7, 2) := by decide +kernel
theorem dE3_8 : decode method_3_code 8 = .ok (.dcmp .g, 1) := by decide +kernel
theorem dE3_9 : decode method_3_code 9 = .ok (.ifCond .gt 7, 3) := by decide +kernel
theorem dE3_12 : decode method_3_code 12 = .ok (.iconst 1, 1) := by decide +kernel
theorem dE3_13 : decode method_3_code 13 = .ok (.goto 4, 3) := by decide +kernel
theorem dE3_16 : decode method_3_code 16 = .ok (.iconst 0, 1) := by decide +kernel
theorem dE3_17 : decode method_3_code 17 = .ok (.istore 13, 2) := by decide +kernel
theorem dE3_19 : decode method_3_code 19 = .ok (.iload_n 0, 1) := by decide +kernel
theorem dE3_20 : decode method_3_code 20 = .ok (.iconst 2, 1) := by decide +kernel
theorem dE3_21 : decode method_3_code 21 = .ok (.if_icmp .lt 10, 3) := by decide +kernel
theorem dE3_24 : decode method_3_code 24 = .ok (.dload_n 3, 1) := by decide +kernel
theorem dE3_25 : decode method_3_code 25 = .ok (.dload 9, 2) := by decide +kernel
theorem dE3_27 : decode method_3_code 27 = .ok (.dcmp .g, 1) := by decide +kernel
theorem dE3_28 : decode method_3_code 28 = .ok (.ifCond .gt 7, 3) := by decide +kernel
theorem dE3_31 : decode method_3_code 31 = .ok (.iconst 1, 1) := by decide +kernel
theorem dE3_32 : decode method_3_code 32 = .ok (.goto 4, 3) := by decide +kernel
theorem dE3_35 : decode method_3_code 35 = .ok (.iconst 0, 1) := by decide +kernel
theorem dE3_36 : decode method_3_code 36 = .ok (.istore 14, 2) := by decide +kernel
theorem dE3_38 : decode method_3_code 38 = .ok (.iload_n 0, 1) := by decide +kernel
theorem dE3_39 : decode method_3_code 39 = .ok (.iconst 3, 1) := by decide +kernel
theorem dE3_40 : decode method_3_code 40 = .ok (.if_icmp .lt 11, 3) := by decide +kernel
theorem dE3_43 : decode method_3_code 43 = .ok (.dload 5, 2) := by decide +kernel
theorem dE3_45 : decode method_3_code 45 = .ok (.dload 11, 2) := by decide +kernel
theorem dE3_47 : decode method_3_code 47 = .ok (.dcmp .g, 1) := by decide +kernel
theorem dE3_48 : decode method_3_code 48 = .ok (.ifCond .gt 7, 3) := by decide +kernel
theorem dE3_51 : decode method_3_code 51 = .ok (.iconst 1, 1) := by decide +kernel
theorem dE3_52 : decode method_3_code 52 = .ok (.goto 4, 3) := by decide +kernel
theorem dE3_55 : decode method_3_code 55 = .ok (.iconst 0, 1) := by decide +kernel
theorem dE3_56 : decode method_3_code 56 = .ok (.istore 15, 2) := by decide +kernel
theorem dE3_58 : decode method_3_code 58 = .ok (.iload_n 0, 1) := by decide +kernel
theorem dE3_59 : decode method_3_code 59 = .ok (.iconst 1, 1) := by decide +kernel
theorem dE3_60 : decode method_3_code 60 = .ok (.if_icmp .lt 14, 3) := by decide +kernel
theorem dE3_63 : decode method_3_code 63 = .ok (.dload_n 1, 1) := by decide +kernel
theorem dE3_64 : decode method_3_code 64 = .ok (.dload 7, 2) := by decide +kernel
theorem dE3_66 : decode method_3_code 66 = .ok (.dcmp .g, 1) := by decide +kernel
theorem dE3_67 : decode method_3_code 67 = .ok (.ifCond .ge 7, 3) := by decide +kernel
theorem dE3_70 : decode method_3_code 70 = .ok (.iconst 1, 1) := by decide +kernel
theorem dE3_71 : decode method_3_code 71 = .ok (.goto 4, 3) := by decide +kernel
theorem dE3_74 : decode method_3_code 74 = .ok (.iconst 0, 1) := by decide +kernel
theorem dE3_75 : decode method_3_code 75 = .ok (.istore 16, 2) := by decide +kernel
theorem dE3_77 : decode method_3_code 77 = .ok (.iload_n 0, 1) := by decide +kernel
theorem dE3_78 : decode method_3_code 78 = .ok (.iconst 2, 1) := by decide +kernel
theorem dE3_79 : decode method_3_code 79 = .ok (.if_icmp .lt 14, 3) := by decide +kernel
theorem dE3_82 : decode method_3_code 82 = .ok (.dload_n 3, 1) := by decide +kernel
theorem dE3_83 : decode method_3_code 83 = .ok (.dload 9, 2) := by decide +kernel
theorem dE3_85 : decode method_3_code 85 = .ok (.dcmp .g, 1) := by decide +kernel
theorem dE3_86 : decode method_3_code 86 = .ok (.ifCond .ge 7, 3) := by decide +kernel
theorem dE3_89 : decode method_3_code 89 = .ok (.iconst 1, 1) := by decide +kernel
theorem dE3_90 : decode method_3_code 90 = .ok (.goto 4, 3) := by decide +kernel
theorem dE3_93 : decode method_3_code 93 = .ok (.iconst 0, 1) := by decide +kernel
theorem dE3_94 : decode method_3_code 94 = .ok (.istore 17, 2) := by decide +kernel
theorem dE3_96 : decode method_3_code 96 = .ok (.iload_n 0, 1) := by decide +kernel
theorem dE3_97 : decode method_3_code 97 = .ok (.iconst 3, 1) := by decide +kernel
theorem dE3_98 : decode method_3_code 98 = .ok (.if_icmp .lt 15, 3) := by decide +kernel
theorem dE3_101 : decode method_3_code 101 = .ok (.dload 5, 2) := by decide +kernel
theorem dE3_103 : decode method_3_code 103 = .ok (.dload 11, 2) := by decide +kernel
theorem dE3_105 : decode method_3_code 105 = .ok (.dcmp .g, 1) := by decide +kernel
theorem dE3_106 : decode method_3_code 106 = .ok (.ifCond .ge 7, 3) := by decide +kernel
theorem dE3_109 : decode method_3_code 109 = .ok (.iconst 1, 1) := by decide +kernel
theorem dE3_110 : decode method_3_code 110 = .ok (.goto 4, 3) := by decide +kernel
theorem dE3_113 : decode method_3_code 113 = .ok (.iconst 0, 1) := by decide +kernel
theorem dE3_114 : decode method_3_code 114 = .ok (.istore 18, 2) := by decide +kernel
theorem dE3_116 : decode method_3_code 116 = .ok (.iload 13, 2) := by decide +kernel
theorem dE3_118 : decode method_3_code 118 = .ok (.ifCond .eq 32, 3) := by decide +kernel
theorem dE3_121 : decode method_3_code 121 = .ok (.iload 14, 2) := by decide +kernel
theorem dE3_123 : decode method_3_code 123 = .ok (.ifCond .eq 27, 3) := by decide +kernel
theorem dE3_126 : decode method_3_code 126 = .ok (.iload 15, 2) := by decide +kernel
theorem dE3_128 : decode method_3_code 128 = .ok (.ifCond .eq 22, 3) := by decide +kernel
theorem dE3_131 : decode method_3_code 131 = .ok (.iload 16, 2) := by decide +kernel
theorem dE3_133 : decode method_3_code 133 = .ok (.ifCond .ne 13, 3) := by decide +kernel
theorem dE3_136 : decode method_3_code 136 = .ok (.iload 17, 2) := by decide +kernel
theorem dE3_138 : decode method_3_code 138 = .ok (.ifCond .ne 8, 3) := by decide +kernel
theorem dE3_141 : decode method_3_code 141 = .ok (.iload 18, 2) := by decide +kernel
theorem dE3_143 : decode method_3_code 143 = .ok (.ifCond .eq 7, 3) := by decide +kernel
theorem dE3_146 : decode method_3_code 146 = .ok (.iconst 1, 1) := by decide +kernel
theorem dE3_147 : decode method_3_code 147 = .ok (.goto 4, 3) := by decide +kernel
theorem dE3_150 : decode method_3_code 150 = .ok (.iconst 0, 1) := by decide +kernel
theorem dE3_151 : decode method_3_code 151 = .ok (.ireturn, 1) := by decide +kernel
theorem efE3 (m : MethodId) (x0 : Int32) (x1 : UInt64) (x2 : UInt64) (x3 : UInt64) (x4 : UInt64) (x5 : UInt64) (x6 : UInt64) : entryFrame m #[(.int x0), (.double x1), (.double x2), (.double x3), (.double x4), (.double x5), (.double x6)] 19 = (mkF m 0 #[.val (.int x0), .val (.double x1), .second, .val (.double x2), .second, .val (.double x3), .second, .val (.double x4), .second, .val (.double x5), .second, .val (.double x6), .second, .unset, .unset, .unset, .unset, .unset, .unset] []) := by first | (simp [entryFrame, mkF, argsToLocals, Value.category]; done) | rfl
def QE3 (Z : State) (x0 : Int64) (x1 : Int64) (x2 : Int64) (y0 : Int64) (y1 : Int64) (y2 : Int64) (h0 : Heap) (n0 : Nat) (v : Option Value) (h : Heap) (L : List Loc) : Prop := v = some (.int (if own_beats [(x0, y0), (x1, y1), (x2, y2)] false = true then (1 : Int32) else 0)) ∧ Fr n0 L ∧ h = h0
set_option maxRecDepth 65536 in
set_option maxHeartbeats 40000000 in
theorem rmE3 (l : Launch) (Z : State) (a0 : Array Value) (hw : ∀ d ∈ tables_1, d.before a0 Z = true) (ws : List Jvm.Cond) (x0 : Int64) (x1 : Int64) (x2 : Int64) (y0 : Int64) (y1 : Int64) (y2 : Int64) (h0 : Heap) (n0 : Nat) (Z0 : n0 ≤ h0.size) (H0 : OBd 2147483648 x0) (H1 : OBd 2147483648 x1) (H2 : OBd 2147483648 x2) (H3 : OBd 2147483648 y0) (H4 : OBd 2147483648 y1) (H5 : OBd 2147483648 y2) :
    MetFree l (⟨"com/example/pareto_loom/paretoloom/model/NondominatedSetBeatsPinLaw", "expect", "(IDDDDDD)Z"⟩ : MethodName) (head1 (Jvm.Cond.code (⟨"com/example/pareto_loom/paretoloom/model/NondominatedSetBeatsPinLaw", "expect", "(IDDDDDD)Z"⟩ : MethodName) method_3_code 19 (some .boolean) :: ws) ({ frames := 0, cells := 0, slots := 0, locals := 0 } : Room)) (fun a U => a = #[(.int (3 : Int32)), (.double (FP.l2d x0)), (.double (FP.l2d x1)), (.double (FP.l2d x2)), (.double (FP.l2d y0)), (.double (FP.l2d y1)), (.double (FP.l2d y2))] ∧ Z.Warmed39 U.vm ∧ U.heap = h0) (fun _ _ _ _ _ => True) (fun _ U o U' => ∃ v L, o = .returned v ∧ QE3 Z x0 x1 x2 y0 y1 y2 h0 n0 v U'.heap L ∧ FrameEnd U o U' L ({ frames := 0, cells := 0, slots := 0, locals := 0 } : Room).cells ({ frames := 0, cells := 0, slots := 0, locals := 0 } : Room).slots) := by
  refine MetFree.of_bodySF (plainFor_of_name pn_com_example_pareto_loom_paretoloom_model_NondominatedSetBeatsPinLaw) hisR ?_
  intro p e s m args below meth c s₁ Bd hml0 hP hK
  obtain ⟨rfl, hZ, hh⟩ := hP
  have hx := Bd.exec
  have hby := Bd.bytes
  have hml : c.maxLocals = 19 := hml0
  have hown : s.vm.findClass "com/example/pareto_loom/paretoloom/model/NondominatedSetBeatsPinLaw" = some m.cls := findClass_of_methodNamed Bd.named
  have hnm := (name_of_methodNamed Bd.named Bd.method).1
  have X0 : Stand p l e ({ frames := 0, cells := 0, slots := 0, locals := 0 } : Room) s m #[(.int (3 : Int32)), (.double (FP.l2d x0)), (.double (FP.l2d x1)), (.double (FP.l2d x2)), (.double (FP.l2d y0)), (.double (FP.l2d y1)), (.double (FP.l2d y2))] below meth c s₁ [] 0 0 := Stand.of_body Bd
  have e0 : s₁.heap = h0 := by rw [← hh, Bd.state]; rfl
  have N0 := Fr.nil n0
  have pre0 : ∀ t, Steps p.tables e below (s₁.setTop (mkF m 0 #[.val (.int (3 : Int32)), .val (.double (FP.l2d x0)), .second, .val (.double (FP.l2d x1)), .second, .val (.double (FP.l2d x2)), .second, .val (.double (FP.l2d y0)), .second, .val (.double (FP.l2d y1)), .second, .val (.double (FP.l2d y2)), .second, .unset, .unset, .unset, .unset, .unset, .unset] [])) t → Steps p.tables e below (s₁.setTop (entryFrame m #[(.int (3 : Int32)), (.double (FP.l2d x0)), (.double (FP.l2d x1)), (.double (FP.l2d x2)), (.double (FP.l2d y0)), (.double (FP.l2d y1)), (.double (FP.l2d y2))] 19)) t := fun t k => castTop (efE3 m (3 : Int32) (FP.l2d x0) (FP.l2d x1) (FP.l2d x2) (FP.l2d y0) (FP.l2d y1) (FP.l2d y2)) k
  have cn1 : ∀ t, Steps p.tables e below (s₁.setTop (mkF m 9 #[.val (.int (3 : Int32)), .val (.double (FP.l2d x0)), .second, .val (.double (FP.l2d x1)), .second, .val (.double (FP.l2d x2)), .second, .val (.double (FP.l2d y0)), .second, .val (.double (FP.l2d y1)), .second, .val (.double (FP.l2d y2)), .second, .unset, .unset, .unset, .unset, .unset, .unset] [(.int (XT.cmpL x0 y0))])) t → Steps p.tables e below (s₁.setTop (entryFrame m #[(.int (3 : Int32)), (.double (FP.l2d x0)), (.double (FP.l2d x1)), (.double (FP.l2d x2)), (.double (FP.l2d y0)), (.double (FP.l2d y1)), (.double (FP.l2d y2))] 19)) t := by
    intro t k
    refine pre0 t ?_
    refine o_iloadN X0.here hx (hb hby dE3_0) rfl ?_
    refine o_iconstV X0.here hx (1 : Int32) (hb hby dE3_1) rfl ?_
    show Steps p.tables e below (s₁.setTop (mkF m 2 #[.val (.int (3 : Int32)), .val (.double (FP.l2d x0)), .second, .val (.double (FP.l2d x1)), .second, .val (.double (FP.l2d x2)), .second, .val (.double (FP.l2d y0)), .second, .val (.double (FP.l2d y1)), .second, .val (.double (FP.l2d y2)), .second, .unset, .unset, .unset, .unset, .unset, .unset] [(.int (1 : Int32)), (.int (3 : Int32))])) _
    refine o_icmpNo X0.here hx (hb hby dE3_2) (XT.ii_lt_f (by decide)) ?_
    refine o_dloadN X0.here hx (hb hby dE3_5) rfl ?_
    refine o_dload X0.here hx (hb hby dE3_6) rfl ?_
    refine o_dcmpS X0.here hx (hb hby dE3_8) (v := XT.cmpL x0 y0) (dcmpV_w (own_bd_b53 H0 (by decide)) (own_bd_b53 H3 (by decide)) _) ?_
    exact k
  have cn2 : ∀ t, Steps p.tables e below (s₁.setTop (mkF m 17 #[.val (.int (3 : Int32)), .val (.double (FP.l2d x0)), .second, .val (.double (FP.l2d x1)), .second, .val (.double (FP.l2d x2)), .second, .val (.double (FP.l2d y0)), .second, .val (.double (FP.l2d y1)), .second, .val (.double (FP.l2d y2)), .second, .unset, .unset, .unset, .unset, .unset, .unset] [(.int (if y0 < x0 then (0 : Int32) else 1))])) t → Steps p.tables e below (s₁.setTop (entryFrame m #[(.int (3 : Int32)), (.double (FP.l2d x0)), (.double (FP.l2d x1)), (.double (FP.l2d x2)), (.double (FP.l2d y0)), (.double (FP.l2d y1)), (.double (FP.l2d y2))] 19)) t := by
    intro t k
    by_cases h9_3 : y0 < x0
    · -- pc 9 taken
      have cn4 : ∀ t, Steps p.tables e below (s₁.setTop (mkF m 17 #[.val (.int (3 : Int32)), .val (.double (FP.l2d x0)), .second, .val (.double (FP.l2d x1)), .second, .val (.double (FP.l2d x2)), .second, .val (.double (FP.l2d y0)), .second, .val (.double (FP.l2d y1)), .second, .val (.double (FP.l2d y2)), .second, .unset, .unset, .unset, .unset, .unset, .unset] [(.int (0 : Int32))])) t → Steps p.tables e below (s₁.setTop (entryFrame m #[(.int (3 : Int32)), (.double (FP.l2d x0)), (.double (FP.l2d x1)), (.double (FP.l2d x2)), (.double (FP.l2d y0)), (.double (FP.l2d y1)), (.double (FP.l2d y2))] 19)) t := by
        intro t k
        refine cn1 t ?_
        refine o_ifYes X0.here hx (pc' := 16) (hb hby dE3_9) (XT.ll_gt_t h9_3) (by decide) (by decide) ?_
        refine o_iconstV X0.here hx (0 : Int32) (hb hby dE3_16) rfl ?_
        exact k
      rw [show (if y0 < x0 then (0 : Int32) else 1) = (0 : Int32) from (if_pos h9_3)] at k
      exact cn4 t k
    · -- pc 9 not taken
      have cn5 : ∀ t, Steps p.tables e below (s₁.setTop (mkF m 17 #[.val (.int (3 : Int32)), .val (.double (FP.l2d x0)), .second, .val (.double (FP.l2d x1)), .second, .val (.double (FP.l2d x2)), .second, .val (.double (FP.l2d y0)), .second, .val (.double (FP.l2d y1)), .second, .val (.double (FP.l2d y2)), .second, .unset, .unset, .unset, .unset, .unset, .unset] [(.int (1 : Int32))])) t → Steps p.tables e below (s₁.setTop (entryFrame m #[(.int (3 : Int32)), (.double (FP.l2d x0)), (.double (FP.l2d x1)), (.double (FP.l2d x2)), (.double (FP.l2d y0)), (.double (FP.l2d y1)), (.double (FP.l2d y2))] 19)) t := by
        intro t k
        refine cn1 t ?_
        refine o_ifNo X0.here hx (hb hby dE3_9) (XT.ll_gt_f h9_3) ?_
        refine o_iconstV X0.here hx (1 : Int32) (hb hby dE3_12) rfl ?_
        show Steps p.tables e below (s₁.setTop (mkF m 13 #[.val (.int (3 : Int32)), .val (.double (FP.l2d x0)), .second, .val (.double (FP.l2d x1)), .second, .val (.double (FP.l2d x2)), .second, .val (.double (FP.l2d y0)), .second, .val (.double (FP.l2d y1)), .second, .val (.double (FP.l2d y2)), .second, .unset, .unset, .unset, .unset, .unset, .unset] [(.int (1 : Int32))])) _
        refine o_goto X0.here hx (pc' := 17) (hb hby dE3_13) (by decide) (by decide) ?_
        exact k
      rw [show (if y0 < x0 then (0 : Int32) else 1) = (1 : Int32) from (if_neg h9_3)] at k
      exact cn5 t k
  have cn6 : ∀ t, Steps p.tables e below (s₁.setTop (mkF m 28 #[.val (.int (3 : Int32)), .val (.double (FP.l2d x0)), .second, .val (.double (FP.l2d x1)), .second, .val (.double (FP.l2d x2)), .second, .val (.double (FP.l2d y0)), .second, .val (.double (FP.l2d y1)), .second, .val (.double (FP.l2d y2)), .second, .val (.int (if y0 < x0 then (0 : Int32) else 1)), .unset, .unset, .unset, .unset, .unset] [(.int (XT.cmpL x1 y1))])) t → Steps p.tables e below (s₁.setTop (entryFrame m #[(.int (3 : Int32)), (.double (FP.l2d x0)), (.double (FP.l2d x1)), (.double (FP.l2d x2)), (.double (FP.l2d y0)), (.double (FP.l2d y1)), (.double (FP.l2d y2))] 19)) t := by
    intro t k
    refine cn2 t ?_
    refine o_istore X0.here hx (hb hby dE3_17) (l' := #[.val (.int (3 : Int32)), .val (.double (FP.l2d x0)), .second, .val (.double (FP.l2d x1)), .second, .val (.double (FP.l2d x2)), .second, .val (.double (FP.l2d y0)), .second, .val (.double (FP.l2d y1)), .second, .val (.double (FP.l2d y2)), .second, .val (.int (if y0 < x0 then (0 : Int32) else 1)), .unset, .unset, .unset, .unset, .unset]) rfl ?_
    refine o_iloadN X0.here hx (hb hby dE3_19) rfl ?_
    refine o_iconstV X0.here hx (2 : Int32) (hb hby dE3_20) rfl ?_
    show Steps p.tables e below (s₁.setTop (mkF m 21 #[.val (.int (3 : Int32)), .val (.double (FP.l2d x0)), .second, .val (.double (FP.l2d x1)), .second, .val (.double (FP.l2d x2)), .second, .val (.double (FP.l2d y0)), .second, .val (.double (FP.l2d y1)), .second, .val (.double (FP.l2d y2)), .second, .val (.int (if y0 < x0 then (0 : Int32) else 1)), .unset, .unset, .unset, .unset, .unset] [(.int (2 : Int32)), (.int (3 : Int32))])) _
    refine o_icmpNo X0.here hx (hb hby dE3_21) (XT.ii_lt_f (by decide)) ?_
    refine o_dloadN X0.here hx (hb hby dE3_24) rfl ?_
    refine o_dload X0.here hx (hb hby dE3_25) rfl ?_
    refine o_dcmpS X0.here hx (hb hby dE3_27) (v := XT.cmpL x1 y1) (dcmpV_w (own_bd_b53 H1 (by decide)) (own_bd_b53 H4 (by decide)) _) ?_
    exact k
  have cn7 : ∀ t, Steps p.tables e below (s₁.setTop (mkF m 36 #[.val (.int (3 : Int32)), .val (.double (FP.l2d x0)), .second, .val (.double (FP.l2d x1)), .second, .val (.double (FP.l2d x2)), .second, .val (.double (FP.l2d y0)), .second, .val (.double (FP.l2d y1)), .second, .val (.double (FP.l2d y2)), .second, .val (.int (if y0 < x0 then (0 : Int32) else 1)), .unset, .unset, .unset, .unset, .unset] [(.int (if y1 < x1 then (0 : Int32) else 1))])) t → Steps p.tables e below (s₁.setTop (entryFrame m #[(.int (3 : Int32)), (.double (FP.l2d x0)), (.double (FP.l2d x1)), (.double (FP.l2d x2)), (.double (FP.l2d y0)), (.double (FP.l2d y1)), (.double (FP.l2d y2))] 19)) t := by
    intro t k
    by_cases h28_8 : y1 < x1
    · -- pc 28 taken
      have cn9 : ∀ t, Steps p.tables e below (s₁.setTop (mkF m 36 #[.val (.int (3 : Int32)), .val (.double (FP.l2d x0)), .second, .val (.double (FP.l2d x1)), .second, .val (.double (FP.l2d x2)), .second, .val (.double (FP.l2d y0)), .second, .val (.double (FP.l2d y1)), .second, .val (.double (FP.l2d y2)), .second, .val (.int (if y0 < x0 then (0 : Int32) else 1)), .unset, .unset, .unset, .unset, .unset] [(.int (0 : Int32))])) t → Steps p.tables e below (s₁.setTop (entryFrame m #[(.int (3 : Int32)), (.double (FP.l2d x0)), (.double (FP.l2d x1)), (.double (FP.l2d x2)), (.double (FP.l2d y0)), (.double (FP.l2d y1)), (.double (FP.l2d y2))] 19)) t := by
        intro t k
        refine cn6 t ?_
        refine o_ifYes X0.here hx (pc' := 35) (hb hby dE3_28) (XT.ll_gt_t h28_8) (by decide) (by decide) ?_
        refine o_iconstV X0.here hx (0 : Int32) (hb hby dE3_35) rfl ?_
        exact k
      rw [show (if y1 < x1 then (0 : Int32) else 1) = (0 : Int32) from (if_pos h28_8)] at k
      exact cn9 t k
    · -- pc 28 not taken
      have cn10 : ∀ t, Steps p.tables e below (s₁.setTop (mkF m 36 #[.val (.int (3 : Int32)), .val (.double (FP.l2d x0)), .second, .val (.double (FP.l2d x1)), .second, .val (.double (FP.l2d x2)), .second, .val (.double (FP.l2d y0)), .second, .val (.double (FP.l2d y1)), .second, .val (.double (FP.l2d y2)), .second, .val (.int (if y0 < x0 then (0 : Int32) else 1)), .unset, .unset, .unset, .unset, .unset] [(.int (1 : Int32))])) t → Steps p.tables e below (s₁.setTop (entryFrame m #[(.int (3 : Int32)), (.double (FP.l2d x0)), (.double (FP.l2d x1)), (.double (FP.l2d x2)), (.double (FP.l2d y0)), (.double (FP.l2d y1)), (.double (FP.l2d y2))] 19)) t := by
        intro t k
        refine cn6 t ?_
        refine o_ifNo X0.here hx (hb hby dE3_28) (XT.ll_gt_f h28_8) ?_
        refine o_iconstV X0.here hx (1 : Int32) (hb hby dE3_31) rfl ?_
        show Steps p.tables e below (s₁.setTop (mkF m 32 #[.val (.int (3 : Int32)), .val (.double (FP.l2d x0)), .second, .val (.double (FP.l2d x1)), .second, .val (.double (FP.l2d x2)), .second, .val (.double (FP.l2d y0)), .second, .val (.double (FP.l2d y1)), .second, .val (.double (FP.l2d y2)), .second, .val (.int (if y0 < x0 then (0 : Int32) else 1)), .unset, .unset, .unset, .unset, .unset] [(.int (1 : Int32))])) _
        refine o_goto X0.here hx (pc' := 36) (hb hby dE3_32) (by decide) (by decide) ?_
        exact k
      rw [show (if y1 < x1 then (0 : Int32) else 1) = (1 : Int32) from (if_neg h28_8)] at k
      exact cn10 t k
  have cn11 : ∀ t, Steps p.tables e below (s₁.setTop (mkF m 48 #[.val (.int (3 : Int32)), .val (.double (FP.l2d x0)), .second, .val (.double (FP.l2d x1)), .second, .val (.double (FP.l2d x2)), .second, .val (.double (FP.l2d y0)), .second, .val (.double (FP.l2d y1)), .second, .val (.double (FP.l2d y2)), .second, .val (.int (if y0 < x0 then (0 : Int32) else 1)), .val (.int (if y1 < x1 then (0 : Int32) else 1)), .unset, .unset, .unset, .unset] [(.int (XT.cmpL x2 y2))])) t → Steps p.tables e below (s₁.setTop (entryFrame m #[(.int (3 : Int32)), (.double (FP.l2d x0)), (.double (FP.l2d x1)), (.double (FP.l2d x2)), (.double (FP.l2d y0)), (.double (FP.l2d y1)), (.double (FP.l2d y2))] 19)) t := by
    intro t k
    refine cn7 t ?_
    refine o_istore X0.here hx (hb hby dE3_36) (l' := #[.val (.int (3 : Int32)), .val (.double (FP.l2d x0)), .second, .val (.double (FP.l2d x1)), .second, .val (.double (FP.l2d x2)), .second, .val (.double (FP.l2d y0)), .second, .val (.double (FP.l2d y1)), .second, .val (.double (FP.l2d y2)), .second, .val (.int (if y0 < x0 then (0 : Int32) else 1)), .val (.int (if y1 < x1 then (0 : Int32) else 1)), .unset, .unset, .unset, .unset]) rfl ?_
    refine o_iloadN X0.here hx (hb hby dE3_38) rfl ?_
    refine o_iconstV X0.here hx (3 : Int32) (hb hby dE3_39) rfl ?_
    show Steps p.tables e below (s₁.setTop (mkF m 40 #[.val (.int (3 : Int32)), .val (.double (FP.l2d x0)), .second, .val (.double (FP.l2d x1)), .second, .val (.double (FP.l2d x2)), .second, .val (.double (FP.l2d y0)), .second, .val (.double (FP.l2d y1)), .second, .val (.double (FP.l2d y2)), .second, .val (.int (if y0 < x0 then (0 : Int32) else 1)), .val (.int (if y1 < x1 then (0 : Int32) else 1)), .unset, .unset, .unset, .unset] [(.int (3 : Int32)), (.int (3 : Int32))])) _
    refine o_icmpNo X0.here hx (hb hby dE3_40) (XT.ii_lt_f (by decide)) ?_
    refine o_dload X0.here hx (hb hby dE3_43) rfl ?_
    refine o_dload X0.here hx (hb hby dE3_45) rfl ?_
    refine o_dcmpS X0.here hx (hb hby dE3_47) (v := XT.cmpL x2 y2) (dcmpV_w (own_bd_b53 H2 (by decide)) (own_bd_b53 H5 (by decide)) _) ?_
    exact k
  have cn12 : ∀ t, Steps p.tables e below (s₁.setTop (mkF m 56 #[.val (.int (3 : Int32)), .val (.double (FP.l2d x0)), .second, .val (.double (FP.l2d x1)), .second, .val (.double (FP.l2d x2)), .second, .val (.double (FP.l2d y0)), .second, .val (.double (FP.l2d y1)), .second, .val (.double (FP.l2d y2)), .second, .val (.int (if y0 < x0 then (0 : Int32) else 1)), .val (.int (if y1 < x1 then (0 : Int32) else 1)), .unset, .unset, .unset, .unset] [(.int (if y2 < x2 then (0 : Int32) else 1))])) t → Steps p.tables e below (s₁.setTop (entryFrame m #[(.int (3 : Int32)), (.double (FP.l2d x0)), (.double (FP.l2d x1)), (.double (FP.l2d x2)), (.double (FP.l2d y0)), (.double (FP.l2d y1)), (.double (FP.l2d y2))] 19)) t := by
    intro t k
    by_cases h48_13 : y2 < x2
    · -- pc 48 taken
      have cn14 : ∀ t, Steps p.tables e below (s₁.setTop (mkF m 56 #[.val (.int (3 : Int32)), .val (.double (FP.l2d x0)), .second, .val (.double (FP.l2d x1)), .second, .val (.double (FP.l2d x2)), .second, .val (.double (FP.l2d y0)), .second, .val (.double (FP.l2d y1)), .second, .val (.double (FP.l2d y2)), .second, .val (.int (if y0 < x0 then (0 : Int32) else 1)), .val (.int (if y1 < x1 then (0 : Int32) else 1)), .unset, .unset, .unset, .unset] [(.int (0 : Int32))])) t → Steps p.tables e below (s₁.setTop (entryFrame m #[(.int (3 : Int32)), (.double (FP.l2d x0)), (.double (FP.l2d x1)), (.double (FP.l2d x2)), (.double (FP.l2d y0)), (.double (FP.l2d y1)), (.double (FP.l2d y2))] 19)) t := by
        intro t k
        refine cn11 t ?_
        refine o_ifYes X0.here hx (pc' := 55) (hb hby dE3_48) (XT.ll_gt_t h48_13) (by decide) (by decide) ?_
        refine o_iconstV X0.here hx (0 : Int32) (hb hby dE3_55) rfl ?_
        exact k
      rw [show (if y2 < x2 then (0 : Int32) else 1) = (0 : Int32) from (if_pos h48_13)] at k
      exact cn14 t k
    · -- pc 48 not taken
      have cn15 : ∀ t, Steps p.tables e below (s₁.setTop (mkF m 56 #[.val (.int (3 : Int32)), .val (.double (FP.l2d x0)), .second, .val (.double (FP.l2d x1)), .second, .val (.double (FP.l2d x2)), .second, .val (.double (FP.l2d y0)), .second, .val (.double (FP.l2d y1)), .second, .val (.double (FP.l2d y2)), .second, .val (.int (if y0 < x0 then (0 : Int32) else 1)), .val (.int (if y1 < x1 then (0 : Int32) else 1)), .unset, .unset, .unset, .unset] [(.int (1 : Int32))])) t → Steps p.tables e below (s₁.setTop (entryFrame m #[(.int (3 : Int32)), (.double (FP.l2d x0)), (.double (FP.l2d x1)), (.double (FP.l2d x2)), (.double (FP.l2d y0)), (.double (FP.l2d y1)), (.double (FP.l2d y2))] 19)) t := by
        intro t k
        refine cn11 t ?_
        refine o_ifNo X0.here hx (hb hby dE3_48) (XT.ll_gt_f h48_13) ?_
        refine o_iconstV X0.here hx (1 : Int32) (hb hby dE3_51) rfl ?_
        show Steps p.tables e below (s₁.setTop (mkF m 52 #[.val (.int (3 : Int32)), .val (.double (FP.l2d x0)), .second, .val (.double (FP.l2d x1)), .second, .val (.double (FP.l2d x2)), .second, .val (.double (FP.l2d y0)), .second, .val (.double (FP.l2d y1)), .second, .val (.double (FP.l2d y2)), .second, .val (.int (if y0 < x0 then (0 : Int32) else 1)), .val (.int (if y1 < x1 then (0 : Int32) else 1)), .unset, .unset, .unset, .unset] [(.int (1 : Int32))])) _
        refine o_goto X0.here hx (pc' := 56) (hb hby dE3_52) (by decide) (by decide) ?_
        exact k
      rw [show (if y2 < x2 then (0 : Int32) else 1) = (1 : Int32) from (if_neg h48_13)] at k
      exact cn15 t k
  have cn16 : ∀ t, Steps p.tables e below (s₁.setTop (mkF m 67 #[.val (.int (3 : Int32)), .val (.double (FP.l2d x0)), .second, .val (.double (FP.l2d x1)), .second, .val (.double (FP.l2d x2)), .second, .val (.double (FP.l2d y0)), .second, .val (.double (FP.l2d y1)), .second, .val (.double (FP.l2d y2)), .second, .val (.int (if y0 < x0 then (0 : Int32) else 1)), .val (.int (if y1 < x1 then (0 : Int32) else 1)), .val (.int (if y2 < x2 then (0 : Int32) else 1)), .unset, .unset, .unset] [(.int (XT.cmpL x0 y0))])) t → Steps p.tables e below (s₁.setTop (entryFrame m #[(.int (3 : Int32)), (.double (FP.l2d x0)), (.double (FP.l2d x1)), (.double (FP.l2d x2)), (.double (FP.l2d y0)), (.double (FP.l2d y1)), (.double (FP.l2d y2))] 19)) t := by
    intro t k
    refine cn12 t ?_
    refine o_istore X0.here hx (hb hby dE3_56) (l' := #[.val (.int (3 : Int32)), .val (.double (FP.l2d x0)), .second, .val (.double (FP.l2d x1)), .second, .val (.double (FP.l2d x2)), .second, .val (.double (FP.l2d y0)), .second, .val (.double (FP.l2d y1)), .second, .val (.double (FP.l2d y2)), .second, .val (.int (if y0 < x0 then (0 : Int32) else 1)), .val (.int (if y1 < x1 then (0 : Int32) else 1)), .val (.int (if y2 < x2 then (0 : Int32) else 1)), .unset, .unset, .unset]) rfl ?_
    refine o_iloadN X0.here hx (hb hby dE3_58) rfl ?_
    refine o_iconstV X0.here hx (1 : Int32) (hb hby dE3_59) rfl ?_
    show Steps p.tables e below (s₁.setTop (mkF m 60 #[.val (.int (3 : Int32)), .val (.double (FP.l2d x0)), .second, .val (.double (FP.l2d x1)), .second, .val (.double (FP.l2d x2)), .second, .val (.double (FP.l2d y0)), .second, .val (.double (FP.l2d y1)), .second, .val (.double (FP.l2d y2)), .second, .val (.int (if y0 < x0 then (0 : Int32) else 1)), .val (.int (if y1 < x1 then (0 : Int32) else 1)), .val (.int (if y2 < x2 then (0 : Int32) else 1)), .unset, .unset, .unset] [(.int (1 : Int32)), (.int (3 : Int32))])) _
    refine o_icmpNo X0.here hx (hb hby dE3_60) (XT.ii_lt_f (by decide)) ?_
    refine o_dloadN X0.here hx (hb hby dE3_63) rfl ?_
    refine o_dload X0.here hx (hb hby dE3_64) rfl ?_
    refine o_dcmpS X0.here hx (hb hby dE3_66) (v := XT.cmpL x0 y0) (dcmpV_w (own_bd_b53 H0 (by decide)) (own_bd_b53 H3 (by decide)) _) ?_
    exact k
  have cn17 : ∀ t, Steps p.tables e below (s₁.setTop (mkF m 75 #[.val (.int (3 : Int32)), .val (.double (FP.l2d x0)), .second, .val (.double (FP.l2d x1)), .second, .val (.double (FP.l2d x2)), .second, .val (.double (FP.l2d y0)), .second, .val (.double (FP.l2d y1)), .second, .val (.double (FP.l2d y2)), .second, .val (.int (if y0 < x0 then (0 : Int32) else 1)), .val (.int (if y1 < x1 then (0 : Int32) else 1)), .val (.int (if y2 < x2 then (0 : Int32) else 1)), .unset, .unset, .unset] [(.int (if x0 < y0 then (1 : Int32) else 0))])) t → Steps p.tables e below (s₁.setTop (entryFrame m #[(.int (3 : Int32)), (.double (FP.l2d x0)), (.double (FP.l2d x1)), (.double (FP.l2d x2)), (.double (FP.l2d y0)), (.double (FP.l2d y1)), (.double (FP.l2d y2))] 19)) t := by
    intro t k
    by_cases h67_18 : x0 < y0
    · -- pc 67 not taken
      have cn19 : ∀ t, Steps p.tables e below (s₁.setTop (mkF m 75 #[.val (.int (3 : Int32)), .val (.double (FP.l2d x0)), .second, .val (.double (FP.l2d x1)), .second, .val (.double (FP.l2d x2)), .second, .val (.double (FP.l2d y0)), .second, .val (.double (FP.l2d y1)), .second, .val (.double (FP.l2d y2)), .second, .val (.int (if y0 < x0 then (0 : Int32) else 1)), .val (.int (if y1 < x1 then (0 : Int32) else 1)), .val (.int (if y2 < x2 then (0 : Int32) else 1)), .unset, .unset, .unset] [(.int (1 : Int32))])) t → Steps p.tables e below (s₁.setTop (entryFrame m #[(.int (3 : Int32)), (.double (FP.l2d x0)), (.double (FP.l2d x1)), (.double (FP.l2d x2)), (.double (FP.l2d y0)), (.double (FP.l2d y1)), (.double (FP.l2d y2))] 19)) t := by
        intro t k
        refine cn16 t ?_
        refine o_ifNo X0.here hx (hb hby dE3_67) (XT.ll_ge_f h67_18) ?_
        refine o_iconstV X0.here hx (1 : Int32) (hb hby dE3_70) rfl ?_
        show Steps p.tables e below (s₁.setTop (mkF m 71 #[.val (.int (3 : Int32)), .val (.double (FP.l2d x0)), .second, .val (.double (FP.l2d x1)), .second, .val (.double (FP.l2d x2)), .second, .val (.double (FP.l2d y0)), .second, .val (.double (FP.l2d y1)), .second, .val (.double (FP.l2d y2)), .second, .val (.int (if y0 < x0 then (0 : Int32) else 1)), .val (.int (if y1 < x1 then (0 : Int32) else 1)), .val (.int (if y2 < x2 then (0 : Int32) else 1)), .unset, .unset, .unset] [(.int (1 : Int32))])) _
        refine o_goto X0.here hx (pc' := 75) (hb hby dE3_71) (by decide) (by decide) ?_
        exact k
      rw [show (if x0 < y0 then (1 : Int32) else 0) = (1 : Int32) from (if_pos h67_18)] at k
      exact cn19 t k
    · -- pc 67 taken
      have cn20 : ∀ t, Steps p.tables e below (s₁.setTop (mkF m 75 #[.val (.int (3 : Int32)), .val (.double (FP.l2d x0)), .second, .val (.double (FP.l2d x1)), .second, .val (.double (FP.l2d x2)), .second, .val (.double (FP.l2d y0)), .second, .val (.double (FP.l2d y1)), .second, .val (.double (FP.l2d y2)), .second, .val (.int (if y0 < x0 then (0 : Int32) else 1)), .val (.int (if y1 < x1 then (0 : Int32) else 1)), .val (.int (if y2 < x2 then (0 : Int32) else 1)), .unset, .unset, .unset] [(.int (0 : Int32))])) t → Steps p.tables e below (s₁.setTop (entryFrame m #[(.int (3 : Int32)), (.double (FP.l2d x0)), (.double (FP.l2d x1)), (.double (FP.l2d x2)), (.double (FP.l2d y0)), (.double (FP.l2d y1)), (.double (FP.l2d y2))] 19)) t := by
        intro t k
        refine cn16 t ?_
        refine o_ifYes X0.here hx (pc' := 74) (hb hby dE3_67) (XT.ll_ge_t h67_18) (by decide) (by decide) ?_
        refine o_iconstV X0.here hx (0 : Int32) (hb hby dE3_74) rfl ?_
        exact k
      rw [show (if x0 < y0 then (1 : Int32) else 0) = (0 : Int32) from (if_neg h67_18)] at k
      exact cn20 t k
  have cn21 : ∀ t, Steps p.tables e below (s₁.setTop (mkF m 86 #[.val (.int (3 : Int32)), .val (.double (FP.l2d x0)), .second, .val (.double (FP.l2d x1)), .second, .val (.double (FP.l2d x2)), .second, .val (.double (FP.l2d y0)), .second, .val (.double (FP.l2d y1)), .second, .val (.double (FP.l2d y2)), .second, .val (.int (if y0 < x0 then (0 : Int32) else 1)), .val (.int (if y1 < x1 then (0 : Int32) else 1)), .val (.int (if y2 < x2 then (0 : Int32) else 1)), .val (.int (if x0 < y0 then (1 : Int32) else 0)), .unset, .unset] [(.int (XT.cmpL x1 y1))])) t → Steps p.tables e below (s₁.setTop (entryFrame m #[(.int (3 : Int32)), (.double (FP.l2d x0)), (.double (FP.l2d x1)), (.double (FP.l2d x2)), (.double (FP.l2d y0)), (.double (FP.l2d y1)), (.double (FP.l2d y2))] 19)) t := by
    intro t k
    refine cn17 t ?_
    refine o_istore X0.here hx (hb hby dE3_75) (l' := #[.val (.int (3 : Int32)), .val (.double (FP.l2d x0)), .second, .val (.double (FP.l2d x1)), .second, .val (.double (FP.l2d x2)), .second, .val (.double (FP.l2d y0)), .second, .val (.double (FP.l2d y1)), .second, .val (.double (FP.l2d y2)), .second, .val (.int (if y0 < x0 then (0 : Int32) else 1)), .val (.int (if y1 < x1 then (0 : Int32) else 1)), .val (.int (if y2 < x2 then (0 : Int32) else 1)), .val (.int (if x0 < y0 then (1 : Int32) else 0)), .unset, .unset]) rfl ?_
    refine o_iloadN X0.here hx (hb hby dE3_77) rfl ?_
    refine o_iconstV X0.here hx (2 : Int32) (hb hby dE3_78) rfl ?_
    show Steps p.tables e below (s₁.setTop (mkF m 79 #[.val (.int (3 : Int32)), .val (.double (FP.l2d x0)), .second, .val (.double (FP.l2d x1)), .second, .val (.double (FP.l2d x2)), .second, .val (.double (FP.l2d y0)), .second, .val (.double (FP.l2d y1)), .second, .val (.double (FP.l2d y2)), .second, .val (.int (if y0 < x0 then (0 : Int32) else 1)), .val (.int (if y1 < x1 then (0 : Int32) else 1)), .val (.int (if y2 < x2 then (0 : Int32) else 1)), .val (.int (if x0 < y0 then (1 : Int32) else 0)), .unset, .unset] [(.int (2 : Int32)), (.int (3 : Int32))])) _
    refine o_icmpNo X0.here hx (hb hby dE3_79) (XT.ii_lt_f (by decide)) ?_
    refine o_dloadN X0.here hx (hb hby dE3_82) rfl ?_
    refine o_dload X0.here hx (hb hby dE3_83) rfl ?_
    refine o_dcmpS X0.here hx (hb hby dE3_85) (v := XT.cmpL x1 y1) (dcmpV_w (own_bd_b53 H1 (by decide)) (own_bd_b53 H4 (by decide)) _) ?_
    exact k
  have cn22 : ∀ t, Steps p.tables e below (s₁.setTop (mkF m 94 #[.val (.int (3 : Int32)), .val (.double (FP.l2d x0)), .second, .val (.double (FP.l2d x1)), .second, .val (.double (FP.l2d x2)), .second, .val (.double (FP.l2d y0)), .second, .val (.double (FP.l2d y1)), .second, .val (.double (FP.l2d y2)), .second, .val (.int (if y0 < x0 then (0 : Int32) else 1)), .val (.int (if y1 < x1 then (0 : Int32) else 1)), .val (.int (if y2 < x2 then (0 : Int32) else 1)), .val (.int (if x0 < y0 then (1 : Int32) else 0)), .unset, .unset] [(.int (if x1 < y1 then (1 : Int32) else 0))])) t → Steps p.tables e below (s₁.setTop (entryFrame m #[(.int (3 : Int32)), (.double (FP.l2d x0)), (.double (FP.l2d x1)), (.double (FP.l2d x2)), (.double (FP.l2d y0)), (.double (FP.l2d y1)), (.double (FP.l2d y2))] 19)) t := by
    intro t k
    by_cases h86_23 : x1 < y1
    · -- pc 86 not taken
      have cn24 : ∀ t, Steps p.tables e below (s₁.setTop (mkF m 94 #[.val (.int (3 : Int32)), .val (.double (FP.l2d x0)), .second, .val (.double (FP.l2d x1)), .second, .val (.double (FP.l2d x2)), .second, .val (.double (FP.l2d y0)), .second, .val (.double (FP.l2d y1)), .second, .val (.double (FP.l2d y2)), .second, .val (.int (if y0 < x0 then (0 : Int32) else 1)), .val (.int (if y1 < x1 then (0 : Int32) else 1)), .val (.int (if y2 < x2 then (0 : Int32) else 1)), .val (.int (if x0 < y0 then (1 : Int32) else 0)), .unset, .unset] [(.int (1 : Int32))])) t → Steps p.tables e below (s₁.setTop (entryFrame m #[(.int (3 : Int32)), (.double (FP.l2d x0)), (.double (FP.l2d x1)), (.double (FP.l2d x2)), (.double (FP.l2d y0)), (.double (FP.l2d y1)), (.double (FP.l2d y2))] 19)) t := by
        intro t k
        refine cn21 t ?_
        refine o_ifNo X0.here hx (hb hby dE3_86) (XT.ll_ge_f h86_23) ?_
        refine o_iconstV X0.here hx (1 : Int32) (hb hby dE3_89) rfl ?_
        show Steps p.tables e below (s₁.setTop (mkF m 90 #[.val (.int (3 : Int32)), .val (.double (FP.l2d x0)), .second, .val (.double (FP.l2d x1)), .second, .val (.double (FP.l2d x2)), .second, .val (.double (FP.l2d y0)), .second, .val (.double (FP.l2d y1)), .second, .val (.double (FP.l2d y2)), .second, .val (.int (if y0 < x0 then (0 : Int32) else 1)), .val (.int (if y1 < x1 then (0 : Int32) else 1)), .val (.int (if y2 < x2 then (0 : Int32) else 1)), .val (.int (if x0 < y0 then (1 : Int32) else 0)), .unset, .unset] [(.int (1 : Int32))])) _
        refine o_goto X0.here hx (pc' := 94) (hb hby dE3_90) (by decide) (by decide) ?_
        exact k
      rw [show (if x1 < y1 then (1 : Int32) else 0) = (1 : Int32) from (if_pos h86_23)] at k
      exact cn24 t k
    · -- pc 86 taken
      have cn25 : ∀ t, Steps p.tables e below (s₁.setTop (mkF m 94 #[.val (.int (3 : Int32)), .val (.double (FP.l2d x0)), .second, .val (.double (FP.l2d x1)), .second, .val (.double (FP.l2d x2)), .second, .val (.double (FP.l2d y0)), .second, .val (.double (FP.l2d y1)), .second, .val (.double (FP.l2d y2)), .second, .val (.int (if y0 < x0 then (0 : Int32) else 1)), .val (.int (if y1 < x1 then (0 : Int32) else 1)), .val (.int (if y2 < x2 then (0 : Int32) else 1)), .val (.int (if x0 < y0 then (1 : Int32) else 0)), .unset, .unset] [(.int (0 : Int32))])) t → Steps p.tables e below (s₁.setTop (entryFrame m #[(.int (3 : Int32)), (.double (FP.l2d x0)), (.double (FP.l2d x1)), (.double (FP.l2d x2)), (.double (FP.l2d y0)), (.double (FP.l2d y1)), (.double (FP.l2d y2))] 19)) t := by
        intro t k
        refine cn21 t ?_
        refine o_ifYes X0.here hx (pc' := 93) (hb hby dE3_86) (XT.ll_ge_t h86_23) (by decide) (by decide) ?_
        refine o_iconstV X0.here hx (0 : Int32) (hb hby dE3_93) rfl ?_
        exact k
      rw [show (if x1 < y1 then (1 : Int32) else 0) = (0 : Int32) from (if_neg h86_23)] at k
      exact cn25 t k
  have cn26 : ∀ t, Steps p.tables e below (s₁.setTop (mkF m 106 #[.val (.int (3 : Int32)), .val (.double (FP.l2d x0)), .second, .val (.double (FP.l2d x1)), .second, .val (.double (FP.l2d x2)), .second, .val (.double (FP.l2d y0)), .second, .val (.double (FP.l2d y1)), .second, .val (.double (FP.l2d y2)), .second, .val (.int (if y0 < x0 then (0 : Int32) else 1)), .val (.int (if y1 < x1 then (0 : Int32) else 1)), .val (.int (if y2 < x2 then (0 : Int32) else 1)), .val (.int (if x0 < y0 then (1 : Int32) else 0)), .val (.int (if x1 < y1 then (1 : Int32) else 0)), .unset] [(.int (XT.cmpL x2 y2))])) t → Steps p.tables e below (s₁.setTop (entryFrame m #[(.int (3 : Int32)), (.double (FP.l2d x0)), (.double (FP.l2d x1)), (.double (FP.l2d x2)), (.double (FP.l2d y0)), (.double (FP.l2d y1)), (.double (FP.l2d y2))] 19)) t := by
    intro t k
    refine cn22 t ?_
    refine o_istore X0.here hx (hb hby dE3_94) (l' := #[.val (.int (3 : Int32)), .val (.double (FP.l2d x0)), .second, .val (.double (FP.l2d x1)), .second, .val (.double (FP.l2d x2)), .second, .val (.double (FP.l2d y0)), .second, .val (.double (FP.l2d y1)), .second, .val (.double (FP.l2d y2)), .second, .val (.int (if y0 < x0 then (0 : Int32) else 1)), .val (.int (if y1 < x1 then (0 : Int32) else 1)), .val (.int (if y2 < x2 then (0 : Int32) else 1)), .val (.int (if x0 < y0 then (1 : Int32) else 0)), .val (.int (if x1 < y1 then (1 : Int32) else 0)), .unset]) rfl ?_
    refine o_iloadN X0.here hx (hb hby dE3_96) rfl ?_
    refine o_iconstV X0.here hx (3 : Int32) (hb hby dE3_97) rfl ?_
    show Steps p.tables e below (s₁.setTop (mkF m 98 #[.val (.int (3 : Int32)), .val (.double (FP.l2d x0)), .second, .val (.double (FP.l2d x1)), .second, .val (.double (FP.l2d x2)), .second, .val (.double (FP.l2d y0)), .second, .val (.double (FP.l2d y1)), .second, .val (.double (FP.l2d y2)), .second, .val (.int (if y0 < x0 then (0 : Int32) else 1)), .val (.int (if y1 < x1 then (0 : Int32) else 1)), .val (.int (if y2 < x2 then (0 : Int32) else 1)), .val (.int (if x0 < y0 then (1 : Int32) else 0)), .val (.int (if x1 < y1 then (1 : Int32) else 0)), .unset] [(.int (3 : Int32)), (.int (3 : Int32))])) _
    refine o_icmpNo X0.here hx (hb hby dE3_98) (XT.ii_lt_f (by decide)) ?_
    refine o_dload X0.here hx (hb hby dE3_101) rfl ?_
    refine o_dload X0.here hx (hb hby dE3_103) rfl ?_
    refine o_dcmpS X0.here hx (hb hby dE3_105) (v := XT.cmpL x2 y2) (dcmpV_w (own_bd_b53 H2 (by decide)) (own_bd_b53 H5 (by decide)) _) ?_
    exact k
  have cn27 : ∀ t, Steps p.tables e below (s₁.setTop (mkF m 114 #[.val (.int (3 : Int32)), .val (.double (FP.l2d x0)), .second, .val (.double (FP.l2d x1)), .second, .val (.double (FP.l2d x2)), .second, .val (.double (FP.l2d y0)), .second, .val (.double (FP.l2d y1)), .second, .val (.double (FP.l2d y2)), .second, .val (.int (if y0 < x0 then (0 : Int32) else 1)), .val (.int (if y1 < x1 then (0 : Int32) else 1)), .val (.int (if y2 < x2 then (0 : Int32) else 1)), .val (.int (if x0 < y0 then (1 : Int32) else 0)), .val (.int (if x1 < y1 then (1 : Int32) else 0)), .unset] [(.int (if x2 < y2 then (1 : Int32) else 0))])) t → Steps p.tables e below (s₁.setTop (entryFrame m #[(.int (3 : Int32)), (.double (FP.l2d x0)), (.double (FP.l2d x1)), (.double (FP.l2d x2)), (.double (FP.l2d y0)), (.double (FP.l2d y1)), (.double (FP.l2d y2))] 19)) t := by
    intro t k
    by_cases h106_28 : x2 < y2
    · -- pc 106 not taken
      have cn29 : ∀ t, Steps p.tables e below (s₁.setTop (mkF m 114 #[.val (.int (3 : Int32)), .val (.double (FP.l2d x0)), .second, .val (.double (FP.l2d x1)), .second, .val (.double (FP.l2d x2)), .second, .val (.double (FP.l2d y0)), .second, .val (.double (FP.l2d y1)), .second, .val (.double (FP.l2d y2)), .second, .val (.int (if y0 < x0 then (0 : Int32) else 1)), .val (.int (if y1 < x1 then (0 : Int32) else 1)), .val (.int (if y2 < x2 then (0 : Int32) else 1)), .val (.int (if x0 < y0 then (1 : Int32) else 0)), .val (.int (if x1 < y1 then (1 : Int32) else 0)), .unset] [(.int (1 : Int32))])) t → Steps p.tables e below (s₁.setTop (entryFrame m #[(.int (3 : Int32)), (.double (FP.l2d x0)), (.double (FP.l2d x1)), (.double (FP.l2d x2)), (.double (FP.l2d y0)), (.double (FP.l2d y1)), (.double (FP.l2d y2))] 19)) t := by
        intro t k
        refine cn26 t ?_
        refine o_ifNo X0.here hx (hb hby dE3_106) (XT.ll_ge_f h106_28) ?_
        refine o_iconstV X0.here hx (1 : Int32) (hb hby dE3_109) rfl ?_
        show Steps p.tables e below (s₁.setTop (mkF m 110 #[.val (.int (3 : Int32)), .val (.double (FP.l2d x0)), .second, .val (.double (FP.l2d x1)), .second, .val (.double (FP.l2d x2)), .second, .val (.double (FP.l2d y0)), .second, .val (.double (FP.l2d y1)), .second, .val (.double (FP.l2d y2)), .second, .val (.int (if y0 < x0 then (0 : Int32) else 1)), .val (.int (if y1 < x1 then (0 : Int32) else 1)), .val (.int (if y2 < x2 then (0 : Int32) else 1)), .val (.int (if x0 < y0 then (1 : Int32) else 0)), .val (.int (if x1 < y1 then (1 : Int32) else 0)), .unset] [(.int (1 : Int32))])) _
        refine o_goto X0.here hx (pc' := 114) (hb hby dE3_110) (by decide) (by decide) ?_
        exact k
      rw [show (if x2 < y2 then (1 : Int32) else 0) = (1 : Int32) from (if_pos h106_28)] at k
      exact cn29 t k
    · -- pc 106 taken
      have cn30 : ∀ t, Steps p.tables e below (s₁.setTop (mkF m 114 #[.val (.int (3 : Int32)), .val (.double (FP.l2d x0)), .second, .val (.double (FP.l2d x1)), .second, .val (.double (FP.l2d x2)), .second, .val (.double (FP.l2d y0)), .second, .val (.double (FP.l2d y1)), .second, .val (.double (FP.l2d y2)), .second, .val (.int (if y0 < x0 then (0 : Int32) else 1)), .val (.int (if y1 < x1 then (0 : Int32) else 1)), .val (.int (if y2 < x2 then (0 : Int32) else 1)), .val (.int (if x0 < y0 then (1 : Int32) else 0)), .val (.int (if x1 < y1 then (1 : Int32) else 0)), .unset] [(.int (0 : Int32))])) t → Steps p.tables e below (s₁.setTop (entryFrame m #[(.int (3 : Int32)), (.double (FP.l2d x0)), (.double (FP.l2d x1)), (.double (FP.l2d x2)), (.double (FP.l2d y0)), (.double (FP.l2d y1)), (.double (FP.l2d y2))] 19)) t := by
        intro t k
        refine cn26 t ?_
        refine o_ifYes X0.here hx (pc' := 113) (hb hby dE3_106) (XT.ll_ge_t h106_28) (by decide) (by decide) ?_
        refine o_iconstV X0.here hx (0 : Int32) (hb hby dE3_113) rfl ?_
        exact k
      rw [show (if x2 < y2 then (1 : Int32) else 0) = (0 : Int32) from (if_neg h106_28)] at k
      exact cn30 t k
  have cn31 : ∀ t, Steps p.tables e below (s₁.setTop (mkF m 118 #[.val (.int (3 : Int32)), .val (.double (FP.l2d x0)), .second, .val (.double (FP.l2d x1)), .second, .val (.double (FP.l2d x2)), .second, .val (.double (FP.l2d y0)), .second, .val (.double (FP.l2d y1)), .second, .val (.double (FP.l2d y2)), .second, .val (.int (if y0 < x0 then (0 : Int32) else 1)), .val (.int (if y1 < x1 then (0 : Int32) else 1)), .val (.int (if y2 < x2 then (0 : Int32) else 1)), .val (.int (if x0 < y0 then (1 : Int32) else 0)), .val (.int (if x1 < y1 then (1 : Int32) else 0)), .val (.int (if x2 < y2 then (1 : Int32) else 0))] [(.int (if y0 < x0 then (0 : Int32) else 1))])) t → Steps p.tables e below (s₁.setTop (entryFrame m #[(.int (3 : Int32)), (.double (FP.l2d x0)), (.double (FP.l2d x1)), (.double (FP.l2d x2)), (.double (FP.l2d y0)), (.double (FP.l2d y1)), (.double (FP.l2d y2))] 19)) t := by
    intro t k
    refine cn27 t ?_
    refine o_istore X0.here hx (hb hby dE3_114) (l' := #[.val (.int (3 : Int32)), .val (.double (FP.l2d x0)), .second, .val (.double (FP.l2d x1)), .second, .val (.double (FP.l2d x2)), .second, .val (.double (FP.l2d y0)), .second, .val (.double (FP.l2d y1)), .second, .val (.double (FP.l2d y2)), .second, .val (.int (if y0 < x0 then (0 : Int32) else 1)), .val (.int (if y1 < x1 then (0 : Int32) else 1)), .val (.int (if y2 < x2 then (0 : Int32) else 1)), .val (.int (if x0 < y0 then (1 : Int32) else 0)), .val (.int (if x1 < y1 then (1 : Int32) else 0)), .val (.int (if x2 < y2 then (1 : Int32) else 0))]) rfl ?_
    refine o_iload X0.here hx (hb hby dE3_116) rfl ?_
    exact k
  by_cases h118_32 : (if y0 < x0 then (0 : Int32) else 1) = 0
  · -- pc 118 taken
    have cn33 : ∀ t, Steps p.tables e below (s₁.setTop (mkF m 151 #[.val (.int (3 : Int32)), .val (.double (FP.l2d x0)), .second, .val (.double (FP.l2d x1)), .second, .val (.double (FP.l2d x2)), .second, .val (.double (FP.l2d y0)), .second, .val (.double (FP.l2d y1)), .second, .val (.double (FP.l2d y2)), .second, .val (.int (if y0 < x0 then (0 : Int32) else 1)), .val (.int (if y1 < x1 then (0 : Int32) else 1)), .val (.int (if y2 < x2 then (0 : Int32) else 1)), .val (.int (if x0 < y0 then (1 : Int32) else 0)), .val (.int (if x1 < y1 then (1 : Int32) else 0)), .val (.int (if x2 < y2 then (1 : Int32) else 0))] [(.int (0 : Int32))])) t → Steps p.tables e below (s₁.setTop (entryFrame m #[(.int (3 : Int32)), (.double (FP.l2d x0)), (.double (FP.l2d x1)), (.double (FP.l2d x2)), (.double (FP.l2d y0)), (.double (FP.l2d y1)), (.double (FP.l2d y2))] 19)) t := by
      intro t k
      refine cn31 t ?_
      refine o_ifYes X0.here hx (pc' := 150) (hb hby dE3_118) (XT.i0_eq_t h118_32) (by decide) (by decide) ?_
      refine o_iconstV X0.here hx (0 : Int32) (hb hby dE3_150) rfl ?_
      exact k
    obtain ⟨fs, hr, hrun, hended, hW, hsame⟩ := X0.leave (v := some (.int (0 : Int32))) (fun h => by rw [Bd.returns] at h; cases h)
    refine ⟨_, _, cn33 _ ?_, hrun, hended, _, _, rfl, ?_, ⟨_, rfl⟩, hW, hsame.mono (by decide) (by decide)⟩
    · exact retN X0 hx (t := .boolean) Bd.returns (by simp) (hb hby dE3_151) hr
    · show QE3 Z x0 x1 x2 y0 y1 y2 h0 n0 _ s₁.heap _
      rw [e0]
      exact ⟨(by simp [own_beats, own_ite0.mp h118_32]), N0, rfl⟩
  · -- pc 118 not taken
    have cn34 : ∀ t, Steps p.tables e below (s₁.setTop (mkF m 123 #[.val (.int (3 : Int32)), .val (.double (FP.l2d x0)), .second, .val (.double (FP.l2d x1)), .second, .val (.double (FP.l2d x2)), .second, .val (.double (FP.l2d y0)), .second, .val (.double (FP.l2d y1)), .second, .val (.double (FP.l2d y2)), .second, .val (.int (if y0 < x0 then (0 : Int32) else 1)), .val (.int (if y1 < x1 then (0 : Int32) else 1)), .val (.int (if y2 < x2 then (0 : Int32) else 1)), .val (.int (if x0 < y0 then (1 : Int32) else 0)), .val (.int (if x1 < y1 then (1 : Int32) else 0)), .val (.int (if x2 < y2 then (1 : Int32) else 0))] [(.int (if y1 < x1 then (0 : Int32) else 1))])) t → Steps p.tables e below (s₁.setTop (entryFrame m #[(.int (3 : Int32)), (.double (FP.l2d x0)), (.double (FP.l2d x1)), (.double (FP.l2d x2)), (.double (FP.l2d y0)), (.double (FP.l2d y1)), (.double (FP.l2d y2))] 19)) t := by
      intro t k
      refine cn31 t ?_
      refine o_ifNo X0.here hx (hb hby dE3_118) (XT.i0_eq_f h118_32) ?_
      refine o_iload X0.here hx (hb hby dE3_121) rfl ?_
      exact k
    by_cases h123_35 : (if y1 < x1 then (0 : Int32) else 1) = 0
    · -- pc 123 taken
      have cn36 : ∀ t, Steps p.tables e below (s₁.setTop (mkF m 151 #[.val (.int (3 : Int32)), .val (.double (FP.l2d x0)), .second, .val (.double (FP.l2d x1)), .second, .val (.double (FP.l2d x2)), .second, .val (.double (FP.l2d y0)), .second, .val (.double (FP.l2d y1)), .second, .val (.double (FP.l2d y2)), .second, .val (.int (if y0 < x0 then (0 : Int32) else 1)), .val (.int (if y1 < x1 then (0 : Int32) else 1)), .val (.int (if y2 < x2 then (0 : Int32) else 1)), .val (.int (if x0 < y0 then (1 : Int32) else 0)), .val (.int (if x1 < y1 then (1 : Int32) else 0)), .val (.int (if x2 < y2 then (1 : Int32) else 0))] [(.int (0 : Int32))])) t → Steps p.tables e below (s₁.setTop (entryFrame m #[(.int (3 : Int32)), (.double (FP.l2d x0)), (.double (FP.l2d x1)), (.double (FP.l2d x2)), (.double (FP.l2d y0)), (.double (FP.l2d y1)), (.double (FP.l2d y2))] 19)) t := by
        intro t k
        refine cn34 t ?_
        refine o_ifYes X0.here hx (pc' := 150) (hb hby dE3_123) (XT.i0_eq_t h123_35) (by decide) (by decide) ?_
        refine o_iconstV X0.here hx (0 : Int32) (hb hby dE3_150) rfl ?_
        exact k
      obtain ⟨fs, hr, hrun, hended, hW, hsame⟩ := X0.leave (v := some (.int (0 : Int32))) (fun h => by rw [Bd.returns] at h; cases h)
      refine ⟨_, _, cn36 _ ?_, hrun, hended, _, _, rfl, ?_, ⟨_, rfl⟩, hW, hsame.mono (by decide) (by decide)⟩
      · exact retN X0 hx (t := .boolean) Bd.returns (by simp) (hb hby dE3_151) hr
      · show QE3 Z x0 x1 x2 y0 y1 y2 h0 n0 _ s₁.heap _
        rw [e0]
        exact ⟨(by simp [own_beats, mt own_ite0.mpr h118_32, own_ite0.mp h123_35]), N0, rfl⟩
    · -- pc 123 not taken
      have cn37 : ∀ t, Steps p.tables e below (s₁.setTop (mkF m 128 #[.val (.int (3 : Int32)), .val (.double (FP.l2d x0)), .second, .val (.double (FP.l2d x1)), .second, .val (.double (FP.l2d x2)), .second, .val (.double (FP.l2d y0)), .second, .val (.double (FP.l2d y1)), .second, .val (.double (FP.l2d y2)), .second, .val (.int (if y0 < x0 then (0 : Int32) else 1)), .val (.int (if y1 < x1 then (0 : Int32) else 1)), .val (.int (if y2 < x2 then (0 : Int32) else 1)), .val (.int (if x0 < y0 then (1 : Int32) else 0)), .val (.int (if x1 < y1 then (1 : Int32) else 0)), .val (.int (if x2 < y2 then (1 : Int32) else 0))] [(.int (if y2 < x2 then (0 : Int32) else 1))])) t → Steps p.tables e below (s₁.setTop (entryFrame m #[(.int (3 : Int32)), (.double (FP.l2d x0)), (.double (FP.l2d x1)), (.double (FP.l2d x2)), (.double (FP.l2d y0)), (.double (FP.l2d y1)), (.double (FP.l2d y2))] 19)) t := by
        intro t k
        refine cn34 t ?_
        refine o_ifNo X0.here hx (hb hby dE3_123) (XT.i0_eq_f h123_35) ?_
        refine o_iload X0.here hx (hb hby dE3_126) rfl ?_
        exact k
      by_cases h128_38 : (if y2 < x2 then (0 : Int32) else 1) = 0
      · -- pc 128 taken
        have cn39 : ∀ t, Steps p.tables e below (s₁.setTop (mkF m 151 #[.val (.int (3 : Int32)), .val (.double (FP.l2d x0)), .second, .val (.double (FP.l2d x1)), .second, .val (.double (FP.l2d x2)), .second, .val (.double (FP.l2d y0)), .second, .val (.double (FP.l2d y1)), .second, .val (.double (FP.l2d y2)), .second, .val (.int (if y0 < x0 then (0 : Int32) else 1)), .val (.int (if y1 < x1 then (0 : Int32) else 1)), .val (.int (if y2 < x2 then (0 : Int32) else 1)), .val (.int (if x0 < y0 then (1 : Int32) else 0)), .val (.int (if x1 < y1 then (1 : Int32) else 0)), .val (.int (if x2 < y2 then (1 : Int32) else 0))] [(.int (0 : Int32))])) t → Steps p.tables e below (s₁.setTop (entryFrame m #[(.int (3 : Int32)), (.double (FP.l2d x0)), (.double (FP.l2d x1)), (.double (FP.l2d x2)), (.double (FP.l2d y0)), (.double (FP.l2d y1)), (.double (FP.l2d y2))] 19)) t := by
          intro t k
          refine cn37 t ?_
          refine o_ifYes X0.here hx (pc' := 150) (hb hby dE3_128) (XT.i0_eq_t h128_38) (by decide) (by decide) ?_
          refine o_iconstV X0.here hx (0 : Int32) (hb hby dE3_150) rfl ?_
          exact k
        obtain ⟨fs, hr, hrun, hended, hW, hsame⟩ := X0.leave (v := some (.int (0 : Int32))) (fun h => by rw [Bd.returns] at h; cases h)
        refine ⟨_, _, cn39 _ ?_, hrun, hended, _, _, rfl, ?_, ⟨_, rfl⟩, hW, hsame.mono (by decide) (by decide)⟩
        · exact retN X0 hx (t := .boolean) Bd.returns (by simp) (hb hby dE3_151) hr
        · show QE3 Z x0 x1 x2 y0 y1 y2 h0 n0 _ s₁.heap _
          rw [e0]
          exact ⟨(by simp [own_beats, mt own_ite0.mpr h118_32, mt own_ite0.mpr h123_35, own_ite0.mp h128_38]), N0, rfl⟩
      · -- pc 128 not taken
        have cn40 : ∀ t, Steps p.tables e below (s₁.setTop (mkF m 133 #[.val (.int (3 : Int32)), .val (.double (FP.l2d x0)), .second, .val (.double (FP.l2d x1)), .second, .val (.double (FP.l2d x2)), .second, .val (.double (FP.l2d y0)), .second, .val (.double (FP.l2d y1)), .second, .val (.double (FP.l2d y2)), .second, .val (.int (if y0 < x0 then (0 : Int32) else 1)), .val (.int (if y1 < x1 then (0 : Int32) else 1)), .val (.int (if y2 < x2 then (0 : Int32) else 1)), .val (.int (if x0 < y0 then (1 : Int32) else 0)), .val (.int (if x1 < y1 then (1 : Int32) else 0)), .val (.int (if x2 < y2 then (1 : Int32) else 0))] [(.int (if x0 < y0 then (1 : Int32) else 0))])) t → Steps p.tables e below (s₁.setTop (entryFrame m #[(.int (3 : Int32)), (.double (FP.l2d x0)), (.double (FP.l2d x1)), (.double (FP.l2d x2)), (.double (FP.l2d y0)), (.double (FP.l2d y1)), (.double (FP.l2d y2))] 19)) t := by
          intro t k
          refine cn37 t ?_
          refine o_ifNo X0.here hx (hb hby dE3_128) (XT.i0_eq_f h128_38) ?_
          refine o_iload X0.here hx (hb hby dE3_131) rfl ?_
          exact k
        by_cases h133_41 : (if x0 < y0 then (1 : Int32) else 0) = 0
        · -- pc 133 not taken
          have cn42 : ∀ t, Steps p.tables e below (s₁.setTop (mkF m 138 #[.val (.int (3 : Int32)), .val (.double (FP.l2d x0)), .second, .val (.double (FP.l2d x1)), .second, .val (.double (FP.l2d x2)), .second, .val (.double (FP.l2d y0)), .second, .val (.double (FP.l2d y1)), .second, .val (.double (FP.l2d y2)), .second, .val (.int (if y0 < x0 then (0 : Int32) else 1)), .val (.int (if y1 < x1 then (0 : Int32) else 1)), .val (.int (if y2 < x2 then (0 : Int32) else 1)), .val (.int (if x0 < y0 then (1 : Int32) else 0)), .val (.int (if x1 < y1 then (1 : Int32) else 0)), .val (.int (if x2 < y2 then (1 : Int32) else 0))] [(.int (if x1 < y1 then (1 : Int32) else 0))])) t → Steps p.tables e below (s₁.setTop (entryFrame m #[(.int (3 : Int32)), (.double (FP.l2d x0)), (.double (FP.l2d x1)), (.double (FP.l2d x2)), (.double (FP.l2d y0)), (.double (FP.l2d y1)), (.double (FP.l2d y2))] 19)) t := by
            intro t k
            refine cn40 t ?_
            refine o_ifNo X0.here hx (hb hby dE3_133) (XT.i0_ne_f h133_41) ?_
            refine o_iload X0.here hx (hb hby dE3_136) rfl ?_
            exact k
          by_cases h138_43 : (if x1 < y1 then (1 : Int32) else 0) = 0
          · -- pc 138 not taken
            have cn44 : ∀ t, Steps p.tables e below (s₁.setTop (mkF m 143 #[.val (.int (3 : Int32)), .val (.double (FP.l2d x0)), .second, .val (.double (FP.l2d x1)), .second, .val (.double (FP.l2d x2)), .second, .val (.double (FP.l2d y0)), .second, .val (.double (FP.l2d y1)), .second, .val (.double (FP.l2d y2)), .second, .val (.int (if y0 < x0 then (0 : Int32) else 1)), .val (.int (if y1 < x1 then (0 : Int32) else 1)), .val (.int (if y2 < x2 then (0 : Int32) else 1)), .val (.int (if x0 < y0 then (1 : Int32) else 0)), .val (.int (if x1 < y1 then (1 : Int32) else 0)), .val (.int (if x2 < y2 then (1 : Int32) else 0))] [(.int (if x2 < y2 then (1 : Int32) else 0))])) t → Steps p.tables e below (s₁.setTop (entryFrame m #[(.int (3 : Int32)), (.double (FP.l2d x0)), (.double (FP.l2d x1)), (.double (FP.l2d x2)), (.double (FP.l2d y0)), (.double (FP.l2d y1)), (.double (FP.l2d y2))] 19)) t := by
              intro t k
              refine cn42 t ?_
              refine o_ifNo X0.here hx (hb hby dE3_138) (XT.i0_ne_f h138_43) ?_
              refine o_iload X0.here hx (hb hby dE3_141) rfl ?_
              exact k
            by_cases h143_45 : (if x2 < y2 then (1 : Int32) else 0) = 0
            · -- pc 143 taken
              have cn46 : ∀ t, Steps p.tables e below (s₁.setTop (mkF m 151 #[.val (.int (3 : Int32)), .val (.double (FP.l2d x0)), .second, .val (.double (FP.l2d x1)), .second, .val (.double (FP.l2d x2)), .second, .val (.double (FP.l2d y0)), .second, .val (.double (FP.l2d y1)), .second, .val (.double (FP.l2d y2)), .second, .val (.int (if y0 < x0 then (0 : Int32) else 1)), .val (.int (if y1 < x1 then (0 : Int32) else 1)), .val (.int (if y2 < x2 then (0 : Int32) else 1)), .val (.int (if x0 < y0 then (1 : Int32) else 0)), .val (.int (if x1 < y1 then (1 : Int32) else 0)), .val (.int (if x2 < y2 then (1 : Int32) else 0))] [(.int (0 : Int32))])) t → Steps p.tables e below (s₁.setTop (entryFrame m #[(.int (3 : Int32)), (.double (FP.l2d x0)), (.double (FP.l2d x1)), (.double (FP.l2d x2)), (.double (FP.l2d y0)), (.double (FP.l2d y1)), (.double (FP.l2d y2))] 19)) t := by
                intro t k
                refine cn44 t ?_
                refine o_ifYes X0.here hx (pc' := 150) (hb hby dE3_143) (XT.i0_eq_t h143_45) (by decide) (by decide) ?_
                refine o_iconstV X0.here hx (0 : Int32) (hb hby dE3_150) rfl ?_
                exact k
              obtain ⟨fs, hr, hrun, hended, hW, hsame⟩ := X0.leave (v := some (.int (0 : Int32))) (fun h => by rw [Bd.returns] at h; cases h)
              refine ⟨_, _, cn46 _ ?_, hrun, hended, _, _, rfl, ?_, ⟨_, rfl⟩, hW, hsame.mono (by decide) (by decide)⟩
              · exact retN X0 hx (t := .boolean) Bd.returns (by simp) (hb hby dE3_151) hr
              · show QE3 Z x0 x1 x2 y0 y1 y2 h0 n0 _ s₁.heap _
                rw [e0]
                exact ⟨(by simp [own_beats, mt own_ite0.mpr h118_32, mt own_ite0.mpr h123_35, mt own_ite0.mpr h128_38, own_ite1.mp h133_41, own_ite1.mp h138_43, own_ite1.mp h143_45]), N0, rfl⟩
            · -- pc 143 not taken
              have cn47 : ∀ t, Steps p.tables e below (s₁.setTop (mkF m 151 #[.val (.int (3 : Int32)), .val (.double (FP.l2d x0)), .second, .val (.double (FP.l2d x1)), .second, .val (.double (FP.l2d x2)), .second, .val (.double (FP.l2d y0)), .second, .val (.double (FP.l2d y1)), .second, .val (.double (FP.l2d y2)), .second, .val (.int (if y0 < x0 then (0 : Int32) else 1)), .val (.int (if y1 < x1 then (0 : Int32) else 1)), .val (.int (if y2 < x2 then (0 : Int32) else 1)), .val (.int (if x0 < y0 then (1 : Int32) else 0)), .val (.int (if x1 < y1 then (1 : Int32) else 0)), .val (.int (if x2 < y2 then (1 : Int32) else 0))] [(.int (1 : Int32))])) t → Steps p.tables e below (s₁.setTop (entryFrame m #[(.int (3 : Int32)), (.double (FP.l2d x0)), (.double (FP.l2d x1)), (.double (FP.l2d x2)), (.double (FP.l2d y0)), (.double (FP.l2d y1)), (.double (FP.l2d y2))] 19)) t := by
                intro t k
                refine cn44 t ?_
                refine o_ifNo X0.here hx (hb hby dE3_143) (XT.i0_eq_f h143_45) ?_
                refine o_iconstV X0.here hx (1 : Int32) (hb hby dE3_146) rfl ?_
                show Steps p.tables e below (s₁.setTop (mkF m 147 #[.val (.int (3 : Int32)), .val (.double (FP.l2d x0)), .second, .val (.double (FP.l2d x1)), .second, .val (.double (FP.l2d x2)), .second, .val (.double (FP.l2d y0)), .second, .val (.double (FP.l2d y1)), .second, .val (.double (FP.l2d y2)), .second, .val (.int (if y0 < x0 then (0 : Int32) else 1)), .val (.int (if y1 < x1 then (0 : Int32) else 1)), .val (.int (if y2 < x2 then (0 : Int32) else 1)), .val (.int (if x0 < y0 then (1 : Int32) else 0)), .val (.int (if x1 < y1 then (1 : Int32) else 0)), .val (.int (if x2 < y2 then (1 : Int32) else 0))] [(.int (1 : Int32))])) _
                refine o_goto X0.here hx (pc' := 151) (hb hby dE3_147) (by decide) (by decide) ?_
                exact k
              obtain ⟨fs, hr, hrun, hended, hW, hsame⟩ := X0.leave (v := some (.int (1 : Int32))) (fun h => by rw [Bd.returns] at h; cases h)
              refine ⟨_, _, cn47 _ ?_, hrun, hended, _, _, rfl, ?_, ⟨_, rfl⟩, hW, hsame.mono (by decide) (by decide)⟩
              · exact retN X0 hx (t := .boolean) Bd.returns (by simp) (hb hby dE3_151) hr
              · show QE3 Z x0 x1 x2 y0 y1 y2 h0 n0 _ s₁.heap _
                rw [e0]
                exact ⟨(by simp [own_beats, mt own_ite0.mpr h118_32, mt own_ite0.mpr h123_35, mt own_ite0.mpr h128_38, own_ite1.mp h133_41, own_ite1.mp h138_43, own_ite1n.mp h143_45]), N0, rfl⟩
          · -- pc 138 taken
            have cn48 : ∀ t, Steps p.tables e below (s₁.setTop (mkF m 151 #[.val (.int (3 : Int32)), .val (.double (FP.l2d x0)), .second, .val (.double (FP.l2d x1)), .second, .val (.double (FP.l2d x2)), .second, .val (.double (FP.l2d y0)), .second, .val (.double (FP.l2d y1)), .second, .val (.double (FP.l2d y2)), .second, .val (.int (if y0 < x0 then (0 : Int32) else 1)), .val (.int (if y1 < x1 then (0 : Int32) else 1)), .val (.int (if y2 < x2 then (0 : Int32) else 1)), .val (.int (if x0 < y0 then (1 : Int32) else 0)), .val (.int (if x1 < y1 then (1 : Int32) else 0)), .val (.int (if x2 < y2 then (1 : Int32) else 0))] [(.int (1 : Int32))])) t → Steps p.tables e below (s₁.setTop (entryFrame m #[(.int (3 : Int32)), (.double (FP.l2d x0)), (.double (FP.l2d x1)), (.double (FP.l2d x2)), (.double (FP.l2d y0)), (.double (FP.l2d y1)), (.double (FP.l2d y2))] 19)) t := by
              intro t k
              refine cn42 t ?_
              refine o_ifYes X0.here hx (pc' := 146) (hb hby dE3_138) (XT.i0_ne_t h138_43) (by decide) (by decide) ?_
              refine o_iconstV X0.here hx (1 : Int32) (hb hby dE3_146) rfl ?_
              show Steps p.tables e below (s₁.setTop (mkF m 147 #[.val (.int (3 : Int32)), .val (.double (FP.l2d x0)), .second, .val (.double (FP.l2d x1)), .second, .val (.double (FP.l2d x2)), .second, .val (.double (FP.l2d y0)), .second, .val (.double (FP.l2d y1)), .second, .val (.double (FP.l2d y2)), .second, .val (.int (if y0 < x0 then (0 : Int32) else 1)), .val (.int (if y1 < x1 then (0 : Int32) else 1)), .val (.int (if y2 < x2 then (0 : Int32) else 1)), .val (.int (if x0 < y0 then (1 : Int32) else 0)), .val (.int (if x1 < y1 then (1 : Int32) else 0)), .val (.int (if x2 < y2 then (1 : Int32) else 0))] [(.int (1 : Int32))])) _
              refine o_goto X0.here hx (pc' := 151) (hb hby dE3_147) (by decide) (by decide) ?_
              exact k
            obtain ⟨fs, hr, hrun, hended, hW, hsame⟩ := X0.leave (v := some (.int (1 : Int32))) (fun h => by rw [Bd.returns] at h; cases h)
            refine ⟨_, _, cn48 _ ?_, hrun, hended, _, _, rfl, ?_, ⟨_, rfl⟩, hW, hsame.mono (by decide) (by decide)⟩
            · exact retN X0 hx (t := .boolean) Bd.returns (by simp) (hb hby dE3_151) hr
            · show QE3 Z x0 x1 x2 y0 y1 y2 h0 n0 _ s₁.heap _
              rw [e0]
              exact ⟨(by simp [own_beats, mt own_ite0.mpr h118_32, mt own_ite0.mpr h123_35, mt own_ite0.mpr h128_38, own_ite1.mp h133_41, own_ite1n.mp h138_43]), N0, rfl⟩
        · -- pc 133 taken
          have cn49 : ∀ t, Steps p.tables e below (s₁.setTop (mkF m 151 #[.val (.int (3 : Int32)), .val (.double (FP.l2d x0)), .second, .val (.double (FP.l2d x1)), .second, .val (.double (FP.l2d x2)), .second, .val (.double (FP.l2d y0)), .second, .val (.double (FP.l2d y1)), .second, .val (.double (FP.l2d y2)), .second, .val (.int (if y0 < x0 then (0 : Int32) else 1)), .val (.int (if y1 < x1 then (0 : Int32) else 1)), .val (.int (if y2 < x2 then (0 : Int32) else 1)), .val (.int (if x0 < y0 then (1 : Int32) else 0)), .val (.int (if x1 < y1 then (1 : Int32) else 0)), .val (.int (if x2 < y2 then (1 : Int32) else 0))] [(.int (1 : Int32))])) t → Steps p.tables e below (s₁.setTop (entryFrame m #[(.int (3 : Int32)), (.double (FP.l2d x0)), (.double (FP.l2d x1)), (.double (FP.l2d x2)), (.double (FP.l2d y0)), (.double (FP.l2d y1)), (.double (FP.l2d y2))] 19)) t := by
            intro t k
            refine cn40 t ?_
            refine o_ifYes X0.here hx (pc' := 146) (hb hby dE3_133) (XT.i0_ne_t h133_41) (by decide) (by decide) ?_
            refine o_iconstV X0.here hx (1 : Int32) (hb hby dE3_146) rfl ?_
            show Steps p.tables e below (s₁.setTop (mkF m 147 #[.val (.int (3 : Int32)), .val (.double (FP.l2d x0)), .second, .val (.double (FP.l2d x1)), .second, .val (.double (FP.l2d x2)), .second, .val (.double (FP.l2d y0)), .second, .val (.double (FP.l2d y1)), .second, .val (.double (FP.l2d y2)), .second, .val (.int (if y0 < x0 then (0 : Int32) else 1)), .val (.int (if y1 < x1 then (0 : Int32) else 1)), .val (.int (if y2 < x2 then (0 : Int32) else 1)), .val (.int (if x0 < y0 then (1 : Int32) else 0)), .val (.int (if x1 < y1 then (1 : Int32) else 0)), .val (.int (if x2 < y2 then (1 : Int32) else 0))] [(.int (1 : Int32))])) _
            refine o_goto X0.here hx (pc' := 151) (hb hby dE3_147) (by decide) (by decide) ?_
            exact k
          obtain ⟨fs, hr, hrun, hended, hW, hsame⟩ := X0.leave (v := some (.int (1 : Int32))) (fun h => by rw [Bd.returns] at h; cases h)
          refine ⟨_, _, cn49 _ ?_, hrun, hended, _, _, rfl, ?_, ⟨_, rfl⟩, hW, hsame.mono (by decide) (by decide)⟩
          · exact retN X0 hx (t := .boolean) Bd.returns (by simp) (hb hby dE3_151) hr
          · show QE3 Z x0 x1 x2 y0 y1 y2 h0 n0 _ s₁.heap _
            rw [e0]
            exact ⟨(by simp [own_beats, mt own_ite0.mpr h118_32, mt own_ite0.mpr h123_35, mt own_ite0.mpr h128_38, own_ite1n.mp h133_41]), N0, rfl⟩

theorem pd_oaDaDcZ : parseMethodDescriptor "([D[D)Z" = some ⟨[(.array .double), (.array .double)], some .boolean⟩ := by decide +kernel
theorem pd_oIDDDDDDcZ : parseMethodDescriptor "(IDDDDDD)Z" = some ⟨[.int, .double, .double, .double, .double, .double, .double], some .boolean⟩ := by decide +kernel
theorem ef0 (m : MethodId) (x0 : Int32) (x1 : Int32) (x2 : Int32) (x3 : Int32) (x4 : Int32) (x5 : Int32) : entryFrame m #[(.int x0), (.int x1), (.int x2), (.int x3), (.int x4), (.int x5)] maxLocals = (mkF m 0 #[.val (.int x0), .val (.int x1), .val (.int x2), .val (.int x3), .val (.int x4), .val (.int x5), .unset, .unset, .unset, .unset, .unset, .unset, .unset, .unset, .unset, .unset, .unset, .unset, .unset, .unset, .unset, .unset, .unset] []) := by first | (simp [entryFrame, mkF, argsToLocals, Value.category, maxLocals]; done) | rfl
def Q0 (Z : State) (p1 : Int32) (p2 : Int32) (p3 : Int32) (p4 : Int32) (p5 : Int32) (p6 : Int32) (h0 : Heap) (n0 : Nat) (v : Option Value) (h : Heap) (L : List Loc) : Prop := v = some (.int (1 : Int32)) ∧ Fr n0 L
set_option maxRecDepth 65536 in
set_option maxHeartbeats 40000000 in
theorem rm0 (l : Launch) (Z : State) (a0 : Array Value) (hw : ∀ d ∈ tables_1, d.before a0 Z = true) (ws : List Jvm.Cond) (p1 : Int32) (p2 : Int32) (p3 : Int32) (p4 : Int32) (p5 : Int32) (p6 : Int32) (h0 : Heap) (n0 : Nat) (Z0 : n0 ≤ h0.size) :
    MetFree l x (head1 (Jvm.Cond.code x code maxLocals ret :: ws) room_1) (fun a U => a = #[(.int p1), (.int p2), (.int p3), (.int p4), (.int p5), (.int p6)] ∧ Z.Warmed39 U.vm ∧ U.heap = h0) (fun _ _ _ _ _ => True) (fun _ U o U' => ∃ v L, o = .returned v ∧ Q0 Z p1 p2 p3 p4 p5 p6 h0 n0 v U'.heap L ∧ FrameEnd U o U' L room_1.cells room_1.slots) := by
  refine MetFree.of_bodySF (plainFor_of_name pn_com_example_pareto_loom_paretoloom_model_NondominatedSetBeatsPinLaw) hisR ?_
  intro p e s m args below meth c s₁ Bd hml0 hP hK
  obtain ⟨rfl, hZ, hh⟩ := hP
  have hx := Bd.exec
  have hby := Bd.bytes
  have hml : c.maxLocals = 23 := hml0
  have hown : s.vm.findClass "com/example/pareto_loom/paretoloom/model/NondominatedSetBeatsPinLaw" = some m.cls := findClass_of_methodNamed Bd.named
  have hnm := (name_of_methodNamed Bd.named Bd.method).1
  have X0 : Stand p l e room_1 s m #[(.int p1), (.int p2), (.int p3), (.int p4), (.int p5), (.int p6)] below meth c s₁ [] 0 0 := Stand.of_body Bd
  have e0 : s₁.heap = h0 := by rw [← hh, Bd.state]; rfl
  have N0 := Fr.nil n0
  have pre0 : ∀ t, Steps p.tables e below (s₁.setTop (mkF m 0 #[.val (.int p1), .val (.int p2), .val (.int p3), .val (.int p4), .val (.int p5), .val (.int p6), .unset, .unset, .unset, .unset, .unset, .unset, .unset, .unset, .unset, .unset, .unset, .unset, .unset, .unset, .unset, .unset, .unset] [])) t → Steps p.tables e below (s₁.setTop (entryFrame m #[(.int p1), (.int p2), (.int p3), (.int p4), (.int p5), (.int p6)] maxLocals)) t := fun t k => castTop (ef0 m p1 p2 p3 p4 p5 p6) k
  have cn1 : ∀ t, Steps p.tables e below (s₁.setTop (mkF m 3 #[.val (.int p1), .val (.int p2), .val (.int p3), .val (.int p4), .val (.int p5), .val (.int p6), .unset, .unset, .unset, .unset, .unset, .unset, .unset, .unset, .unset, .unset, .unset, .unset, .unset, .unset, .unset, .unset, .unset] [(.int (p1 &&& (3 : Int32)))])) t → Steps p.tables e below (s₁.setTop (entryFrame m #[(.int p1), (.int p2), (.int p3), (.int p4), (.int p5), (.int p6)] maxLocals)) t := by
    intro t k
    refine pre0 t ?_
    refine o_iloadN X0.here hx (hb hby at_0) rfl ?_
    refine o_iconstV X0.here hx (3 : Int32) (hb hby at_1) rfl ?_
    refine o_iand X0.here hx (hb hby at_2) ?_
    exact k
  rcases own_c3 p1 with hs2_0 | hs3_1 | hs4_2 | hs5_3
  · -- (0 : Int32)
    obtain ⟨x0, h_x0⟩ : ∃ z : Int32, z = p1 >>> ((2 : Int32) &&& 31) := ⟨_, rfl⟩
    have cn6 : ∀ t, Steps p.tables e below (s₁.setTop (mkF m 35 #[.val (.int p1), .val (.int p2), .val (.int p3), .val (.int p4), .val (.int p5), .val (.int p6), .val (.int (0 : Int32)), .val (.double (FP.l2d (x0.toInt64))), .second, .val (.double (FP.l2d (p2.toInt64))), .second, .val (.double (FP.l2d (p3.toInt64))), .second, .val (.double (FP.l2d (p4.toInt64))), .second, .val (.double (FP.l2d (p5.toInt64))), .second, .val (.double (FP.l2d (p6.toInt64))), .second, .unset, .unset, .unset, .unset] [(.int (0 : Int32))])) t → Steps p.tables e below (s₁.setTop (entryFrame m #[(.int p1), (.int p2), (.int p3), (.int p4), (.int p5), (.int p6)] maxLocals)) t := by
      intro t k
      refine cn1 t ?_
      rw [hs2_0]
      refine o_istore X0.here hx (hb hby at_3) (l' := #[.val (.int p1), .val (.int p2), .val (.int p3), .val (.int p4), .val (.int p5), .val (.int p6), .val (.int (0 : Int32)), .unset, .unset, .unset, .unset, .unset, .unset, .unset, .unset, .unset, .unset, .unset, .unset, .unset, .unset, .unset, .unset]) rfl ?_
      refine o_iloadN X0.here hx (hb hby at_5) rfl ?_
      refine o_iconstV X0.here hx (2 : Int32) (hb hby at_6) rfl ?_
      refine o_ishr X0.here hx (hb hby at_7) ?_
      rw [← h_x0]
      refine o_i2dS X0.here hx (hb hby at_8) (v := FP.l2d (x0.toInt64)) (i2d_w _) ?_
      refine o_dstore X0.here hx (hb hby at_9) (l' := #[.val (.int p1), .val (.int p2), .val (.int p3), .val (.int p4), .val (.int p5), .val (.int p6), .val (.int (0 : Int32)), .val (.double (FP.l2d (x0.toInt64))), .second, .unset, .unset, .unset, .unset, .unset, .unset, .unset, .unset, .unset, .unset, .unset, .unset, .unset, .unset]) rfl ?_
      refine o_iloadN X0.here hx (hb hby at_11) rfl ?_
      refine o_i2dS X0.here hx (hb hby at_12) (v := FP.l2d (p2.toInt64)) (i2d_w _) ?_
      refine o_dstore X0.here hx (hb hby at_13) (l' := #[.val (.int p1), .val (.int p2), .val (.int p3), .val (.int p4), .val (.int p5), .val (.int p6), .val (.int (0 : Int32)), .val (.double (FP.l2d (x0.toInt64))), .second, .val (.double (FP.l2d (p2.toInt64))), .second, .unset, .unset, .unset, .unset, .unset, .unset, .unset, .unset, .unset, .unset, .unset, .unset]) rfl ?_
      refine o_iloadN X0.here hx (hb hby at_15) rfl ?_
      refine o_i2dS X0.here hx (hb hby at_16) (v := FP.l2d (p3.toInt64)) (i2d_w _) ?_
      refine o_dstore X0.here hx (hb hby at_17) (l' := #[.val (.int p1), .val (.int p2), .val (.int p3), .val (.int p4), .val (.int p5), .val (.int p6), .val (.int (0 : Int32)), .val (.double (FP.l2d (x0.toInt64))), .second, .val (.double (FP.l2d (p2.toInt64))), .second, .val (.double (FP.l2d (p3.toInt64))), .second, .unset, .unset, .unset, .unset, .unset, .unset, .unset, .unset, .unset, .unset]) rfl ?_
      refine o_iloadN X0.here hx (hb hby at_19) rfl ?_
      refine o_i2dS X0.here hx (hb hby at_20) (v := FP.l2d (p4.toInt64)) (i2d_w _) ?_
      refine o_dstore X0.here hx (hb hby at_21) (l' := #[.val (.int p1), .val (.int p2), .val (.int p3), .val (.int p4), .val (.int p5), .val (.int p6), .val (.int (0 : Int32)), .val (.double (FP.l2d (x0.toInt64))), .second, .val (.double (FP.l2d (p2.toInt64))), .second, .val (.double (FP.l2d (p3.toInt64))), .second, .val (.double (FP.l2d (p4.toInt64))), .second, .unset, .unset, .unset, .unset, .unset, .unset, .unset, .unset]) rfl ?_
      refine o_iload X0.here hx (hb hby at_23) rfl ?_
      refine o_i2dS X0.here hx (hb hby at_25) (v := FP.l2d (p5.toInt64)) (i2d_w _) ?_
      refine o_dstore X0.here hx (hb hby at_26) (l' := #[.val (.int p1), .val (.int p2), .val (.int p3), .val (.int p4), .val (.int p5), .val (.int p6), .val (.int (0 : Int32)), .val (.double (FP.l2d (x0.toInt64))), .second, .val (.double (FP.l2d (p2.toInt64))), .second, .val (.double (FP.l2d (p3.toInt64))), .second, .val (.double (FP.l2d (p4.toInt64))), .second, .val (.double (FP.l2d (p5.toInt64))), .second, .unset, .unset, .unset, .unset, .unset, .unset]) rfl ?_
      refine o_iload X0.here hx (hb hby at_28) rfl ?_
      refine o_i2dS X0.here hx (hb hby at_30) (v := FP.l2d (p6.toInt64)) (i2d_w _) ?_
      refine o_dstore X0.here hx (hb hby at_31) (l' := #[.val (.int p1), .val (.int p2), .val (.int p3), .val (.int p4), .val (.int p5), .val (.int p6), .val (.int (0 : Int32)), .val (.double (FP.l2d (x0.toInt64))), .second, .val (.double (FP.l2d (p2.toInt64))), .second, .val (.double (FP.l2d (p3.toInt64))), .second, .val (.double (FP.l2d (p4.toInt64))), .second, .val (.double (FP.l2d (p5.toInt64))), .second, .val (.double (FP.l2d (p6.toInt64))), .second, .unset, .unset, .unset, .unset]) rfl ?_
      refine o_iload X0.here hx (hb hby at_33) rfl ?_
      exact k
    obtain ⟨T7, h7, kc7, X7, e7, E7, A7, st7⟩ := newP X0 hx hZ (hw _ (List.mem_of_getElem? (i := 0) rfl)) e0 (g := (mkF m 35 #[.val (.int p1), .val (.int p2), .val (.int p3), .val (.int p4), .val (.int p5), .val (.int p6), .val (.int (0 : Int32)), .val (.double (FP.l2d (x0.toInt64))), .second, .val (.double (FP.l2d (p2.toInt64))), .second, .val (.double (FP.l2d (p3.toInt64))), .second, .val (.double (FP.l2d (p4.toInt64))), .second, .val (.double (FP.l2d (p5.toInt64))), .second, .val (.double (FP.l2d (p6.toInt64))), .second, .unset, .unset, .unset, .unset] [(.int (0 : Int32))])) rfl (hb hby at_35) rfl (by decide) (cap := 0) (by decide) (by decide) (by decide) (by decide)
    obtain ⟨a7, g7⟩ : ∃ z, z = h0.size := ⟨_, rfl⟩
    rw [← g7] at A7 st7
    have Z7 : n0 ≤ h7.size := (Nat.le_trans Z0 E7.1)
    have G7 : n0 ≤ a7 := (Nat.le_trans Z0 (Nat.le_of_eq g7.symm))
    have A8 : Arv Z h7 a7 kc7 .double (0 : Int32) [] (.double (0 : UInt64)) := ((Arv.new A7 (by decide)).pad (pad_rep [] _ 0))
    have cn9 : ∀ t, Steps p.tables e below (T7.setTop (mkF m 37 #[.val (.int p1), .val (.int p2), .val (.int p3), .val (.int p4), .val (.int p5), .val (.int p6), .val (.int (0 : Int32)), .val (.double (FP.l2d (x0.toInt64))), .second, .val (.double (FP.l2d (p2.toInt64))), .second, .val (.double (FP.l2d (p3.toInt64))), .second, .val (.double (FP.l2d (p4.toInt64))), .second, .val (.double (FP.l2d (p5.toInt64))), .second, .val (.double (FP.l2d (p6.toInt64))), .second, .unset, .unset, .unset, .unset] [(.ref a7)])) t → Steps p.tables e below (s₁.setTop (entryFrame m #[(.int p1), (.int p2), (.int p3), (.int p4), (.int p5), (.int p6)] maxLocals)) t := fun t k => cn6 t (st7 _ k)
    have cn10 : ∀ t, Steps p.tables e below (T7.setTop (mkF m 41 #[.val (.int p1), .val (.int p2), .val (.int p3), .val (.int p4), .val (.int p5), .val (.int p6), .val (.int (0 : Int32)), .val (.double (FP.l2d (x0.toInt64))), .second, .val (.double (FP.l2d (p2.toInt64))), .second, .val (.double (FP.l2d (p3.toInt64))), .second, .val (.double (FP.l2d (p4.toInt64))), .second, .val (.double (FP.l2d (p5.toInt64))), .second, .val (.double (FP.l2d (p6.toInt64))), .second, .val (.ref a7), .unset, .unset, .unset] [(.int (0 : Int32))])) t → Steps p.tables e below (s₁.setTop (entryFrame m #[(.int p1), (.int p2), (.int p3), (.int p4), (.int p5), (.int p6)] maxLocals)) t := by
      intro t k
      refine cn9 t ?_
      refine o_astore X7.here hx (hb hby at_37) rfl (l' := #[.val (.int p1), .val (.int p2), .val (.int p3), .val (.int p4), .val (.int p5), .val (.int p6), .val (.int (0 : Int32)), .val (.double (FP.l2d (x0.toInt64))), .second, .val (.double (FP.l2d (p2.toInt64))), .second, .val (.double (FP.l2d (p3.toInt64))), .second, .val (.double (FP.l2d (p4.toInt64))), .second, .val (.double (FP.l2d (p5.toInt64))), .second, .val (.double (FP.l2d (p6.toInt64))), .second, .val (.ref a7), .unset, .unset, .unset]) rfl ?_
      refine o_iload X7.here hx (hb hby at_39) rfl ?_
      exact k
    obtain ⟨T11, h11, kc11, X11, e11, E11, A11, st11⟩ := newP X7 hx hZ (hw _ (List.mem_of_getElem? (i := 0) rfl)) e7 (g := (mkF m 41 #[.val (.int p1), .val (.int p2), .val (.int p3), .val (.int p4), .val (.int p5), .val (.int p6), .val (.int (0 : Int32)), .val (.double (FP.l2d (x0.toInt64))), .second, .val (.double (FP.l2d (p2.toInt64))), .second, .val (.double (FP.l2d (p3.toInt64))), .second, .val (.double (FP.l2d (p4.toInt64))), .second, .val (.double (FP.l2d (p5.toInt64))), .second, .val (.double (FP.l2d (p6.toInt64))), .second, .val (.ref a7), .unset, .unset, .unset] [(.int (0 : Int32))])) rfl (hb hby at_41) rfl (by decide) (cap := 0) (by decide) (by decide) (by decide) (by decide)
    obtain ⟨a11, g11⟩ : ∃ z, z = h7.size := ⟨_, rfl⟩
    rw [← g11] at A11 st11
    have Z11 : n0 ≤ h11.size := (Nat.le_trans Z7 E11.1)
    have G11 : n0 ≤ a11 := (Nat.le_trans Z7 (Nat.le_of_eq g11.symm))
    have ne11_a7 : a7 ≠ a11 := Nat.ne_of_lt (Nat.lt_of_lt_of_eq A8.lt g11.symm)
    have A12 : Arv Z h11 a7 kc7 .double (0 : Int32) [] (.double (0 : UInt64)) := (A8.ext E11)
    have A13 : Arv Z h11 a11 kc11 .double (0 : Int32) [] (.double (0 : UInt64)) := ((Arv.new A11 (by decide)).pad (pad_rep [] _ 0))
    have cn14 : ∀ t, Steps p.tables e below (T11.setTop (mkF m 43 #[.val (.int p1), .val (.int p2), .val (.int p3), .val (.int p4), .val (.int p5), .val (.int p6), .val (.int (0 : Int32)), .val (.double (FP.l2d (x0.toInt64))), .second, .val (.double (FP.l2d (p2.toInt64))), .second, .val (.double (FP.l2d (p3.toInt64))), .second, .val (.double (FP.l2d (p4.toInt64))), .second, .val (.double (FP.l2d (p5.toInt64))), .second, .val (.double (FP.l2d (p6.toInt64))), .second, .val (.ref a7), .unset, .unset, .unset] [(.ref a11)])) t → Steps p.tables e below (s₁.setTop (entryFrame m #[(.int p1), (.int p2), (.int p3), (.int p4), (.int p5), (.int p6)] maxLocals)) t := fun t k => cn10 t (st11 _ k)
    have cn15 : ∀ t, Steps p.tables e below (T11.setTop (mkF m 103 #[.val (.int p1), .val (.int p2), .val (.int p3), .val (.int p4), .val (.int p5), .val (.int p6), .val (.int (0 : Int32)), .val (.double (FP.l2d (x0.toInt64))), .second, .val (.double (FP.l2d (p2.toInt64))), .second, .val (.double (FP.l2d (p3.toInt64))), .second, .val (.double (FP.l2d (p4.toInt64))), .second, .val (.double (FP.l2d (p5.toInt64))), .second, .val (.double (FP.l2d (p6.toInt64))), .second, .val (.ref a7), .val (.ref a11), .unset, .unset] [(.ref a11), (.ref a7)])) t → Steps p.tables e below (s₁.setTop (entryFrame m #[(.int p1), (.int p2), (.int p3), (.int p4), (.int p5), (.int p6)] maxLocals)) t := by
      intro t k
      refine cn14 t ?_
      refine o_astore X11.here hx (hb hby at_43) rfl (l' := #[.val (.int p1), .val (.int p2), .val (.int p3), .val (.int p4), .val (.int p5), .val (.int p6), .val (.int (0 : Int32)), .val (.double (FP.l2d (x0.toInt64))), .second, .val (.double (FP.l2d (p2.toInt64))), .second, .val (.double (FP.l2d (p3.toInt64))), .second, .val (.double (FP.l2d (p4.toInt64))), .second, .val (.double (FP.l2d (p5.toInt64))), .second, .val (.double (FP.l2d (p6.toInt64))), .second, .val (.ref a7), .val (.ref a11), .unset, .unset]) rfl ?_
      refine o_iload X11.here hx (hb hby at_45) rfl ?_
      refine o_iconstV X11.here hx (1 : Int32) (hb hby at_47) rfl ?_
      show Steps p.tables e below (T11.setTop (mkF m 48 #[.val (.int p1), .val (.int p2), .val (.int p3), .val (.int p4), .val (.int p5), .val (.int p6), .val (.int (0 : Int32)), .val (.double (FP.l2d (x0.toInt64))), .second, .val (.double (FP.l2d (p2.toInt64))), .second, .val (.double (FP.l2d (p3.toInt64))), .second, .val (.double (FP.l2d (p4.toInt64))), .second, .val (.double (FP.l2d (p5.toInt64))), .second, .val (.double (FP.l2d (p6.toInt64))), .second, .val (.ref a7), .val (.ref a11), .unset, .unset] [(.int (1 : Int32)), (.int (0 : Int32))])) _
      refine o_icmpYes X11.here hx (pc' := 63) (hb hby at_48) (XT.ii_lt_t (by decide)) (by decide) (by decide) ?_
      refine o_iload X11.here hx (hb hby at_63) rfl ?_
      refine o_iconstV X11.here hx (2 : Int32) (hb hby at_65) rfl ?_
      show Steps p.tables e below (T11.setTop (mkF m 66 #[.val (.int p1), .val (.int p2), .val (.int p3), .val (.int p4), .val (.int p5), .val (.int p6), .val (.int (0 : Int32)), .val (.double (FP.l2d (x0.toInt64))), .second, .val (.double (FP.l2d (p2.toInt64))), .second, .val (.double (FP.l2d (p3.toInt64))), .second, .val (.double (FP.l2d (p4.toInt64))), .second, .val (.double (FP.l2d (p5.toInt64))), .second, .val (.double (FP.l2d (p6.toInt64))), .second, .val (.ref a7), .val (.ref a11), .unset, .unset] [(.int (2 : Int32)), (.int (0 : Int32))])) _
      refine o_icmpYes X11.here hx (pc' := 81) (hb hby at_66) (XT.ii_lt_t (by decide)) (by decide) (by decide) ?_
      refine o_iload X11.here hx (hb hby at_81) rfl ?_
      refine o_iconstV X11.here hx (3 : Int32) (hb hby at_83) rfl ?_
      show Steps p.tables e below (T11.setTop (mkF m 84 #[.val (.int p1), .val (.int p2), .val (.int p3), .val (.int p4), .val (.int p5), .val (.int p6), .val (.int (0 : Int32)), .val (.double (FP.l2d (x0.toInt64))), .second, .val (.double (FP.l2d (p2.toInt64))), .second, .val (.double (FP.l2d (p3.toInt64))), .second, .val (.double (FP.l2d (p4.toInt64))), .second, .val (.double (FP.l2d (p5.toInt64))), .second, .val (.double (FP.l2d (p6.toInt64))), .second, .val (.ref a7), .val (.ref a11), .unset, .unset] [(.int (3 : Int32)), (.int (0 : Int32))])) _
      refine o_icmpYes X11.here hx (pc' := 99) (hb hby at_84) (XT.ii_lt_t (by decide)) (by decide) (by decide) ?_
      refine o_aload X11.here hx (hb hby at_99) rfl rfl ?_
      refine o_aload X11.here hx (hb hby at_101) rfl rfl ?_
      exact k
    obtain ⟨_, _, ⟨T16, L16, c16, n16⟩, -, X16, ⟨Lc16, hQ16, l16, y16, z16⟩, st16⟩ := Jvm.LawKit.callS X11 hx (y := (⟨"com/example/pareto_loom/paretoloom/model/NondominatedSet", "beats", "([D[D)Z"⟩ : MethodName)) hown (mvT hZ (hw _ (List.mem_of_getElem? (i := 1) rfl))) (mvT hZ (hw _ (List.mem_of_getElem? (i := 2) rfl))) (mvT hZ (hw _ (List.mem_of_getElem? (i := 3) rfl))) (mvT hZ (hw _ (List.mem_of_getElem? (i := 4) rfl))) (by decide) (backOf (W := 0) (rmB0 l Z a0 hw [] a7 a11 kc7 kc11 h11 n0 Z11 A12 A13) hZ (hw _ (List.mem_of_getElem? (i := 4) rfl)) (hw _ (List.mem_of_getElem? (i := 3) rfl)) (by decide) (by decide)) (g := (mkF m 103 #[.val (.int p1), .val (.int p2), .val (.int p3), .val (.int p4), .val (.int p5), .val (.int p6), .val (.int (0 : Int32)), .val (.double (FP.l2d (x0.toInt64))), .second, .val (.double (FP.l2d (p2.toInt64))), .second, .val (.double (FP.l2d (p3.toInt64))), .second, .val (.double (FP.l2d (p4.toInt64))), .second, .val (.double (FP.l2d (p5.toInt64))), .second, .val (.double (FP.l2d (p6.toInt64))), .second, .val (.ref a7), .val (.ref a11), .unset, .unset] [(.ref a11), (.ref a7)])) rfl (by rw [hml]; rfl) (argsL := [(.ref a7), (.ref a11)]) (rest := []) (lenOf pd_oaDaDcZ rfl) rfl (by show 2 * 0 + _ ≤ _; exact Nat.le_of_eq rfl) (hb hby at_103) (fun _ _ => ⟨rfl, e11, (by decide : 2 + 0 ≤ _), (by decide : 0 + 0 ≤ _)⟩)
    dsimp only [Pt.U, Pt.locs, Pt.cells, Pt.slots] at X16 l16 y16 z16 st16 hQ16
    subst l16 y16 z16
    obtain ⟨rfl, N16a, eh16⟩ := hQ16
    have N16 := Fr.app N0 N16a
    have e16 : T16.heap = h11 := eh16
    have cn17 : ∀ t, Steps p.tables e below (T16.setTop (mkF m 106 #[.val (.int p1), .val (.int p2), .val (.int p3), .val (.int p4), .val (.int p5), .val (.int p6), .val (.int (0 : Int32)), .val (.double (FP.l2d (x0.toInt64))), .second, .val (.double (FP.l2d (p2.toInt64))), .second, .val (.double (FP.l2d (p3.toInt64))), .second, .val (.double (FP.l2d (p4.toInt64))), .second, .val (.double (FP.l2d (p5.toInt64))), .second, .val (.double (FP.l2d (p6.toInt64))), .second, .val (.ref a7), .val (.ref a11), .unset, .unset] [(.int (if own_beats [] false = true then (1 : Int32) else 0))])) t → Steps p.tables e below (s₁.setTop (entryFrame m #[(.int p1), (.int p2), (.int p3), (.int p4), (.int p5), (.int p6)] maxLocals)) t := fun t k => cn15 t (st16 _ k)
    have cn18 : ∀ t, Steps p.tables e below (T16.setTop (mkF m 112 #[.val (.int p1), .val (.int p2), .val (.int p3), .val (.int p4), .val (.int p5), .val (.int p6), .val (.int (0 : Int32)), .val (.double (FP.l2d (x0.toInt64))), .second, .val (.double (FP.l2d (p2.toInt64))), .second, .val (.double (FP.l2d (p3.toInt64))), .second, .val (.double (FP.l2d (p4.toInt64))), .second, .val (.double (FP.l2d (p5.toInt64))), .second, .val (.double (FP.l2d (p6.toInt64))), .second, .val (.ref a7), .val (.ref a11), .val (.int (if own_beats [] false = true then (1 : Int32) else 0)), .unset] [(.ref a7), (.ref a11)])) t → Steps p.tables e below (s₁.setTop (entryFrame m #[(.int p1), (.int p2), (.int p3), (.int p4), (.int p5), (.int p6)] maxLocals)) t := by
      intro t k
      refine cn17 t ?_
      refine o_istore X16.here hx (hb hby at_106) (l' := #[.val (.int p1), .val (.int p2), .val (.int p3), .val (.int p4), .val (.int p5), .val (.int p6), .val (.int (0 : Int32)), .val (.double (FP.l2d (x0.toInt64))), .second, .val (.double (FP.l2d (p2.toInt64))), .second, .val (.double (FP.l2d (p3.toInt64))), .second, .val (.double (FP.l2d (p4.toInt64))), .second, .val (.double (FP.l2d (p5.toInt64))), .second, .val (.double (FP.l2d (p6.toInt64))), .second, .val (.ref a7), .val (.ref a11), .val (.int (if own_beats [] false = true then (1 : Int32) else 0)), .unset]) rfl ?_
      refine o_aload X16.here hx (hb hby at_108) rfl rfl ?_
      refine o_aload X16.here hx (hb hby at_110) rfl rfl ?_
      exact k
    obtain ⟨_, _, ⟨T19, L19, c19, n19⟩, -, X19, ⟨Lc19, hQ19, l19, y19, z19⟩, st19⟩ := Jvm.LawKit.callS X16 hx (y := (⟨"com/example/pareto_loom/paretoloom/model/NondominatedSet", "beats", "([D[D)Z"⟩ : MethodName)) hown (mvT hZ (hw _ (List.mem_of_getElem? (i := 1) rfl))) (mvT hZ (hw _ (List.mem_of_getElem? (i := 2) rfl))) (mvT hZ (hw _ (List.mem_of_getElem? (i := 3) rfl))) (mvT hZ (hw _ (List.mem_of_getElem? (i := 4) rfl))) (by decide) (backOf (W := 0) (rmB0 l Z a0 hw [] a11 a7 kc11 kc7 h11 n0 Z11 A13 A12) hZ (hw _ (List.mem_of_getElem? (i := 4) rfl)) (hw _ (List.mem_of_getElem? (i := 3) rfl)) (by decide) (by decide)) (g := (mkF m 112 #[.val (.int p1), .val (.int p2), .val (.int p3), .val (.int p4), .val (.int p5), .val (.int p6), .val (.int (0 : Int32)), .val (.double (FP.l2d (x0.toInt64))), .second, .val (.double (FP.l2d (p2.toInt64))), .second, .val (.double (FP.l2d (p3.toInt64))), .second, .val (.double (FP.l2d (p4.toInt64))), .second, .val (.double (FP.l2d (p5.toInt64))), .second, .val (.double (FP.l2d (p6.toInt64))), .second, .val (.ref a7), .val (.ref a11), .val (.int (if own_beats [] false = true then (1 : Int32) else 0)), .unset] [(.ref a7), (.ref a11)])) rfl (by rw [hml]; rfl) (argsL := [(.ref a11), (.ref a7)]) (rest := []) (lenOf pd_oaDaDcZ rfl) rfl (by show 2 * 0 + _ ≤ _; exact Nat.le_of_eq rfl) (hb hby at_112) (fun _ _ => ⟨rfl, e16, (by decide : 2 + 0 ≤ _), (by decide : 0 + 0 ≤ _)⟩)
    dsimp only [Pt.U, Pt.locs, Pt.cells, Pt.slots] at X19 l19 y19 z19 st19 hQ19
    subst l19 y19 z19
    obtain ⟨rfl, N19a, eh19⟩ := hQ19
    have N19 := Fr.app N16 N19a
    have e19 : T19.heap = h11 := eh19
    have cn20 : ∀ t, Steps p.tables e below (T19.setTop (mkF m 115 #[.val (.int p1), .val (.int p2), .val (.int p3), .val (.int p4), .val (.int p5), .val (.int p6), .val (.int (0 : Int32)), .val (.double (FP.l2d (x0.toInt64))), .second, .val (.double (FP.l2d (p2.toInt64))), .second, .val (.double (FP.l2d (p3.toInt64))), .second, .val (.double (FP.l2d (p4.toInt64))), .second, .val (.double (FP.l2d (p5.toInt64))), .second, .val (.double (FP.l2d (p6.toInt64))), .second, .val (.ref a7), .val (.ref a11), .val (.int (if own_beats [] false = true then (1 : Int32) else 0)), .unset] [(.int (if own_beats [] false = true then (1 : Int32) else 0))])) t → Steps p.tables e below (s₁.setTop (entryFrame m #[(.int p1), (.int p2), (.int p3), (.int p4), (.int p5), (.int p6)] maxLocals)) t := fun t k => cn18 t (st19 _ k)
    have cn21 : ∀ t, Steps p.tables e below (T19.setTop (mkF m 133 #[.val (.int p1), .val (.int p2), .val (.int p3), .val (.int p4), .val (.int p5), .val (.int p6), .val (.int (0 : Int32)), .val (.double (FP.l2d (x0.toInt64))), .second, .val (.double (FP.l2d (p2.toInt64))), .second, .val (.double (FP.l2d (p3.toInt64))), .second, .val (.double (FP.l2d (p4.toInt64))), .second, .val (.double (FP.l2d (p5.toInt64))), .second, .val (.double (FP.l2d (p6.toInt64))), .second, .val (.ref a7), .val (.ref a11), .val (.int (if own_beats [] false = true then (1 : Int32) else 0)), .val (.int (if own_beats [] false = true then (1 : Int32) else 0))] [(.double (FP.l2d (p6.toInt64))), (.double (FP.l2d (p5.toInt64))), (.double (FP.l2d (p4.toInt64))), (.double (FP.l2d (p3.toInt64))), (.double (FP.l2d (p2.toInt64))), (.double (FP.l2d (x0.toInt64))), (.int (0 : Int32)), (.int (if own_beats [] false = true then (1 : Int32) else 0))])) t → Steps p.tables e below (s₁.setTop (entryFrame m #[(.int p1), (.int p2), (.int p3), (.int p4), (.int p5), (.int p6)] maxLocals)) t := by
      intro t k
      refine cn20 t ?_
      refine o_istore X19.here hx (hb hby at_115) (l' := #[.val (.int p1), .val (.int p2), .val (.int p3), .val (.int p4), .val (.int p5), .val (.int p6), .val (.int (0 : Int32)), .val (.double (FP.l2d (x0.toInt64))), .second, .val (.double (FP.l2d (p2.toInt64))), .second, .val (.double (FP.l2d (p3.toInt64))), .second, .val (.double (FP.l2d (p4.toInt64))), .second, .val (.double (FP.l2d (p5.toInt64))), .second, .val (.double (FP.l2d (p6.toInt64))), .second, .val (.ref a7), .val (.ref a11), .val (.int (if own_beats [] false = true then (1 : Int32) else 0)), .val (.int (if own_beats [] false = true then (1 : Int32) else 0))]) rfl ?_
      refine o_iload X19.here hx (hb hby at_117) rfl ?_
      refine o_iload X19.here hx (hb hby at_119) rfl ?_
      refine o_dload X19.here hx (hb hby at_121) rfl ?_
      refine o_dload X19.here hx (hb hby at_123) rfl ?_
      refine o_dload X19.here hx (hb hby at_125) rfl ?_
      refine o_dload X19.here hx (hb hby at_127) rfl ?_
      refine o_dload X19.here hx (hb hby at_129) rfl ?_
      refine o_dload X19.here hx (hb hby at_131) rfl ?_
      exact k
    obtain ⟨_, _, ⟨T22, L22, c22, n22⟩, -, X22, ⟨Lc22, hQ22, l22, y22, z22⟩, st22⟩ := Jvm.LawKit.callS X19 hx (y := (⟨"com/example/pareto_loom/paretoloom/model/NondominatedSetBeatsPinLaw", "expect", "(IDDDDDD)Z"⟩ : MethodName)) hown (mvT hZ (hw _ (List.mem_of_getElem? (i := 5) rfl))) (mvT hZ (hw _ (List.mem_of_getElem? (i := 6) rfl))) (mvT hZ (hw _ (List.mem_of_getElem? (i := 7) rfl))) (mvT hZ (hw _ (List.mem_of_getElem? (i := 8) rfl))) (by decide) (backOf (W := 1) (rmE0 l Z a0 hw [] (x0.toInt64) (p2.toInt64) (p3.toInt64) (p4.toInt64) (p5.toInt64) (p6.toInt64) h11 n0 Z11 (own_bd_i _) (own_bd_i _) (own_bd_i _) (own_bd_i _) (own_bd_i _) (own_bd_i _)) hZ (hw _ (List.mem_of_getElem? (i := 8) rfl)) (hw _ (List.mem_of_getElem? (i := 7) rfl)) (by decide) (by decide)) (g := (mkF m 133 #[.val (.int p1), .val (.int p2), .val (.int p3), .val (.int p4), .val (.int p5), .val (.int p6), .val (.int (0 : Int32)), .val (.double (FP.l2d (x0.toInt64))), .second, .val (.double (FP.l2d (p2.toInt64))), .second, .val (.double (FP.l2d (p3.toInt64))), .second, .val (.double (FP.l2d (p4.toInt64))), .second, .val (.double (FP.l2d (p5.toInt64))), .second, .val (.double (FP.l2d (p6.toInt64))), .second, .val (.ref a7), .val (.ref a11), .val (.int (if own_beats [] false = true then (1 : Int32) else 0)), .val (.int (if own_beats [] false = true then (1 : Int32) else 0))] [(.double (FP.l2d (p6.toInt64))), (.double (FP.l2d (p5.toInt64))), (.double (FP.l2d (p4.toInt64))), (.double (FP.l2d (p3.toInt64))), (.double (FP.l2d (p2.toInt64))), (.double (FP.l2d (x0.toInt64))), (.int (0 : Int32)), (.int (if own_beats [] false = true then (1 : Int32) else 0))])) rfl (by rw [hml]; rfl) (argsL := [(.int (0 : Int32)), (.double (FP.l2d (x0.toInt64))), (.double (FP.l2d (p2.toInt64))), (.double (FP.l2d (p3.toInt64))), (.double (FP.l2d (p4.toInt64))), (.double (FP.l2d (p5.toInt64))), (.double (FP.l2d (p6.toInt64)))]) (rest := [(.int (if own_beats [] false = true then (1 : Int32) else 0))]) (lenOf pd_oIDDDDDDcZ rfl) rfl (by show 2 * 0 + _ ≤ _; exact Nat.le_of_eq rfl) (hb hby at_133) (fun _ _ => ⟨rfl, e19, (by decide : 2 + 0 ≤ _), (by decide : 0 + 0 ≤ _)⟩)
    dsimp only [Pt.U, Pt.locs, Pt.cells, Pt.slots] at X22 l22 y22 z22 st22 hQ22
    subst l22 y22 z22
    obtain ⟨rfl, N22a, eh22⟩ := hQ22
    have N22 := Fr.app N19 N22a
    have e22 : T22.heap = h11 := eh22
    have cn23 : ∀ t, Steps p.tables e below (T22.setTop (mkF m 136 #[.val (.int p1), .val (.int p2), .val (.int p3), .val (.int p4), .val (.int p5), .val (.int p6), .val (.int (0 : Int32)), .val (.double (FP.l2d (x0.toInt64))), .second, .val (.double (FP.l2d (p2.toInt64))), .second, .val (.double (FP.l2d (p3.toInt64))), .second, .val (.double (FP.l2d (p4.toInt64))), .second, .val (.double (FP.l2d (p5.toInt64))), .second, .val (.double (FP.l2d (p6.toInt64))), .second, .val (.ref a7), .val (.ref a11), .val (.int (if own_beats [] false = true then (1 : Int32) else 0)), .val (.int (if own_beats [] false = true then (1 : Int32) else 0))] [(.int (if own_beats [] false = true then (1 : Int32) else 0)), (.int (if own_beats [] false = true then (1 : Int32) else 0))])) t → Steps p.tables e below (s₁.setTop (entryFrame m #[(.int p1), (.int p2), (.int p3), (.int p4), (.int p5), (.int p6)] maxLocals)) t := fun t k => cn21 t (st22 _ k)
    have cn24 : ∀ t, Steps p.tables e below (T22.setTop (mkF m 155 #[.val (.int p1), .val (.int p2), .val (.int p3), .val (.int p4), .val (.int p5), .val (.int p6), .val (.int (0 : Int32)), .val (.double (FP.l2d (x0.toInt64))), .second, .val (.double (FP.l2d (p2.toInt64))), .second, .val (.double (FP.l2d (p3.toInt64))), .second, .val (.double (FP.l2d (p4.toInt64))), .second, .val (.double (FP.l2d (p5.toInt64))), .second, .val (.double (FP.l2d (p6.toInt64))), .second, .val (.ref a7), .val (.ref a11), .val (.int (if own_beats [] false = true then (1 : Int32) else 0)), .val (.int (if own_beats [] false = true then (1 : Int32) else 0))] [(.double (FP.l2d (p3.toInt64))), (.double (FP.l2d (p2.toInt64))), (.double (FP.l2d (x0.toInt64))), (.double (FP.l2d (p6.toInt64))), (.double (FP.l2d (p5.toInt64))), (.double (FP.l2d (p4.toInt64))), (.int (0 : Int32)), (.int (if own_beats [] false = true then (1 : Int32) else 0))])) t → Steps p.tables e below (s₁.setTop (entryFrame m #[(.int p1), (.int p2), (.int p3), (.int p4), (.int p5), (.int p6)] maxLocals)) t := by
      intro t k
      refine cn23 t ?_
      refine o_icmpNo X22.here hx (hb hby at_136) (XT.ii_ne_f rfl) ?_
      refine o_iload X22.here hx (hb hby at_139) rfl ?_
      refine o_iload X22.here hx (hb hby at_141) rfl ?_
      refine o_dload X22.here hx (hb hby at_143) rfl ?_
      refine o_dload X22.here hx (hb hby at_145) rfl ?_
      refine o_dload X22.here hx (hb hby at_147) rfl ?_
      refine o_dload X22.here hx (hb hby at_149) rfl ?_
      refine o_dload X22.here hx (hb hby at_151) rfl ?_
      refine o_dload X22.here hx (hb hby at_153) rfl ?_
      exact k
    obtain ⟨_, _, ⟨T25, L25, c25, n25⟩, -, X25, ⟨Lc25, hQ25, l25, y25, z25⟩, st25⟩ := Jvm.LawKit.callS X22 hx (y := (⟨"com/example/pareto_loom/paretoloom/model/NondominatedSetBeatsPinLaw", "expect", "(IDDDDDD)Z"⟩ : MethodName)) hown (mvT hZ (hw _ (List.mem_of_getElem? (i := 5) rfl))) (mvT hZ (hw _ (List.mem_of_getElem? (i := 6) rfl))) (mvT hZ (hw _ (List.mem_of_getElem? (i := 7) rfl))) (mvT hZ (hw _ (List.mem_of_getElem? (i := 8) rfl))) (by decide) (backOf (W := 1) (rmE0 l Z a0 hw [] (p4.toInt64) (p5.toInt64) (p6.toInt64) (x0.toInt64) (p2.toInt64) (p3.toInt64) h11 n0 Z11 (own_bd_i _) (own_bd_i _) (own_bd_i _) (own_bd_i _) (own_bd_i _) (own_bd_i _)) hZ (hw _ (List.mem_of_getElem? (i := 8) rfl)) (hw _ (List.mem_of_getElem? (i := 7) rfl)) (by decide) (by decide)) (g := (mkF m 155 #[.val (.int p1), .val (.int p2), .val (.int p3), .val (.int p4), .val (.int p5), .val (.int p6), .val (.int (0 : Int32)), .val (.double (FP.l2d (x0.toInt64))), .second, .val (.double (FP.l2d (p2.toInt64))), .second, .val (.double (FP.l2d (p3.toInt64))), .second, .val (.double (FP.l2d (p4.toInt64))), .second, .val (.double (FP.l2d (p5.toInt64))), .second, .val (.double (FP.l2d (p6.toInt64))), .second, .val (.ref a7), .val (.ref a11), .val (.int (if own_beats [] false = true then (1 : Int32) else 0)), .val (.int (if own_beats [] false = true then (1 : Int32) else 0))] [(.double (FP.l2d (p3.toInt64))), (.double (FP.l2d (p2.toInt64))), (.double (FP.l2d (x0.toInt64))), (.double (FP.l2d (p6.toInt64))), (.double (FP.l2d (p5.toInt64))), (.double (FP.l2d (p4.toInt64))), (.int (0 : Int32)), (.int (if own_beats [] false = true then (1 : Int32) else 0))])) rfl (by rw [hml]; rfl) (argsL := [(.int (0 : Int32)), (.double (FP.l2d (p4.toInt64))), (.double (FP.l2d (p5.toInt64))), (.double (FP.l2d (p6.toInt64))), (.double (FP.l2d (x0.toInt64))), (.double (FP.l2d (p2.toInt64))), (.double (FP.l2d (p3.toInt64)))]) (rest := [(.int (if own_beats [] false = true then (1 : Int32) else 0))]) (lenOf pd_oIDDDDDDcZ rfl) rfl (by show 2 * 0 + _ ≤ _; exact Nat.le_of_eq rfl) (hb hby at_155) (fun _ _ => ⟨rfl, e22, (by decide : 2 + 0 ≤ _), (by decide : 0 + 0 ≤ _)⟩)
    dsimp only [Pt.U, Pt.locs, Pt.cells, Pt.slots] at X25 l25 y25 z25 st25 hQ25
    subst l25 y25 z25
    obtain ⟨rfl, N25a, eh25⟩ := hQ25
    have N25 := Fr.app N22 N25a
    have e25 : T25.heap = h11 := eh25
    have cn26 : ∀ t, Steps p.tables e below (T25.setTop (mkF m 158 #[.val (.int p1), .val (.int p2), .val (.int p3), .val (.int p4), .val (.int p5), .val (.int p6), .val (.int (0 : Int32)), .val (.double (FP.l2d (x0.toInt64))), .second, .val (.double (FP.l2d (p2.toInt64))), .second, .val (.double (FP.l2d (p3.toInt64))), .second, .val (.double (FP.l2d (p4.toInt64))), .second, .val (.double (FP.l2d (p5.toInt64))), .second, .val (.double (FP.l2d (p6.toInt64))), .second, .val (.ref a7), .val (.ref a11), .val (.int (if own_beats [] false = true then (1 : Int32) else 0)), .val (.int (if own_beats [] false = true then (1 : Int32) else 0))] [(.int (if own_beats [] false = true then (1 : Int32) else 0)), (.int (if own_beats [] false = true then (1 : Int32) else 0))])) t → Steps p.tables e below (s₁.setTop (entryFrame m #[(.int p1), (.int p2), (.int p3), (.int p4), (.int p5), (.int p6)] maxLocals)) t := fun t k => cn24 t (st25 _ k)
    have cn27 : ∀ t, Steps p.tables e below (T25.setTop (mkF m 166 #[.val (.int p1), .val (.int p2), .val (.int p3), .val (.int p4), .val (.int p5), .val (.int p6), .val (.int (0 : Int32)), .val (.double (FP.l2d (x0.toInt64))), .second, .val (.double (FP.l2d (p2.toInt64))), .second, .val (.double (FP.l2d (p3.toInt64))), .second, .val (.double (FP.l2d (p4.toInt64))), .second, .val (.double (FP.l2d (p5.toInt64))), .second, .val (.double (FP.l2d (p6.toInt64))), .second, .val (.ref a7), .val (.ref a11), .val (.int (if own_beats [] false = true then (1 : Int32) else 0)), .val (.int (if own_beats [] false = true then (1 : Int32) else 0))] [(.int (1 : Int32))])) t → Steps p.tables e below (s₁.setTop (entryFrame m #[(.int p1), (.int p2), (.int p3), (.int p4), (.int p5), (.int p6)] maxLocals)) t := by
      intro t k
      refine cn26 t ?_
      refine o_icmpNo X25.here hx (hb hby at_158) (XT.ii_ne_f rfl) ?_
      refine o_iconstV X25.here hx (1 : Int32) (hb hby at_161) rfl ?_
      show Steps p.tables e below (T25.setTop (mkF m 162 #[.val (.int p1), .val (.int p2), .val (.int p3), .val (.int p4), .val (.int p5), .val (.int p6), .val (.int (0 : Int32)), .val (.double (FP.l2d (x0.toInt64))), .second, .val (.double (FP.l2d (p2.toInt64))), .second, .val (.double (FP.l2d (p3.toInt64))), .second, .val (.double (FP.l2d (p4.toInt64))), .second, .val (.double (FP.l2d (p5.toInt64))), .second, .val (.double (FP.l2d (p6.toInt64))), .second, .val (.ref a7), .val (.ref a11), .val (.int (if own_beats [] false = true then (1 : Int32) else 0)), .val (.int (if own_beats [] false = true then (1 : Int32) else 0))] [(.int (1 : Int32))])) _
      refine o_goto X25.here hx (pc' := 166) (hb hby at_162) (by decide) (by decide) ?_
      exact k
    obtain ⟨fs, hr, hrun, hended, hW, hsame⟩ := X25.leave (v := some (.int (1 : Int32))) (fun h => by rw [Bd.returns] at h; cases h)
    refine ⟨_, _, cn27 _ ?_, hrun, hended, _, _, rfl, ?_, ⟨_, rfl⟩, hW, hsame.mono (by decide) (by decide)⟩
    · exact retN X25 hx (t := .boolean) Bd.returns (by simp) (hb hby at_166) hr
    · show Q0 Z p1 p2 p3 p4 p5 p6 h0 n0 _ T25.heap _
      rw [e25]
      exact ⟨rfl, N25⟩
  · -- (1 : Int32)
    obtain ⟨x0, h_x0⟩ : ∃ z : Int32, z = p1 >>> ((2 : Int32) &&& 31) := ⟨_, rfl⟩
    have cn28 : ∀ t, Steps p.tables e below (s₁.setTop (mkF m 35 #[.val (.int p1), .val (.int p2), .val (.int p3), .val (.int p4), .val (.int p5), .val (.int p6), .val (.int (1 : Int32)), .val (.double (FP.l2d (x0.toInt64))), .second, .val (.double (FP.l2d (p2.toInt64))), .second, .val (.double (FP.l2d (p3.toInt64))), .second, .val (.double (FP.l2d (p4.toInt64))), .second, .val (.double (FP.l2d (p5.toInt64))), .second, .val (.double (FP.l2d (p6.toInt64))), .second, .unset, .unset, .unset, .unset] [(.int (1 : Int32))])) t → Steps p.tables e below (s₁.setTop (entryFrame m #[(.int p1), (.int p2), (.int p3), (.int p4), (.int p5), (.int p6)] maxLocals)) t := by
      intro t k
      refine cn1 t ?_
      rw [hs3_1]
      refine o_istore X0.here hx (hb hby at_3) (l' := #[.val (.int p1), .val (.int p2), .val (.int p3), .val (.int p4), .val (.int p5), .val (.int p6), .val (.int (1 : Int32)), .unset, .unset, .unset, .unset, .unset, .unset, .unset, .unset, .unset, .unset, .unset, .unset, .unset, .unset, .unset, .unset]) rfl ?_
      refine o_iloadN X0.here hx (hb hby at_5) rfl ?_
      refine o_iconstV X0.here hx (2 : Int32) (hb hby at_6) rfl ?_
      refine o_ishr X0.here hx (hb hby at_7) ?_
      rw [← h_x0]
      refine o_i2dS X0.here hx (hb hby at_8) (v := FP.l2d (x0.toInt64)) (i2d_w _) ?_
      refine o_dstore X0.here hx (hb hby at_9) (l' := #[.val (.int p1), .val (.int p2), .val (.int p3), .val (.int p4), .val (.int p5), .val (.int p6), .val (.int (1 : Int32)), .val (.double (FP.l2d (x0.toInt64))), .second, .unset, .unset, .unset, .unset, .unset, .unset, .unset, .unset, .unset, .unset, .unset, .unset, .unset, .unset]) rfl ?_
      refine o_iloadN X0.here hx (hb hby at_11) rfl ?_
      refine o_i2dS X0.here hx (hb hby at_12) (v := FP.l2d (p2.toInt64)) (i2d_w _) ?_
      refine o_dstore X0.here hx (hb hby at_13) (l' := #[.val (.int p1), .val (.int p2), .val (.int p3), .val (.int p4), .val (.int p5), .val (.int p6), .val (.int (1 : Int32)), .val (.double (FP.l2d (x0.toInt64))), .second, .val (.double (FP.l2d (p2.toInt64))), .second, .unset, .unset, .unset, .unset, .unset, .unset, .unset, .unset, .unset, .unset, .unset, .unset]) rfl ?_
      refine o_iloadN X0.here hx (hb hby at_15) rfl ?_
      refine o_i2dS X0.here hx (hb hby at_16) (v := FP.l2d (p3.toInt64)) (i2d_w _) ?_
      refine o_dstore X0.here hx (hb hby at_17) (l' := #[.val (.int p1), .val (.int p2), .val (.int p3), .val (.int p4), .val (.int p5), .val (.int p6), .val (.int (1 : Int32)), .val (.double (FP.l2d (x0.toInt64))), .second, .val (.double (FP.l2d (p2.toInt64))), .second, .val (.double (FP.l2d (p3.toInt64))), .second, .unset, .unset, .unset, .unset, .unset, .unset, .unset, .unset, .unset, .unset]) rfl ?_
      refine o_iloadN X0.here hx (hb hby at_19) rfl ?_
      refine o_i2dS X0.here hx (hb hby at_20) (v := FP.l2d (p4.toInt64)) (i2d_w _) ?_
      refine o_dstore X0.here hx (hb hby at_21) (l' := #[.val (.int p1), .val (.int p2), .val (.int p3), .val (.int p4), .val (.int p5), .val (.int p6), .val (.int (1 : Int32)), .val (.double (FP.l2d (x0.toInt64))), .second, .val (.double (FP.l2d (p2.toInt64))), .second, .val (.double (FP.l2d (p3.toInt64))), .second, .val (.double (FP.l2d (p4.toInt64))), .second, .unset, .unset, .unset, .unset, .unset, .unset, .unset, .unset]) rfl ?_
      refine o_iload X0.here hx (hb hby at_23) rfl ?_
      refine o_i2dS X0.here hx (hb hby at_25) (v := FP.l2d (p5.toInt64)) (i2d_w _) ?_
      refine o_dstore X0.here hx (hb hby at_26) (l' := #[.val (.int p1), .val (.int p2), .val (.int p3), .val (.int p4), .val (.int p5), .val (.int p6), .val (.int (1 : Int32)), .val (.double (FP.l2d (x0.toInt64))), .second, .val (.double (FP.l2d (p2.toInt64))), .second, .val (.double (FP.l2d (p3.toInt64))), .second, .val (.double (FP.l2d (p4.toInt64))), .second, .val (.double (FP.l2d (p5.toInt64))), .second, .unset, .unset, .unset, .unset, .unset, .unset]) rfl ?_
      refine o_iload X0.here hx (hb hby at_28) rfl ?_
      refine o_i2dS X0.here hx (hb hby at_30) (v := FP.l2d (p6.toInt64)) (i2d_w _) ?_
      refine o_dstore X0.here hx (hb hby at_31) (l' := #[.val (.int p1), .val (.int p2), .val (.int p3), .val (.int p4), .val (.int p5), .val (.int p6), .val (.int (1 : Int32)), .val (.double (FP.l2d (x0.toInt64))), .second, .val (.double (FP.l2d (p2.toInt64))), .second, .val (.double (FP.l2d (p3.toInt64))), .second, .val (.double (FP.l2d (p4.toInt64))), .second, .val (.double (FP.l2d (p5.toInt64))), .second, .val (.double (FP.l2d (p6.toInt64))), .second, .unset, .unset, .unset, .unset]) rfl ?_
      refine o_iload X0.here hx (hb hby at_33) rfl ?_
      exact k
    obtain ⟨T29, h29, kc29, X29, e29, E29, A29, st29⟩ := newP X0 hx hZ (hw _ (List.mem_of_getElem? (i := 0) rfl)) e0 (g := (mkF m 35 #[.val (.int p1), .val (.int p2), .val (.int p3), .val (.int p4), .val (.int p5), .val (.int p6), .val (.int (1 : Int32)), .val (.double (FP.l2d (x0.toInt64))), .second, .val (.double (FP.l2d (p2.toInt64))), .second, .val (.double (FP.l2d (p3.toInt64))), .second, .val (.double (FP.l2d (p4.toInt64))), .second, .val (.double (FP.l2d (p5.toInt64))), .second, .val (.double (FP.l2d (p6.toInt64))), .second, .unset, .unset, .unset, .unset] [(.int (1 : Int32))])) rfl (hb hby at_35) rfl (by decide) (cap := 1) (by decide) (by decide) (by decide) (by decide)
    obtain ⟨a29, g29⟩ : ∃ z, z = h0.size := ⟨_, rfl⟩
    rw [← g29] at A29 st29
    have Z29 : n0 ≤ h29.size := (Nat.le_trans Z0 E29.1)
    have G29 : n0 ≤ a29 := (Nat.le_trans Z0 (Nat.le_of_eq g29.symm))
    have A30 : Arv Z h29 a29 kc29 .double (1 : Int32) [(.double (0 : UInt64))] (.double (0 : UInt64)) := ((Arv.new A29 (by decide)).pad (pad_rep [] _ 1))
    have cn31 : ∀ t, Steps p.tables e below (T29.setTop (mkF m 37 #[.val (.int p1), .val (.int p2), .val (.int p3), .val (.int p4), .val (.int p5), .val (.int p6), .val (.int (1 : Int32)), .val (.double (FP.l2d (x0.toInt64))), .second, .val (.double (FP.l2d (p2.toInt64))), .second, .val (.double (FP.l2d (p3.toInt64))), .second, .val (.double (FP.l2d (p4.toInt64))), .second, .val (.double (FP.l2d (p5.toInt64))), .second, .val (.double (FP.l2d (p6.toInt64))), .second, .unset, .unset, .unset, .unset] [(.ref a29)])) t → Steps p.tables e below (s₁.setTop (entryFrame m #[(.int p1), (.int p2), (.int p3), (.int p4), (.int p5), (.int p6)] maxLocals)) t := fun t k => cn28 t (st29 _ k)
    have cn32 : ∀ t, Steps p.tables e below (T29.setTop (mkF m 41 #[.val (.int p1), .val (.int p2), .val (.int p3), .val (.int p4), .val (.int p5), .val (.int p6), .val (.int (1 : Int32)), .val (.double (FP.l2d (x0.toInt64))), .second, .val (.double (FP.l2d (p2.toInt64))), .second, .val (.double (FP.l2d (p3.toInt64))), .second, .val (.double (FP.l2d (p4.toInt64))), .second, .val (.double (FP.l2d (p5.toInt64))), .second, .val (.double (FP.l2d (p6.toInt64))), .second, .val (.ref a29), .unset, .unset, .unset] [(.int (1 : Int32))])) t → Steps p.tables e below (s₁.setTop (entryFrame m #[(.int p1), (.int p2), (.int p3), (.int p4), (.int p5), (.int p6)] maxLocals)) t := by
      intro t k
      refine cn31 t ?_
      refine o_astore X29.here hx (hb hby at_37) rfl (l' := #[.val (.int p1), .val (.int p2), .val (.int p3), .val (.int p4), .val (.int p5), .val (.int p6), .val (.int (1 : Int32)), .val (.double (FP.l2d (x0.toInt64))), .second, .val (.double (FP.l2d (p2.toInt64))), .second, .val (.double (FP.l2d (p3.toInt64))), .second, .val (.double (FP.l2d (p4.toInt64))), .second, .val (.double (FP.l2d (p5.toInt64))), .second, .val (.double (FP.l2d (p6.toInt64))), .second, .val (.ref a29), .unset, .unset, .unset]) rfl ?_
      refine o_iload X29.here hx (hb hby at_39) rfl ?_
      exact k
    obtain ⟨T33, h33, kc33, X33, e33, E33, A33, st33⟩ := newP X29 hx hZ (hw _ (List.mem_of_getElem? (i := 0) rfl)) e29 (g := (mkF m 41 #[.val (.int p1), .val (.int p2), .val (.int p3), .val (.int p4), .val (.int p5), .val (.int p6), .val (.int (1 : Int32)), .val (.double (FP.l2d (x0.toInt64))), .second, .val (.double (FP.l2d (p2.toInt64))), .second, .val (.double (FP.l2d (p3.toInt64))), .second, .val (.double (FP.l2d (p4.toInt64))), .second, .val (.double (FP.l2d (p5.toInt64))), .second, .val (.double (FP.l2d (p6.toInt64))), .second, .val (.ref a29), .unset, .unset, .unset] [(.int (1 : Int32))])) rfl (hb hby at_41) rfl (by decide) (cap := 1) (by decide) (by decide) (by decide) (by decide)
    obtain ⟨a33, g33⟩ : ∃ z, z = h29.size := ⟨_, rfl⟩
    rw [← g33] at A33 st33
    have Z33 : n0 ≤ h33.size := (Nat.le_trans Z29 E33.1)
    have G33 : n0 ≤ a33 := (Nat.le_trans Z29 (Nat.le_of_eq g33.symm))
    have ne33_a29 : a29 ≠ a33 := Nat.ne_of_lt (Nat.lt_of_lt_of_eq A30.lt g33.symm)
    have A34 : Arv Z h33 a29 kc29 .double (1 : Int32) [(.double (0 : UInt64))] (.double (0 : UInt64)) := (A30.ext E33)
    have A35 : Arv Z h33 a33 kc33 .double (1 : Int32) [(.double (0 : UInt64))] (.double (0 : UInt64)) := ((Arv.new A33 (by decide)).pad (pad_rep [] _ 1))
    have cn36 : ∀ t, Steps p.tables e below (T33.setTop (mkF m 43 #[.val (.int p1), .val (.int p2), .val (.int p3), .val (.int p4), .val (.int p5), .val (.int p6), .val (.int (1 : Int32)), .val (.double (FP.l2d (x0.toInt64))), .second, .val (.double (FP.l2d (p2.toInt64))), .second, .val (.double (FP.l2d (p3.toInt64))), .second, .val (.double (FP.l2d (p4.toInt64))), .second, .val (.double (FP.l2d (p5.toInt64))), .second, .val (.double (FP.l2d (p6.toInt64))), .second, .val (.ref a29), .unset, .unset, .unset] [(.ref a33)])) t → Steps p.tables e below (s₁.setTop (entryFrame m #[(.int p1), (.int p2), (.int p3), (.int p4), (.int p5), (.int p6)] maxLocals)) t := fun t k => cn32 t (st33 _ k)
    have cn37 : ∀ t, Steps p.tables e below (T33.setTop (mkF m 56 #[.val (.int p1), .val (.int p2), .val (.int p3), .val (.int p4), .val (.int p5), .val (.int p6), .val (.int (1 : Int32)), .val (.double (FP.l2d (x0.toInt64))), .second, .val (.double (FP.l2d (p2.toInt64))), .second, .val (.double (FP.l2d (p3.toInt64))), .second, .val (.double (FP.l2d (p4.toInt64))), .second, .val (.double (FP.l2d (p5.toInt64))), .second, .val (.double (FP.l2d (p6.toInt64))), .second, .val (.ref a29), .val (.ref a33), .unset, .unset] [(.double (FP.l2d (x0.toInt64))), (.int (0 : Int32)), (.ref a29)])) t → Steps p.tables e below (s₁.setTop (entryFrame m #[(.int p1), (.int p2), (.int p3), (.int p4), (.int p5), (.int p6)] maxLocals)) t := by
      intro t k
      refine cn36 t ?_
      refine o_astore X33.here hx (hb hby at_43) rfl (l' := #[.val (.int p1), .val (.int p2), .val (.int p3), .val (.int p4), .val (.int p5), .val (.int p6), .val (.int (1 : Int32)), .val (.double (FP.l2d (x0.toInt64))), .second, .val (.double (FP.l2d (p2.toInt64))), .second, .val (.double (FP.l2d (p3.toInt64))), .second, .val (.double (FP.l2d (p4.toInt64))), .second, .val (.double (FP.l2d (p5.toInt64))), .second, .val (.double (FP.l2d (p6.toInt64))), .second, .val (.ref a29), .val (.ref a33), .unset, .unset]) rfl ?_
      refine o_iload X33.here hx (hb hby at_45) rfl ?_
      refine o_iconstV X33.here hx (1 : Int32) (hb hby at_47) rfl ?_
      show Steps p.tables e below (T33.setTop (mkF m 48 #[.val (.int p1), .val (.int p2), .val (.int p3), .val (.int p4), .val (.int p5), .val (.int p6), .val (.int (1 : Int32)), .val (.double (FP.l2d (x0.toInt64))), .second, .val (.double (FP.l2d (p2.toInt64))), .second, .val (.double (FP.l2d (p3.toInt64))), .second, .val (.double (FP.l2d (p4.toInt64))), .second, .val (.double (FP.l2d (p5.toInt64))), .second, .val (.double (FP.l2d (p6.toInt64))), .second, .val (.ref a29), .val (.ref a33), .unset, .unset] [(.int (1 : Int32)), (.int (1 : Int32))])) _
      refine o_icmpNo X33.here hx (hb hby at_48) (XT.ii_lt_f (by decide)) ?_
      refine o_aload X33.here hx (hb hby at_51) rfl rfl ?_
      refine o_iconstV X33.here hx (0 : Int32) (hb hby at_53) rfl ?_
      refine o_dload X33.here hx (hb hby at_54) rfl ?_
      exact k
    obtain ⟨cl38, Ar38, qk38, Sz38, Mz38, Hh38, Gg38⟩ := A34
    have A34 : Arv Z h33 a29 kc29 .double (1 : Int32) [(.double (0 : UInt64))] (.double (0 : UInt64)) := ⟨cl38, Ar38, qk38, Sz38, Mz38, Hh38, Gg38⟩
    obtain ⟨T39, h39, X39, e39, W39, st39⟩ := stD X33 hx hZ e33 Ar38 (j := (0 : Int32)) (inb_of Sz38 ⟨(by decide), (by decide)⟩) (g := (mkF m 56 #[.val (.int p1), .val (.int p2), .val (.int p3), .val (.int p4), .val (.int p5), .val (.int p6), .val (.int (1 : Int32)), .val (.double (FP.l2d (x0.toInt64))), .second, .val (.double (FP.l2d (p2.toInt64))), .second, .val (.double (FP.l2d (p3.toInt64))), .second, .val (.double (FP.l2d (p4.toInt64))), .second, .val (.double (FP.l2d (p5.toInt64))), .second, .val (.double (FP.l2d (p6.toInt64))), .second, .val (.ref a29), .val (.ref a33), .unset, .unset] [(.double (FP.l2d (x0.toInt64))), (.int (0 : Int32)), (.ref a29)])) rfl rfl (hb hby at_56)
    have N39 := Fr.snoc X39 N0 G29
    have Z39 : n0 ≤ h39.size := (by rw [W39.size]; exact Z33)
    have A40 : Arv Z h39 a29 kc29 .double (1 : Int32) [(.double (FP.l2d (x0.toInt64)))] (.double (0 : UInt64)) := (Arv.set Ar38 qk38 Sz38 Mz38 Hh38 Gg38 rfl W39 0 (by decide) (Nat.le_of_ble_eq_true rfl))
    have A41 : Arv Z h39 a33 kc33 .double (1 : Int32) [(.double (0 : UInt64))] (.double (0 : UInt64)) := (A35.other W39 (Ne.symm ne33_a29))
    have cn42 : ∀ t, Steps p.tables e below (T39.setTop (mkF m 57 #[.val (.int p1), .val (.int p2), .val (.int p3), .val (.int p4), .val (.int p5), .val (.int p6), .val (.int (1 : Int32)), .val (.double (FP.l2d (x0.toInt64))), .second, .val (.double (FP.l2d (p2.toInt64))), .second, .val (.double (FP.l2d (p3.toInt64))), .second, .val (.double (FP.l2d (p4.toInt64))), .second, .val (.double (FP.l2d (p5.toInt64))), .second, .val (.double (FP.l2d (p6.toInt64))), .second, .val (.ref a29), .val (.ref a33), .unset, .unset] [])) t → Steps p.tables e below (s₁.setTop (entryFrame m #[(.int p1), (.int p2), (.int p3), (.int p4), (.int p5), (.int p6)] maxLocals)) t := fun t k => cn37 t (st39 _ k)
    have cn43 : ∀ t, Steps p.tables e below (T39.setTop (mkF m 62 #[.val (.int p1), .val (.int p2), .val (.int p3), .val (.int p4), .val (.int p5), .val (.int p6), .val (.int (1 : Int32)), .val (.double (FP.l2d (x0.toInt64))), .second, .val (.double (FP.l2d (p2.toInt64))), .second, .val (.double (FP.l2d (p3.toInt64))), .second, .val (.double (FP.l2d (p4.toInt64))), .second, .val (.double (FP.l2d (p5.toInt64))), .second, .val (.double (FP.l2d (p6.toInt64))), .second, .val (.ref a29), .val (.ref a33), .unset, .unset] [(.double (FP.l2d (p4.toInt64))), (.int (0 : Int32)), (.ref a33)])) t → Steps p.tables e below (s₁.setTop (entryFrame m #[(.int p1), (.int p2), (.int p3), (.int p4), (.int p5), (.int p6)] maxLocals)) t := by
      intro t k
      refine cn42 t ?_
      refine o_aload X39.here hx (hb hby at_57) rfl rfl ?_
      refine o_iconstV X39.here hx (0 : Int32) (hb hby at_59) rfl ?_
      refine o_dload X39.here hx (hb hby at_60) rfl ?_
      exact k
    obtain ⟨cl44, Ar44, qk44, Sz44, Mz44, Hh44, Gg44⟩ := A41
    have A41 : Arv Z h39 a33 kc33 .double (1 : Int32) [(.double (0 : UInt64))] (.double (0 : UInt64)) := ⟨cl44, Ar44, qk44, Sz44, Mz44, Hh44, Gg44⟩
    obtain ⟨T45, h45, X45, e45, W45, st45⟩ := stD X39 hx hZ e39 Ar44 (j := (0 : Int32)) (inb_of Sz44 ⟨(by decide), (by decide)⟩) (g := (mkF m 62 #[.val (.int p1), .val (.int p2), .val (.int p3), .val (.int p4), .val (.int p5), .val (.int p6), .val (.int (1 : Int32)), .val (.double (FP.l2d (x0.toInt64))), .second, .val (.double (FP.l2d (p2.toInt64))), .second, .val (.double (FP.l2d (p3.toInt64))), .second, .val (.double (FP.l2d (p4.toInt64))), .second, .val (.double (FP.l2d (p5.toInt64))), .second, .val (.double (FP.l2d (p6.toInt64))), .second, .val (.ref a29), .val (.ref a33), .unset, .unset] [(.double (FP.l2d (p4.toInt64))), (.int (0 : Int32)), (.ref a33)])) rfl rfl (hb hby at_62)
    have N45 := Fr.snoc X45 N39 G33
    have Z45 : n0 ≤ h45.size := (by rw [W45.size]; exact Z39)
    have A46 : Arv Z h45 a29 kc29 .double (1 : Int32) [(.double (FP.l2d (x0.toInt64)))] (.double (0 : UInt64)) := (A40.other W45 ne33_a29)
    have A47 : Arv Z h45 a33 kc33 .double (1 : Int32) [(.double (FP.l2d (p4.toInt64)))] (.double (0 : UInt64)) := (Arv.set Ar44 qk44 Sz44 Mz44 Hh44 Gg44 rfl W45 0 (by decide) (Nat.le_of_ble_eq_true rfl))
    have cn48 : ∀ t, Steps p.tables e below (T45.setTop (mkF m 63 #[.val (.int p1), .val (.int p2), .val (.int p3), .val (.int p4), .val (.int p5), .val (.int p6), .val (.int (1 : Int32)), .val (.double (FP.l2d (x0.toInt64))), .second, .val (.double (FP.l2d (p2.toInt64))), .second, .val (.double (FP.l2d (p3.toInt64))), .second, .val (.double (FP.l2d (p4.toInt64))), .second, .val (.double (FP.l2d (p5.toInt64))), .second, .val (.double (FP.l2d (p6.toInt64))), .second, .val (.ref a29), .val (.ref a33), .unset, .unset] [])) t → Steps p.tables e below (s₁.setTop (entryFrame m #[(.int p1), (.int p2), (.int p3), (.int p4), (.int p5), (.int p6)] maxLocals)) t := fun t k => cn43 t (st45 _ k)
    have cn49 : ∀ t, Steps p.tables e below (T45.setTop (mkF m 103 #[.val (.int p1), .val (.int p2), .val (.int p3), .val (.int p4), .val (.int p5), .val (.int p6), .val (.int (1 : Int32)), .val (.double (FP.l2d (x0.toInt64))), .second, .val (.double (FP.l2d (p2.toInt64))), .second, .val (.double (FP.l2d (p3.toInt64))), .second, .val (.double (FP.l2d (p4.toInt64))), .second, .val (.double (FP.l2d (p5.toInt64))), .second, .val (.double (FP.l2d (p6.toInt64))), .second, .val (.ref a29), .val (.ref a33), .unset, .unset] [(.ref a33), (.ref a29)])) t → Steps p.tables e below (s₁.setTop (entryFrame m #[(.int p1), (.int p2), (.int p3), (.int p4), (.int p5), (.int p6)] maxLocals)) t := by
      intro t k
      refine cn48 t ?_
      refine o_iload X45.here hx (hb hby at_63) rfl ?_
      refine o_iconstV X45.here hx (2 : Int32) (hb hby at_65) rfl ?_
      show Steps p.tables e below (T45.setTop (mkF m 66 #[.val (.int p1), .val (.int p2), .val (.int p3), .val (.int p4), .val (.int p5), .val (.int p6), .val (.int (1 : Int32)), .val (.double (FP.l2d (x0.toInt64))), .second, .val (.double (FP.l2d (p2.toInt64))), .second, .val (.double (FP.l2d (p3.toInt64))), .second, .val (.double (FP.l2d (p4.toInt64))), .second, .val (.double (FP.l2d (p5.toInt64))), .second, .val (.double (FP.l2d (p6.toInt64))), .second, .val (.ref a29), .val (.ref a33), .unset, .unset] [(.int (2 : Int32)), (.int (1 : Int32))])) _
      refine o_icmpYes X45.here hx (pc' := 81) (hb hby at_66) (XT.ii_lt_t (by decide)) (by decide) (by decide) ?_
      refine o_iload X45.here hx (hb hby at_81) rfl ?_
      refine o_iconstV X45.here hx (3 : Int32) (hb hby at_83) rfl ?_
      show Steps p.tables e below (T45.setTop (mkF m 84 #[.val (.int p1), .val (.int p2), .val (.int p3), .val (.int p4), .val (.int p5), .val (.int p6), .val (.int (1 : Int32)), .val (.double (FP.l2d (x0.toInt64))), .second, .val (.double (FP.l2d (p2.toInt64))), .second, .val (.double (FP.l2d (p3.toInt64))), .second, .val (.double (FP.l2d (p4.toInt64))), .second, .val (.double (FP.l2d (p5.toInt64))), .second, .val (.double (FP.l2d (p6.toInt64))), .second, .val (.ref a29), .val (.ref a33), .unset, .unset] [(.int (3 : Int32)), (.int (1 : Int32))])) _
      refine o_icmpYes X45.here hx (pc' := 99) (hb hby at_84) (XT.ii_lt_t (by decide)) (by decide) (by decide) ?_
      refine o_aload X45.here hx (hb hby at_99) rfl rfl ?_
      refine o_aload X45.here hx (hb hby at_101) rfl rfl ?_
      exact k
    obtain ⟨_, _, ⟨T50, L50, c50, n50⟩, -, X50, ⟨Lc50, hQ50, l50, y50, z50⟩, st50⟩ := Jvm.LawKit.callS X45 hx (y := (⟨"com/example/pareto_loom/paretoloom/model/NondominatedSet", "beats", "([D[D)Z"⟩ : MethodName)) hown (mvT hZ (hw _ (List.mem_of_getElem? (i := 1) rfl))) (mvT hZ (hw _ (List.mem_of_getElem? (i := 2) rfl))) (mvT hZ (hw _ (List.mem_of_getElem? (i := 3) rfl))) (mvT hZ (hw _ (List.mem_of_getElem? (i := 4) rfl))) (by decide) (backOf (W := 0) (rmB1 l Z a0 hw [] a29 a33 kc29 kc33 (x0.toInt64) (p4.toInt64) h45 n0 Z45 (own_bd_i _) (own_bd_i _) A46 A47) hZ (hw _ (List.mem_of_getElem? (i := 4) rfl)) (hw _ (List.mem_of_getElem? (i := 3) rfl)) (by decide) (by decide)) (g := (mkF m 103 #[.val (.int p1), .val (.int p2), .val (.int p3), .val (.int p4), .val (.int p5), .val (.int p6), .val (.int (1 : Int32)), .val (.double (FP.l2d (x0.toInt64))), .second, .val (.double (FP.l2d (p2.toInt64))), .second, .val (.double (FP.l2d (p3.toInt64))), .second, .val (.double (FP.l2d (p4.toInt64))), .second, .val (.double (FP.l2d (p5.toInt64))), .second, .val (.double (FP.l2d (p6.toInt64))), .second, .val (.ref a29), .val (.ref a33), .unset, .unset] [(.ref a33), (.ref a29)])) rfl (by rw [hml]; rfl) (argsL := [(.ref a29), (.ref a33)]) (rest := []) (lenOf pd_oaDaDcZ rfl) rfl (by show 2 * 0 + _ ≤ _; exact Nat.le_of_eq rfl) (hb hby at_103) (fun _ _ => ⟨rfl, e45, (by decide : 2 + 0 ≤ _), (by decide : 2 + 0 ≤ _)⟩)
    dsimp only [Pt.U, Pt.locs, Pt.cells, Pt.slots] at X50 l50 y50 z50 st50 hQ50
    subst l50 y50 z50
    obtain ⟨rfl, N50a, eh50⟩ := hQ50
    have N50 := Fr.app N45 N50a
    have e50 : T50.heap = h45 := eh50
    have cn51 : ∀ t, Steps p.tables e below (T50.setTop (mkF m 106 #[.val (.int p1), .val (.int p2), .val (.int p3), .val (.int p4), .val (.int p5), .val (.int p6), .val (.int (1 : Int32)), .val (.double (FP.l2d (x0.toInt64))), .second, .val (.double (FP.l2d (p2.toInt64))), .second, .val (.double (FP.l2d (p3.toInt64))), .second, .val (.double (FP.l2d (p4.toInt64))), .second, .val (.double (FP.l2d (p5.toInt64))), .second, .val (.double (FP.l2d (p6.toInt64))), .second, .val (.ref a29), .val (.ref a33), .unset, .unset] [(.int (if own_beats [((x0.toInt64), (p4.toInt64))] false = true then (1 : Int32) else 0))])) t → Steps p.tables e below (s₁.setTop (entryFrame m #[(.int p1), (.int p2), (.int p3), (.int p4), (.int p5), (.int p6)] maxLocals)) t := fun t k => cn49 t (st50 _ k)
    have cn52 : ∀ t, Steps p.tables e below (T50.setTop (mkF m 112 #[.val (.int p1), .val (.int p2), .val (.int p3), .val (.int p4), .val (.int p5), .val (.int p6), .val (.int (1 : Int32)), .val (.double (FP.l2d (x0.toInt64))), .second, .val (.double (FP.l2d (p2.toInt64))), .second, .val (.double (FP.l2d (p3.toInt64))), .second, .val (.double (FP.l2d (p4.toInt64))), .second, .val (.double (FP.l2d (p5.toInt64))), .second, .val (.double (FP.l2d (p6.toInt64))), .second, .val (.ref a29), .val (.ref a33), .val (.int (if own_beats [((x0.toInt64), (p4.toInt64))] false = true then (1 : Int32) else 0)), .unset] [(.ref a29), (.ref a33)])) t → Steps p.tables e below (s₁.setTop (entryFrame m #[(.int p1), (.int p2), (.int p3), (.int p4), (.int p5), (.int p6)] maxLocals)) t := by
      intro t k
      refine cn51 t ?_
      refine o_istore X50.here hx (hb hby at_106) (l' := #[.val (.int p1), .val (.int p2), .val (.int p3), .val (.int p4), .val (.int p5), .val (.int p6), .val (.int (1 : Int32)), .val (.double (FP.l2d (x0.toInt64))), .second, .val (.double (FP.l2d (p2.toInt64))), .second, .val (.double (FP.l2d (p3.toInt64))), .second, .val (.double (FP.l2d (p4.toInt64))), .second, .val (.double (FP.l2d (p5.toInt64))), .second, .val (.double (FP.l2d (p6.toInt64))), .second, .val (.ref a29), .val (.ref a33), .val (.int (if own_beats [((x0.toInt64), (p4.toInt64))] false = true then (1 : Int32) else 0)), .unset]) rfl ?_
      refine o_aload X50.here hx (hb hby at_108) rfl rfl ?_
      refine o_aload X50.here hx (hb hby at_110) rfl rfl ?_
      exact k
    obtain ⟨_, _, ⟨T53, L53, c53, n53⟩, -, X53, ⟨Lc53, hQ53, l53, y53, z53⟩, st53⟩ := Jvm.LawKit.callS X50 hx (y := (⟨"com/example/pareto_loom/paretoloom/model/NondominatedSet", "beats", "([D[D)Z"⟩ : MethodName)) hown (mvT hZ (hw _ (List.mem_of_getElem? (i := 1) rfl))) (mvT hZ (hw _ (List.mem_of_getElem? (i := 2) rfl))) (mvT hZ (hw _ (List.mem_of_getElem? (i := 3) rfl))) (mvT hZ (hw _ (List.mem_of_getElem? (i := 4) rfl))) (by decide) (backOf (W := 0) (rmB1 l Z a0 hw [] a33 a29 kc33 kc29 (p4.toInt64) (x0.toInt64) h45 n0 Z45 (own_bd_i _) (own_bd_i _) A47 A46) hZ (hw _ (List.mem_of_getElem? (i := 4) rfl)) (hw _ (List.mem_of_getElem? (i := 3) rfl)) (by decide) (by decide)) (g := (mkF m 112 #[.val (.int p1), .val (.int p2), .val (.int p3), .val (.int p4), .val (.int p5), .val (.int p6), .val (.int (1 : Int32)), .val (.double (FP.l2d (x0.toInt64))), .second, .val (.double (FP.l2d (p2.toInt64))), .second, .val (.double (FP.l2d (p3.toInt64))), .second, .val (.double (FP.l2d (p4.toInt64))), .second, .val (.double (FP.l2d (p5.toInt64))), .second, .val (.double (FP.l2d (p6.toInt64))), .second, .val (.ref a29), .val (.ref a33), .val (.int (if own_beats [((x0.toInt64), (p4.toInt64))] false = true then (1 : Int32) else 0)), .unset] [(.ref a29), (.ref a33)])) rfl (by rw [hml]; rfl) (argsL := [(.ref a33), (.ref a29)]) (rest := []) (lenOf pd_oaDaDcZ rfl) rfl (by show 2 * 0 + _ ≤ _; exact Nat.le_of_eq rfl) (hb hby at_112) (fun _ _ => ⟨rfl, e50, (by decide : 2 + 0 ≤ _), (by decide : 2 + 0 ≤ _)⟩)
    dsimp only [Pt.U, Pt.locs, Pt.cells, Pt.slots] at X53 l53 y53 z53 st53 hQ53
    subst l53 y53 z53
    obtain ⟨rfl, N53a, eh53⟩ := hQ53
    have N53 := Fr.app N50 N53a
    have e53 : T53.heap = h45 := eh53
    have cn54 : ∀ t, Steps p.tables e below (T53.setTop (mkF m 115 #[.val (.int p1), .val (.int p2), .val (.int p3), .val (.int p4), .val (.int p5), .val (.int p6), .val (.int (1 : Int32)), .val (.double (FP.l2d (x0.toInt64))), .second, .val (.double (FP.l2d (p2.toInt64))), .second, .val (.double (FP.l2d (p3.toInt64))), .second, .val (.double (FP.l2d (p4.toInt64))), .second, .val (.double (FP.l2d (p5.toInt64))), .second, .val (.double (FP.l2d (p6.toInt64))), .second, .val (.ref a29), .val (.ref a33), .val (.int (if own_beats [((x0.toInt64), (p4.toInt64))] false = true then (1 : Int32) else 0)), .unset] [(.int (if own_beats [((p4.toInt64), (x0.toInt64))] false = true then (1 : Int32) else 0))])) t → Steps p.tables e below (s₁.setTop (entryFrame m #[(.int p1), (.int p2), (.int p3), (.int p4), (.int p5), (.int p6)] maxLocals)) t := fun t k => cn52 t (st53 _ k)
    have cn55 : ∀ t, Steps p.tables e below (T53.setTop (mkF m 133 #[.val (.int p1), .val (.int p2), .val (.int p3), .val (.int p4), .val (.int p5), .val (.int p6), .val (.int (1 : Int32)), .val (.double (FP.l2d (x0.toInt64))), .second, .val (.double (FP.l2d (p2.toInt64))), .second, .val (.double (FP.l2d (p3.toInt64))), .second, .val (.double (FP.l2d (p4.toInt64))), .second, .val (.double (FP.l2d (p5.toInt64))), .second, .val (.double (FP.l2d (p6.toInt64))), .second, .val (.ref a29), .val (.ref a33), .val (.int (if own_beats [((x0.toInt64), (p4.toInt64))] false = true then (1 : Int32) else 0)), .val (.int (if own_beats [((p4.toInt64), (x0.toInt64))] false = true then (1 : Int32) else 0))] [(.double (FP.l2d (p6.toInt64))), (.double (FP.l2d (p5.toInt64))), (.double (FP.l2d (p4.toInt64))), (.double (FP.l2d (p3.toInt64))), (.double (FP.l2d (p2.toInt64))), (.double (FP.l2d (x0.toInt64))), (.int (1 : Int32)), (.int (if own_beats [((x0.toInt64), (p4.toInt64))] false = true then (1 : Int32) else 0))])) t → Steps p.tables e below (s₁.setTop (entryFrame m #[(.int p1), (.int p2), (.int p3), (.int p4), (.int p5), (.int p6)] maxLocals)) t := by
      intro t k
      refine cn54 t ?_
      refine o_istore X53.here hx (hb hby at_115) (l' := #[.val (.int p1), .val (.int p2), .val (.int p3), .val (.int p4), .val (.int p5), .val (.int p6), .val (.int (1 : Int32)), .val (.double (FP.l2d (x0.toInt64))), .second, .val (.double (FP.l2d (p2.toInt64))), .second, .val (.double (FP.l2d (p3.toInt64))), .second, .val (.double (FP.l2d (p4.toInt64))), .second, .val (.double (FP.l2d (p5.toInt64))), .second, .val (.double (FP.l2d (p6.toInt64))), .second, .val (.ref a29), .val (.ref a33), .val (.int (if own_beats [((x0.toInt64), (p4.toInt64))] false = true then (1 : Int32) else 0)), .val (.int (if own_beats [((p4.toInt64), (x0.toInt64))] false = true then (1 : Int32) else 0))]) rfl ?_
      refine o_iload X53.here hx (hb hby at_117) rfl ?_
      refine o_iload X53.here hx (hb hby at_119) rfl ?_
      refine o_dload X53.here hx (hb hby at_121) rfl ?_
      refine o_dload X53.here hx (hb hby at_123) rfl ?_
      refine o_dload X53.here hx (hb hby at_125) rfl ?_
      refine o_dload X53.here hx (hb hby at_127) rfl ?_
      refine o_dload X53.here hx (hb hby at_129) rfl ?_
      refine o_dload X53.here hx (hb hby at_131) rfl ?_
      exact k
    obtain ⟨_, _, ⟨T56, L56, c56, n56⟩, -, X56, ⟨Lc56, hQ56, l56, y56, z56⟩, st56⟩ := Jvm.LawKit.callS X53 hx (y := (⟨"com/example/pareto_loom/paretoloom/model/NondominatedSetBeatsPinLaw", "expect", "(IDDDDDD)Z"⟩ : MethodName)) hown (mvT hZ (hw _ (List.mem_of_getElem? (i := 5) rfl))) (mvT hZ (hw _ (List.mem_of_getElem? (i := 6) rfl))) (mvT hZ (hw _ (List.mem_of_getElem? (i := 7) rfl))) (mvT hZ (hw _ (List.mem_of_getElem? (i := 8) rfl))) (by decide) (backOf (W := 1) (rmE1 l Z a0 hw [] (x0.toInt64) (p2.toInt64) (p3.toInt64) (p4.toInt64) (p5.toInt64) (p6.toInt64) h45 n0 Z45 (own_bd_i _) (own_bd_i _) (own_bd_i _) (own_bd_i _) (own_bd_i _) (own_bd_i _)) hZ (hw _ (List.mem_of_getElem? (i := 8) rfl)) (hw _ (List.mem_of_getElem? (i := 7) rfl)) (by decide) (by decide)) (g := (mkF m 133 #[.val (.int p1), .val (.int p2), .val (.int p3), .val (.int p4), .val (.int p5), .val (.int p6), .val (.int (1 : Int32)), .val (.double (FP.l2d (x0.toInt64))), .second, .val (.double (FP.l2d (p2.toInt64))), .second, .val (.double (FP.l2d (p3.toInt64))), .second, .val (.double (FP.l2d (p4.toInt64))), .second, .val (.double (FP.l2d (p5.toInt64))), .second, .val (.double (FP.l2d (p6.toInt64))), .second, .val (.ref a29), .val (.ref a33), .val (.int (if own_beats [((x0.toInt64), (p4.toInt64))] false = true then (1 : Int32) else 0)), .val (.int (if own_beats [((p4.toInt64), (x0.toInt64))] false = true then (1 : Int32) else 0))] [(.double (FP.l2d (p6.toInt64))), (.double (FP.l2d (p5.toInt64))), (.double (FP.l2d (p4.toInt64))), (.double (FP.l2d (p3.toInt64))), (.double (FP.l2d (p2.toInt64))), (.double (FP.l2d (x0.toInt64))), (.int (1 : Int32)), (.int (if own_beats [((x0.toInt64), (p4.toInt64))] false = true then (1 : Int32) else 0))])) rfl (by rw [hml]; rfl) (argsL := [(.int (1 : Int32)), (.double (FP.l2d (x0.toInt64))), (.double (FP.l2d (p2.toInt64))), (.double (FP.l2d (p3.toInt64))), (.double (FP.l2d (p4.toInt64))), (.double (FP.l2d (p5.toInt64))), (.double (FP.l2d (p6.toInt64)))]) (rest := [(.int (if own_beats [((x0.toInt64), (p4.toInt64))] false = true then (1 : Int32) else 0))]) (lenOf pd_oIDDDDDDcZ rfl) rfl (by show 2 * 0 + _ ≤ _; exact Nat.le_of_eq rfl) (hb hby at_133) (fun _ _ => ⟨rfl, e53, (by decide : 2 + 0 ≤ _), (by decide : 2 + 0 ≤ _)⟩)
    dsimp only [Pt.U, Pt.locs, Pt.cells, Pt.slots] at X56 l56 y56 z56 st56 hQ56
    subst l56 y56 z56
    obtain ⟨rfl, N56a, eh56⟩ := hQ56
    have N56 := Fr.app N53 N56a
    have e56 : T56.heap = h45 := eh56
    have cn57 : ∀ t, Steps p.tables e below (T56.setTop (mkF m 136 #[.val (.int p1), .val (.int p2), .val (.int p3), .val (.int p4), .val (.int p5), .val (.int p6), .val (.int (1 : Int32)), .val (.double (FP.l2d (x0.toInt64))), .second, .val (.double (FP.l2d (p2.toInt64))), .second, .val (.double (FP.l2d (p3.toInt64))), .second, .val (.double (FP.l2d (p4.toInt64))), .second, .val (.double (FP.l2d (p5.toInt64))), .second, .val (.double (FP.l2d (p6.toInt64))), .second, .val (.ref a29), .val (.ref a33), .val (.int (if own_beats [((x0.toInt64), (p4.toInt64))] false = true then (1 : Int32) else 0)), .val (.int (if own_beats [((p4.toInt64), (x0.toInt64))] false = true then (1 : Int32) else 0))] [(.int (if own_beats [((x0.toInt64), (p4.toInt64))] false = true then (1 : Int32) else 0)), (.int (if own_beats [((x0.toInt64), (p4.toInt64))] false = true then (1 : Int32) else 0))])) t → Steps p.tables e below (s₁.setTop (entryFrame m #[(.int p1), (.int p2), (.int p3), (.int p4), (.int p5), (.int p6)] maxLocals)) t := fun t k => cn55 t (st56 _ k)
    have cn58 : ∀ t, Steps p.tables e below (T56.setTop (mkF m 155 #[.val (.int p1), .val (.int p2), .val (.int p3), .val (.int p4), .val (.int p5), .val (.int p6), .val (.int (1 : Int32)), .val (.double (FP.l2d (x0.toInt64))), .second, .val (.double (FP.l2d (p2.toInt64))), .second, .val (.double (FP.l2d (p3.toInt64))), .second, .val (.double (FP.l2d (p4.toInt64))), .second, .val (.double (FP.l2d (p5.toInt64))), .second, .val (.double (FP.l2d (p6.toInt64))), .second, .val (.ref a29), .val (.ref a33), .val (.int (if own_beats [((x0.toInt64), (p4.toInt64))] false = true then (1 : Int32) else 0)), .val (.int (if own_beats [((p4.toInt64), (x0.toInt64))] false = true then (1 : Int32) else 0))] [(.double (FP.l2d (p3.toInt64))), (.double (FP.l2d (p2.toInt64))), (.double (FP.l2d (x0.toInt64))), (.double (FP.l2d (p6.toInt64))), (.double (FP.l2d (p5.toInt64))), (.double (FP.l2d (p4.toInt64))), (.int (1 : Int32)), (.int (if own_beats [((p4.toInt64), (x0.toInt64))] false = true then (1 : Int32) else 0))])) t → Steps p.tables e below (s₁.setTop (entryFrame m #[(.int p1), (.int p2), (.int p3), (.int p4), (.int p5), (.int p6)] maxLocals)) t := by
      intro t k
      refine cn57 t ?_
      refine o_icmpNo X56.here hx (hb hby at_136) (XT.ii_ne_f rfl) ?_
      refine o_iload X56.here hx (hb hby at_139) rfl ?_
      refine o_iload X56.here hx (hb hby at_141) rfl ?_
      refine o_dload X56.here hx (hb hby at_143) rfl ?_
      refine o_dload X56.here hx (hb hby at_145) rfl ?_
      refine o_dload X56.here hx (hb hby at_147) rfl ?_
      refine o_dload X56.here hx (hb hby at_149) rfl ?_
      refine o_dload X56.here hx (hb hby at_151) rfl ?_
      refine o_dload X56.here hx (hb hby at_153) rfl ?_
      exact k
    obtain ⟨_, _, ⟨T59, L59, c59, n59⟩, -, X59, ⟨Lc59, hQ59, l59, y59, z59⟩, st59⟩ := Jvm.LawKit.callS X56 hx (y := (⟨"com/example/pareto_loom/paretoloom/model/NondominatedSetBeatsPinLaw", "expect", "(IDDDDDD)Z"⟩ : MethodName)) hown (mvT hZ (hw _ (List.mem_of_getElem? (i := 5) rfl))) (mvT hZ (hw _ (List.mem_of_getElem? (i := 6) rfl))) (mvT hZ (hw _ (List.mem_of_getElem? (i := 7) rfl))) (mvT hZ (hw _ (List.mem_of_getElem? (i := 8) rfl))) (by decide) (backOf (W := 1) (rmE1 l Z a0 hw [] (p4.toInt64) (p5.toInt64) (p6.toInt64) (x0.toInt64) (p2.toInt64) (p3.toInt64) h45 n0 Z45 (own_bd_i _) (own_bd_i _) (own_bd_i _) (own_bd_i _) (own_bd_i _) (own_bd_i _)) hZ (hw _ (List.mem_of_getElem? (i := 8) rfl)) (hw _ (List.mem_of_getElem? (i := 7) rfl)) (by decide) (by decide)) (g := (mkF m 155 #[.val (.int p1), .val (.int p2), .val (.int p3), .val (.int p4), .val (.int p5), .val (.int p6), .val (.int (1 : Int32)), .val (.double (FP.l2d (x0.toInt64))), .second, .val (.double (FP.l2d (p2.toInt64))), .second, .val (.double (FP.l2d (p3.toInt64))), .second, .val (.double (FP.l2d (p4.toInt64))), .second, .val (.double (FP.l2d (p5.toInt64))), .second, .val (.double (FP.l2d (p6.toInt64))), .second, .val (.ref a29), .val (.ref a33), .val (.int (if own_beats [((x0.toInt64), (p4.toInt64))] false = true then (1 : Int32) else 0)), .val (.int (if own_beats [((p4.toInt64), (x0.toInt64))] false = true then (1 : Int32) else 0))] [(.double (FP.l2d (p3.toInt64))), (.double (FP.l2d (p2.toInt64))), (.double (FP.l2d (x0.toInt64))), (.double (FP.l2d (p6.toInt64))), (.double (FP.l2d (p5.toInt64))), (.double (FP.l2d (p4.toInt64))), (.int (1 : Int32)), (.int (if own_beats [((p4.toInt64), (x0.toInt64))] false = true then (1 : Int32) else 0))])) rfl (by rw [hml]; rfl) (argsL := [(.int (1 : Int32)), (.double (FP.l2d (p4.toInt64))), (.double (FP.l2d (p5.toInt64))), (.double (FP.l2d (p6.toInt64))), (.double (FP.l2d (x0.toInt64))), (.double (FP.l2d (p2.toInt64))), (.double (FP.l2d (p3.toInt64)))]) (rest := [(.int (if own_beats [((p4.toInt64), (x0.toInt64))] false = true then (1 : Int32) else 0))]) (lenOf pd_oIDDDDDDcZ rfl) rfl (by show 2 * 0 + _ ≤ _; exact Nat.le_of_eq rfl) (hb hby at_155) (fun _ _ => ⟨rfl, e56, (by decide : 2 + 0 ≤ _), (by decide : 2 + 0 ≤ _)⟩)
    dsimp only [Pt.U, Pt.locs, Pt.cells, Pt.slots] at X59 l59 y59 z59 st59 hQ59
    subst l59 y59 z59
    obtain ⟨rfl, N59a, eh59⟩ := hQ59
    have N59 := Fr.app N56 N59a
    have e59 : T59.heap = h45 := eh59
    have cn60 : ∀ t, Steps p.tables e below (T59.setTop (mkF m 158 #[.val (.int p1), .val (.int p2), .val (.int p3), .val (.int p4), .val (.int p5), .val (.int p6), .val (.int (1 : Int32)), .val (.double (FP.l2d (x0.toInt64))), .second, .val (.double (FP.l2d (p2.toInt64))), .second, .val (.double (FP.l2d (p3.toInt64))), .second, .val (.double (FP.l2d (p4.toInt64))), .second, .val (.double (FP.l2d (p5.toInt64))), .second, .val (.double (FP.l2d (p6.toInt64))), .second, .val (.ref a29), .val (.ref a33), .val (.int (if own_beats [((x0.toInt64), (p4.toInt64))] false = true then (1 : Int32) else 0)), .val (.int (if own_beats [((p4.toInt64), (x0.toInt64))] false = true then (1 : Int32) else 0))] [(.int (if own_beats [((p4.toInt64), (x0.toInt64))] false = true then (1 : Int32) else 0)), (.int (if own_beats [((p4.toInt64), (x0.toInt64))] false = true then (1 : Int32) else 0))])) t → Steps p.tables e below (s₁.setTop (entryFrame m #[(.int p1), (.int p2), (.int p3), (.int p4), (.int p5), (.int p6)] maxLocals)) t := fun t k => cn58 t (st59 _ k)
    have cn61 : ∀ t, Steps p.tables e below (T59.setTop (mkF m 166 #[.val (.int p1), .val (.int p2), .val (.int p3), .val (.int p4), .val (.int p5), .val (.int p6), .val (.int (1 : Int32)), .val (.double (FP.l2d (x0.toInt64))), .second, .val (.double (FP.l2d (p2.toInt64))), .second, .val (.double (FP.l2d (p3.toInt64))), .second, .val (.double (FP.l2d (p4.toInt64))), .second, .val (.double (FP.l2d (p5.toInt64))), .second, .val (.double (FP.l2d (p6.toInt64))), .second, .val (.ref a29), .val (.ref a33), .val (.int (if own_beats [((x0.toInt64), (p4.toInt64))] false = true then (1 : Int32) else 0)), .val (.int (if own_beats [((p4.toInt64), (x0.toInt64))] false = true then (1 : Int32) else 0))] [(.int (1 : Int32))])) t → Steps p.tables e below (s₁.setTop (entryFrame m #[(.int p1), (.int p2), (.int p3), (.int p4), (.int p5), (.int p6)] maxLocals)) t := by
      intro t k
      refine cn60 t ?_
      refine o_icmpNo X59.here hx (hb hby at_158) (XT.ii_ne_f rfl) ?_
      refine o_iconstV X59.here hx (1 : Int32) (hb hby at_161) rfl ?_
      show Steps p.tables e below (T59.setTop (mkF m 162 #[.val (.int p1), .val (.int p2), .val (.int p3), .val (.int p4), .val (.int p5), .val (.int p6), .val (.int (1 : Int32)), .val (.double (FP.l2d (x0.toInt64))), .second, .val (.double (FP.l2d (p2.toInt64))), .second, .val (.double (FP.l2d (p3.toInt64))), .second, .val (.double (FP.l2d (p4.toInt64))), .second, .val (.double (FP.l2d (p5.toInt64))), .second, .val (.double (FP.l2d (p6.toInt64))), .second, .val (.ref a29), .val (.ref a33), .val (.int (if own_beats [((x0.toInt64), (p4.toInt64))] false = true then (1 : Int32) else 0)), .val (.int (if own_beats [((p4.toInt64), (x0.toInt64))] false = true then (1 : Int32) else 0))] [(.int (1 : Int32))])) _
      refine o_goto X59.here hx (pc' := 166) (hb hby at_162) (by decide) (by decide) ?_
      exact k
    obtain ⟨fs, hr, hrun, hended, hW, hsame⟩ := X59.leave (v := some (.int (1 : Int32))) (fun h => by rw [Bd.returns] at h; cases h)
    refine ⟨_, _, cn61 _ ?_, hrun, hended, _, _, rfl, ?_, ⟨_, rfl⟩, hW, hsame.mono (by decide) (by decide)⟩
    · exact retN X59 hx (t := .boolean) Bd.returns (by simp) (hb hby at_166) hr
    · show Q0 Z p1 p2 p3 p4 p5 p6 h0 n0 _ T59.heap _
      rw [e59]
      exact ⟨rfl, N59⟩
  · -- (2 : Int32)
    obtain ⟨x0, h_x0⟩ : ∃ z : Int32, z = p1 >>> ((2 : Int32) &&& 31) := ⟨_, rfl⟩
    have cn62 : ∀ t, Steps p.tables e below (s₁.setTop (mkF m 35 #[.val (.int p1), .val (.int p2), .val (.int p3), .val (.int p4), .val (.int p5), .val (.int p6), .val (.int (2 : Int32)), .val (.double (FP.l2d (x0.toInt64))), .second, .val (.double (FP.l2d (p2.toInt64))), .second, .val (.double (FP.l2d (p3.toInt64))), .second, .val (.double (FP.l2d (p4.toInt64))), .second, .val (.double (FP.l2d (p5.toInt64))), .second, .val (.double (FP.l2d (p6.toInt64))), .second, .unset, .unset, .unset, .unset] [(.int (2 : Int32))])) t → Steps p.tables e below (s₁.setTop (entryFrame m #[(.int p1), (.int p2), (.int p3), (.int p4), (.int p5), (.int p6)] maxLocals)) t := by
      intro t k
      refine cn1 t ?_
      rw [hs4_2]
      refine o_istore X0.here hx (hb hby at_3) (l' := #[.val (.int p1), .val (.int p2), .val (.int p3), .val (.int p4), .val (.int p5), .val (.int p6), .val (.int (2 : Int32)), .unset, .unset, .unset, .unset, .unset, .unset, .unset, .unset, .unset, .unset, .unset, .unset, .unset, .unset, .unset, .unset]) rfl ?_
      refine o_iloadN X0.here hx (hb hby at_5) rfl ?_
      refine o_iconstV X0.here hx (2 : Int32) (hb hby at_6) rfl ?_
      refine o_ishr X0.here hx (hb hby at_7) ?_
      rw [← h_x0]
      refine o_i2dS X0.here hx (hb hby at_8) (v := FP.l2d (x0.toInt64)) (i2d_w _) ?_
      refine o_dstore X0.here hx (hb hby at_9) (l' := #[.val (.int p1), .val (.int p2), .val (.int p3), .val (.int p4), .val (.int p5), .val (.int p6), .val (.int (2 : Int32)), .val (.double (FP.l2d (x0.toInt64))), .second, .unset, .unset, .unset, .unset, .unset, .unset, .unset, .unset, .unset, .unset, .unset, .unset, .unset, .unset]) rfl ?_
      refine o_iloadN X0.here hx (hb hby at_11) rfl ?_
      refine o_i2dS X0.here hx (hb hby at_12) (v := FP.l2d (p2.toInt64)) (i2d_w _) ?_
      refine o_dstore X0.here hx (hb hby at_13) (l' := #[.val (.int p1), .val (.int p2), .val (.int p3), .val (.int p4), .val (.int p5), .val (.int p6), .val (.int (2 : Int32)), .val (.double (FP.l2d (x0.toInt64))), .second, .val (.double (FP.l2d (p2.toInt64))), .second, .unset, .unset, .unset, .unset, .unset, .unset, .unset, .unset, .unset, .unset, .unset, .unset]) rfl ?_
      refine o_iloadN X0.here hx (hb hby at_15) rfl ?_
      refine o_i2dS X0.here hx (hb hby at_16) (v := FP.l2d (p3.toInt64)) (i2d_w _) ?_
      refine o_dstore X0.here hx (hb hby at_17) (l' := #[.val (.int p1), .val (.int p2), .val (.int p3), .val (.int p4), .val (.int p5), .val (.int p6), .val (.int (2 : Int32)), .val (.double (FP.l2d (x0.toInt64))), .second, .val (.double (FP.l2d (p2.toInt64))), .second, .val (.double (FP.l2d (p3.toInt64))), .second, .unset, .unset, .unset, .unset, .unset, .unset, .unset, .unset, .unset, .unset]) rfl ?_
      refine o_iloadN X0.here hx (hb hby at_19) rfl ?_
      refine o_i2dS X0.here hx (hb hby at_20) (v := FP.l2d (p4.toInt64)) (i2d_w _) ?_
      refine o_dstore X0.here hx (hb hby at_21) (l' := #[.val (.int p1), .val (.int p2), .val (.int p3), .val (.int p4), .val (.int p5), .val (.int p6), .val (.int (2 : Int32)), .val (.double (FP.l2d (x0.toInt64))), .second, .val (.double (FP.l2d (p2.toInt64))), .second, .val (.double (FP.l2d (p3.toInt64))), .second, .val (.double (FP.l2d (p4.toInt64))), .second, .unset, .unset, .unset, .unset, .unset, .unset, .unset, .unset]) rfl ?_
      refine o_iload X0.here hx (hb hby at_23) rfl ?_
      refine o_i2dS X0.here hx (hb hby at_25) (v := FP.l2d (p5.toInt64)) (i2d_w _) ?_
      refine o_dstore X0.here hx (hb hby at_26) (l' := #[.val (.int p1), .val (.int p2), .val (.int p3), .val (.int p4), .val (.int p5), .val (.int p6), .val (.int (2 : Int32)), .val (.double (FP.l2d (x0.toInt64))), .second, .val (.double (FP.l2d (p2.toInt64))), .second, .val (.double (FP.l2d (p3.toInt64))), .second, .val (.double (FP.l2d (p4.toInt64))), .second, .val (.double (FP.l2d (p5.toInt64))), .second, .unset, .unset, .unset, .unset, .unset, .unset]) rfl ?_
      refine o_iload X0.here hx (hb hby at_28) rfl ?_
      refine o_i2dS X0.here hx (hb hby at_30) (v := FP.l2d (p6.toInt64)) (i2d_w _) ?_
      refine o_dstore X0.here hx (hb hby at_31) (l' := #[.val (.int p1), .val (.int p2), .val (.int p3), .val (.int p4), .val (.int p5), .val (.int p6), .val (.int (2 : Int32)), .val (.double (FP.l2d (x0.toInt64))), .second, .val (.double (FP.l2d (p2.toInt64))), .second, .val (.double (FP.l2d (p3.toInt64))), .second, .val (.double (FP.l2d (p4.toInt64))), .second, .val (.double (FP.l2d (p5.toInt64))), .second, .val (.double (FP.l2d (p6.toInt64))), .second, .unset, .unset, .unset, .unset]) rfl ?_
      refine o_iload X0.here hx (hb hby at_33) rfl ?_
      exact k
    obtain ⟨T63, h63, kc63, X63, e63, E63, A63, st63⟩ := newP X0 hx hZ (hw _ (List.mem_of_getElem? (i := 0) rfl)) e0 (g := (mkF m 35 #[.val (.int p1), .val (.int p2), .val (.int p3), .val (.int p4), .val (.int p5), .val (.int p6), .val (.int (2 : Int32)), .val (.double (FP.l2d (x0.toInt64))), .second, .val (.double (FP.l2d (p2.toInt64))), .second, .val (.double (FP.l2d (p3.toInt64))), .second, .val (.double (FP.l2d (p4.toInt64))), .second, .val (.double (FP.l2d (p5.toInt64))), .second, .val (.double (FP.l2d (p6.toInt64))), .second, .unset, .unset, .unset, .unset] [(.int (2 : Int32))])) rfl (hb hby at_35) rfl (by decide) (cap := 2) (by decide) (by decide) (by decide) (by decide)
    obtain ⟨a63, g63⟩ : ∃ z, z = h0.size := ⟨_, rfl⟩
    rw [← g63] at A63 st63
    have Z63 : n0 ≤ h63.size := (Nat.le_trans Z0 E63.1)
    have G63 : n0 ≤ a63 := (Nat.le_trans Z0 (Nat.le_of_eq g63.symm))
    have A64 : Arv Z h63 a63 kc63 .double (2 : Int32) [(.double (0 : UInt64)), (.double (0 : UInt64))] (.double (0 : UInt64)) := ((Arv.new A63 (by decide)).pad (pad_rep [] _ 2))
    have cn65 : ∀ t, Steps p.tables e below (T63.setTop (mkF m 37 #[.val (.int p1), .val (.int p2), .val (.int p3), .val (.int p4), .val (.int p5), .val (.int p6), .val (.int (2 : Int32)), .val (.double (FP.l2d (x0.toInt64))), .second, .val (.double (FP.l2d (p2.toInt64))), .second, .val (.double (FP.l2d (p3.toInt64))), .second, .val (.double (FP.l2d (p4.toInt64))), .second, .val (.double (FP.l2d (p5.toInt64))), .second, .val (.double (FP.l2d (p6.toInt64))), .second, .unset, .unset, .unset, .unset] [(.ref a63)])) t → Steps p.tables e below (s₁.setTop (entryFrame m #[(.int p1), (.int p2), (.int p3), (.int p4), (.int p5), (.int p6)] maxLocals)) t := fun t k => cn62 t (st63 _ k)
    have cn66 : ∀ t, Steps p.tables e below (T63.setTop (mkF m 41 #[.val (.int p1), .val (.int p2), .val (.int p3), .val (.int p4), .val (.int p5), .val (.int p6), .val (.int (2 : Int32)), .val (.double (FP.l2d (x0.toInt64))), .second, .val (.double (FP.l2d (p2.toInt64))), .second, .val (.double (FP.l2d (p3.toInt64))), .second, .val (.double (FP.l2d (p4.toInt64))), .second, .val (.double (FP.l2d (p5.toInt64))), .second, .val (.double (FP.l2d (p6.toInt64))), .second, .val (.ref a63), .unset, .unset, .unset] [(.int (2 : Int32))])) t → Steps p.tables e below (s₁.setTop (entryFrame m #[(.int p1), (.int p2), (.int p3), (.int p4), (.int p5), (.int p6)] maxLocals)) t := by
      intro t k
      refine cn65 t ?_
      refine o_astore X63.here hx (hb hby at_37) rfl (l' := #[.val (.int p1), .val (.int p2), .val (.int p3), .val (.int p4), .val (.int p5), .val (.int p6), .val (.int (2 : Int32)), .val (.double (FP.l2d (x0.toInt64))), .second, .val (.double (FP.l2d (p2.toInt64))), .second, .val (.double (FP.l2d (p3.toInt64))), .second, .val (.double (FP.l2d (p4.toInt64))), .second, .val (.double (FP.l2d (p5.toInt64))), .second, .val (.double (FP.l2d (p6.toInt64))), .second, .val (.ref a63), .unset, .unset, .unset]) rfl ?_
      refine o_iload X63.here hx (hb hby at_39) rfl ?_
      exact k
    obtain ⟨T67, h67, kc67, X67, e67, E67, A67, st67⟩ := newP X63 hx hZ (hw _ (List.mem_of_getElem? (i := 0) rfl)) e63 (g := (mkF m 41 #[.val (.int p1), .val (.int p2), .val (.int p3), .val (.int p4), .val (.int p5), .val (.int p6), .val (.int (2 : Int32)), .val (.double (FP.l2d (x0.toInt64))), .second, .val (.double (FP.l2d (p2.toInt64))), .second, .val (.double (FP.l2d (p3.toInt64))), .second, .val (.double (FP.l2d (p4.toInt64))), .second, .val (.double (FP.l2d (p5.toInt64))), .second, .val (.double (FP.l2d (p6.toInt64))), .second, .val (.ref a63), .unset, .unset, .unset] [(.int (2 : Int32))])) rfl (hb hby at_41) rfl (by decide) (cap := 2) (by decide) (by decide) (by decide) (by decide)
    obtain ⟨a67, g67⟩ : ∃ z, z = h63.size := ⟨_, rfl⟩
    rw [← g67] at A67 st67
    have Z67 : n0 ≤ h67.size := (Nat.le_trans Z63 E67.1)
    have G67 : n0 ≤ a67 := (Nat.le_trans Z63 (Nat.le_of_eq g67.symm))
    have ne67_a63 : a63 ≠ a67 := Nat.ne_of_lt (Nat.lt_of_lt_of_eq A64.lt g67.symm)
    have A68 : Arv Z h67 a63 kc63 .double (2 : Int32) [(.double (0 : UInt64)), (.double (0 : UInt64))] (.double (0 : UInt64)) := (A64.ext E67)
    have A69 : Arv Z h67 a67 kc67 .double (2 : Int32) [(.double (0 : UInt64)), (.double (0 : UInt64))] (.double (0 : UInt64)) := ((Arv.new A67 (by decide)).pad (pad_rep [] _ 2))
    have cn70 : ∀ t, Steps p.tables e below (T67.setTop (mkF m 43 #[.val (.int p1), .val (.int p2), .val (.int p3), .val (.int p4), .val (.int p5), .val (.int p6), .val (.int (2 : Int32)), .val (.double (FP.l2d (x0.toInt64))), .second, .val (.double (FP.l2d (p2.toInt64))), .second, .val (.double (FP.l2d (p3.toInt64))), .second, .val (.double (FP.l2d (p4.toInt64))), .second, .val (.double (FP.l2d (p5.toInt64))), .second, .val (.double (FP.l2d (p6.toInt64))), .second, .val (.ref a63), .unset, .unset, .unset] [(.ref a67)])) t → Steps p.tables e below (s₁.setTop (entryFrame m #[(.int p1), (.int p2), (.int p3), (.int p4), (.int p5), (.int p6)] maxLocals)) t := fun t k => cn66 t (st67 _ k)
    have cn71 : ∀ t, Steps p.tables e below (T67.setTop (mkF m 56 #[.val (.int p1), .val (.int p2), .val (.int p3), .val (.int p4), .val (.int p5), .val (.int p6), .val (.int (2 : Int32)), .val (.double (FP.l2d (x0.toInt64))), .second, .val (.double (FP.l2d (p2.toInt64))), .second, .val (.double (FP.l2d (p3.toInt64))), .second, .val (.double (FP.l2d (p4.toInt64))), .second, .val (.double (FP.l2d (p5.toInt64))), .second, .val (.double (FP.l2d (p6.toInt64))), .second, .val (.ref a63), .val (.ref a67), .unset, .unset] [(.double (FP.l2d (x0.toInt64))), (.int (0 : Int32)), (.ref a63)])) t → Steps p.tables e below (s₁.setTop (entryFrame m #[(.int p1), (.int p2), (.int p3), (.int p4), (.int p5), (.int p6)] maxLocals)) t := by
      intro t k
      refine cn70 t ?_
      refine o_astore X67.here hx (hb hby at_43) rfl (l' := #[.val (.int p1), .val (.int p2), .val (.int p3), .val (.int p4), .val (.int p5), .val (.int p6), .val (.int (2 : Int32)), .val (.double (FP.l2d (x0.toInt64))), .second, .val (.double (FP.l2d (p2.toInt64))), .second, .val (.double (FP.l2d (p3.toInt64))), .second, .val (.double (FP.l2d (p4.toInt64))), .second, .val (.double (FP.l2d (p5.toInt64))), .second, .val (.double (FP.l2d (p6.toInt64))), .second, .val (.ref a63), .val (.ref a67), .unset, .unset]) rfl ?_
      refine o_iload X67.here hx (hb hby at_45) rfl ?_
      refine o_iconstV X67.here hx (1 : Int32) (hb hby at_47) rfl ?_
      show Steps p.tables e below (T67.setTop (mkF m 48 #[.val (.int p1), .val (.int p2), .val (.int p3), .val (.int p4), .val (.int p5), .val (.int p6), .val (.int (2 : Int32)), .val (.double (FP.l2d (x0.toInt64))), .second, .val (.double (FP.l2d (p2.toInt64))), .second, .val (.double (FP.l2d (p3.toInt64))), .second, .val (.double (FP.l2d (p4.toInt64))), .second, .val (.double (FP.l2d (p5.toInt64))), .second, .val (.double (FP.l2d (p6.toInt64))), .second, .val (.ref a63), .val (.ref a67), .unset, .unset] [(.int (1 : Int32)), (.int (2 : Int32))])) _
      refine o_icmpNo X67.here hx (hb hby at_48) (XT.ii_lt_f (by decide)) ?_
      refine o_aload X67.here hx (hb hby at_51) rfl rfl ?_
      refine o_iconstV X67.here hx (0 : Int32) (hb hby at_53) rfl ?_
      refine o_dload X67.here hx (hb hby at_54) rfl ?_
      exact k
    obtain ⟨cl72, Ar72, qk72, Sz72, Mz72, Hh72, Gg72⟩ := A68
    have A68 : Arv Z h67 a63 kc63 .double (2 : Int32) [(.double (0 : UInt64)), (.double (0 : UInt64))] (.double (0 : UInt64)) := ⟨cl72, Ar72, qk72, Sz72, Mz72, Hh72, Gg72⟩
    obtain ⟨T73, h73, X73, e73, W73, st73⟩ := stD X67 hx hZ e67 Ar72 (j := (0 : Int32)) (inb_of Sz72 ⟨(by decide), (by decide)⟩) (g := (mkF m 56 #[.val (.int p1), .val (.int p2), .val (.int p3), .val (.int p4), .val (.int p5), .val (.int p6), .val (.int (2 : Int32)), .val (.double (FP.l2d (x0.toInt64))), .second, .val (.double (FP.l2d (p2.toInt64))), .second, .val (.double (FP.l2d (p3.toInt64))), .second, .val (.double (FP.l2d (p4.toInt64))), .second, .val (.double (FP.l2d (p5.toInt64))), .second, .val (.double (FP.l2d (p6.toInt64))), .second, .val (.ref a63), .val (.ref a67), .unset, .unset] [(.double (FP.l2d (x0.toInt64))), (.int (0 : Int32)), (.ref a63)])) rfl rfl (hb hby at_56)
    have N73 := Fr.snoc X73 N0 G63
    have Z73 : n0 ≤ h73.size := (by rw [W73.size]; exact Z67)
    have A74 : Arv Z h73 a63 kc63 .double (2 : Int32) [(.double (FP.l2d (x0.toInt64))), (.double (0 : UInt64))] (.double (0 : UInt64)) := (Arv.set Ar72 qk72 Sz72 Mz72 Hh72 Gg72 rfl W73 0 (by decide) (Nat.le_of_ble_eq_true rfl))
    have A75 : Arv Z h73 a67 kc67 .double (2 : Int32) [(.double (0 : UInt64)), (.double (0 : UInt64))] (.double (0 : UInt64)) := (A69.other W73 (Ne.symm ne67_a63))
    have cn76 : ∀ t, Steps p.tables e below (T73.setTop (mkF m 57 #[.val (.int p1), .val (.int p2), .val (.int p3), .val (.int p4), .val (.int p5), .val (.int p6), .val (.int (2 : Int32)), .val (.double (FP.l2d (x0.toInt64))), .second, .val (.double (FP.l2d (p2.toInt64))), .second, .val (.double (FP.l2d (p3.toInt64))), .second, .val (.double (FP.l2d (p4.toInt64))), .second, .val (.double (FP.l2d (p5.toInt64))), .second, .val (.double (FP.l2d (p6.toInt64))), .second, .val (.ref a63), .val (.ref a67), .unset, .unset] [])) t → Steps p.tables e below (s₁.setTop (entryFrame m #[(.int p1), (.int p2), (.int p3), (.int p4), (.int p5), (.int p6)] maxLocals)) t := fun t k => cn71 t (st73 _ k)
    have cn77 : ∀ t, Steps p.tables e below (T73.setTop (mkF m 62 #[.val (.int p1), .val (.int p2), .val (.int p3), .val (.int p4), .val (.int p5), .val (.int p6), .val (.int (2 : Int32)), .val (.double (FP.l2d (x0.toInt64))), .second, .val (.double (FP.l2d (p2.toInt64))), .second, .val (.double (FP.l2d (p3.toInt64))), .second, .val (.double (FP.l2d (p4.toInt64))), .second, .val (.double (FP.l2d (p5.toInt64))), .second, .val (.double (FP.l2d (p6.toInt64))), .second, .val (.ref a63), .val (.ref a67), .unset, .unset] [(.double (FP.l2d (p4.toInt64))), (.int (0 : Int32)), (.ref a67)])) t → Steps p.tables e below (s₁.setTop (entryFrame m #[(.int p1), (.int p2), (.int p3), (.int p4), (.int p5), (.int p6)] maxLocals)) t := by
      intro t k
      refine cn76 t ?_
      refine o_aload X73.here hx (hb hby at_57) rfl rfl ?_
      refine o_iconstV X73.here hx (0 : Int32) (hb hby at_59) rfl ?_
      refine o_dload X73.here hx (hb hby at_60) rfl ?_
      exact k
    obtain ⟨cl78, Ar78, qk78, Sz78, Mz78, Hh78, Gg78⟩ := A75
    have A75 : Arv Z h73 a67 kc67 .double (2 : Int32) [(.double (0 : UInt64)), (.double (0 : UInt64))] (.double (0 : UInt64)) := ⟨cl78, Ar78, qk78, Sz78, Mz78, Hh78, Gg78⟩
    obtain ⟨T79, h79, X79, e79, W79, st79⟩ := stD X73 hx hZ e73 Ar78 (j := (0 : Int32)) (inb_of Sz78 ⟨(by decide), (by decide)⟩) (g := (mkF m 62 #[.val (.int p1), .val (.int p2), .val (.int p3), .val (.int p4), .val (.int p5), .val (.int p6), .val (.int (2 : Int32)), .val (.double (FP.l2d (x0.toInt64))), .second, .val (.double (FP.l2d (p2.toInt64))), .second, .val (.double (FP.l2d (p3.toInt64))), .second, .val (.double (FP.l2d (p4.toInt64))), .second, .val (.double (FP.l2d (p5.toInt64))), .second, .val (.double (FP.l2d (p6.toInt64))), .second, .val (.ref a63), .val (.ref a67), .unset, .unset] [(.double (FP.l2d (p4.toInt64))), (.int (0 : Int32)), (.ref a67)])) rfl rfl (hb hby at_62)
    have N79 := Fr.snoc X79 N73 G67
    have Z79 : n0 ≤ h79.size := (by rw [W79.size]; exact Z73)
    have A80 : Arv Z h79 a63 kc63 .double (2 : Int32) [(.double (FP.l2d (x0.toInt64))), (.double (0 : UInt64))] (.double (0 : UInt64)) := (A74.other W79 ne67_a63)
    have A81 : Arv Z h79 a67 kc67 .double (2 : Int32) [(.double (FP.l2d (p4.toInt64))), (.double (0 : UInt64))] (.double (0 : UInt64)) := (Arv.set Ar78 qk78 Sz78 Mz78 Hh78 Gg78 rfl W79 0 (by decide) (Nat.le_of_ble_eq_true rfl))
    have cn82 : ∀ t, Steps p.tables e below (T79.setTop (mkF m 63 #[.val (.int p1), .val (.int p2), .val (.int p3), .val (.int p4), .val (.int p5), .val (.int p6), .val (.int (2 : Int32)), .val (.double (FP.l2d (x0.toInt64))), .second, .val (.double (FP.l2d (p2.toInt64))), .second, .val (.double (FP.l2d (p3.toInt64))), .second, .val (.double (FP.l2d (p4.toInt64))), .second, .val (.double (FP.l2d (p5.toInt64))), .second, .val (.double (FP.l2d (p6.toInt64))), .second, .val (.ref a63), .val (.ref a67), .unset, .unset] [])) t → Steps p.tables e below (s₁.setTop (entryFrame m #[(.int p1), (.int p2), (.int p3), (.int p4), (.int p5), (.int p6)] maxLocals)) t := fun t k => cn77 t (st79 _ k)
    have cn83 : ∀ t, Steps p.tables e below (T79.setTop (mkF m 74 #[.val (.int p1), .val (.int p2), .val (.int p3), .val (.int p4), .val (.int p5), .val (.int p6), .val (.int (2 : Int32)), .val (.double (FP.l2d (x0.toInt64))), .second, .val (.double (FP.l2d (p2.toInt64))), .second, .val (.double (FP.l2d (p3.toInt64))), .second, .val (.double (FP.l2d (p4.toInt64))), .second, .val (.double (FP.l2d (p5.toInt64))), .second, .val (.double (FP.l2d (p6.toInt64))), .second, .val (.ref a63), .val (.ref a67), .unset, .unset] [(.double (FP.l2d (p2.toInt64))), (.int (1 : Int32)), (.ref a63)])) t → Steps p.tables e below (s₁.setTop (entryFrame m #[(.int p1), (.int p2), (.int p3), (.int p4), (.int p5), (.int p6)] maxLocals)) t := by
      intro t k
      refine cn82 t ?_
      refine o_iload X79.here hx (hb hby at_63) rfl ?_
      refine o_iconstV X79.here hx (2 : Int32) (hb hby at_65) rfl ?_
      show Steps p.tables e below (T79.setTop (mkF m 66 #[.val (.int p1), .val (.int p2), .val (.int p3), .val (.int p4), .val (.int p5), .val (.int p6), .val (.int (2 : Int32)), .val (.double (FP.l2d (x0.toInt64))), .second, .val (.double (FP.l2d (p2.toInt64))), .second, .val (.double (FP.l2d (p3.toInt64))), .second, .val (.double (FP.l2d (p4.toInt64))), .second, .val (.double (FP.l2d (p5.toInt64))), .second, .val (.double (FP.l2d (p6.toInt64))), .second, .val (.ref a63), .val (.ref a67), .unset, .unset] [(.int (2 : Int32)), (.int (2 : Int32))])) _
      refine o_icmpNo X79.here hx (hb hby at_66) (XT.ii_lt_f (by decide)) ?_
      refine o_aload X79.here hx (hb hby at_69) rfl rfl ?_
      refine o_iconstV X79.here hx (1 : Int32) (hb hby at_71) rfl ?_
      refine o_dload X79.here hx (hb hby at_72) rfl ?_
      exact k
    obtain ⟨cl84, Ar84, qk84, Sz84, Mz84, Hh84, Gg84⟩ := A80
    have A80 : Arv Z h79 a63 kc63 .double (2 : Int32) [(.double (FP.l2d (x0.toInt64))), (.double (0 : UInt64))] (.double (0 : UInt64)) := ⟨cl84, Ar84, qk84, Sz84, Mz84, Hh84, Gg84⟩
    obtain ⟨T85, h85, X85, e85, W85, st85⟩ := stD X79 hx hZ e79 Ar84 (j := (1 : Int32)) (inb_of Sz84 ⟨(by decide), (by decide)⟩) (g := (mkF m 74 #[.val (.int p1), .val (.int p2), .val (.int p3), .val (.int p4), .val (.int p5), .val (.int p6), .val (.int (2 : Int32)), .val (.double (FP.l2d (x0.toInt64))), .second, .val (.double (FP.l2d (p2.toInt64))), .second, .val (.double (FP.l2d (p3.toInt64))), .second, .val (.double (FP.l2d (p4.toInt64))), .second, .val (.double (FP.l2d (p5.toInt64))), .second, .val (.double (FP.l2d (p6.toInt64))), .second, .val (.ref a63), .val (.ref a67), .unset, .unset] [(.double (FP.l2d (p2.toInt64))), (.int (1 : Int32)), (.ref a63)])) rfl rfl (hb hby at_74)
    have N85 := Fr.snoc X85 N79 G63
    have Z85 : n0 ≤ h85.size := (by rw [W85.size]; exact Z79)
    have A86 : Arv Z h85 a63 kc63 .double (2 : Int32) [(.double (FP.l2d (x0.toInt64))), (.double (FP.l2d (p2.toInt64)))] (.double (0 : UInt64)) := (Arv.set Ar84 qk84 Sz84 Mz84 Hh84 Gg84 rfl W85 1 (by decide) (Nat.le_of_ble_eq_true rfl))
    have A87 : Arv Z h85 a67 kc67 .double (2 : Int32) [(.double (FP.l2d (p4.toInt64))), (.double (0 : UInt64))] (.double (0 : UInt64)) := (A81.other W85 (Ne.symm ne67_a63))
    have cn88 : ∀ t, Steps p.tables e below (T85.setTop (mkF m 75 #[.val (.int p1), .val (.int p2), .val (.int p3), .val (.int p4), .val (.int p5), .val (.int p6), .val (.int (2 : Int32)), .val (.double (FP.l2d (x0.toInt64))), .second, .val (.double (FP.l2d (p2.toInt64))), .second, .val (.double (FP.l2d (p3.toInt64))), .second, .val (.double (FP.l2d (p4.toInt64))), .second, .val (.double (FP.l2d (p5.toInt64))), .second, .val (.double (FP.l2d (p6.toInt64))), .second, .val (.ref a63), .val (.ref a67), .unset, .unset] [])) t → Steps p.tables e below (s₁.setTop (entryFrame m #[(.int p1), (.int p2), (.int p3), (.int p4), (.int p5), (.int p6)] maxLocals)) t := fun t k => cn83 t (st85 _ k)
    have cn89 : ∀ t, Steps p.tables e below (T85.setTop (mkF m 80 #[.val (.int p1), .val (.int p2), .val (.int p3), .val (.int p4), .val (.int p5), .val (.int p6), .val (.int (2 : Int32)), .val (.double (FP.l2d (x0.toInt64))), .second, .val (.double (FP.l2d (p2.toInt64))), .second, .val (.double (FP.l2d (p3.toInt64))), .second, .val (.double (FP.l2d (p4.toInt64))), .second, .val (.double (FP.l2d (p5.toInt64))), .second, .val (.double (FP.l2d (p6.toInt64))), .second, .val (.ref a63), .val (.ref a67), .unset, .unset] [(.double (FP.l2d (p5.toInt64))), (.int (1 : Int32)), (.ref a67)])) t → Steps p.tables e below (s₁.setTop (entryFrame m #[(.int p1), (.int p2), (.int p3), (.int p4), (.int p5), (.int p6)] maxLocals)) t := by
      intro t k
      refine cn88 t ?_
      refine o_aload X85.here hx (hb hby at_75) rfl rfl ?_
      refine o_iconstV X85.here hx (1 : Int32) (hb hby at_77) rfl ?_
      refine o_dload X85.here hx (hb hby at_78) rfl ?_
      exact k
    obtain ⟨cl90, Ar90, qk90, Sz90, Mz90, Hh90, Gg90⟩ := A87
    have A87 : Arv Z h85 a67 kc67 .double (2 : Int32) [(.double (FP.l2d (p4.toInt64))), (.double (0 : UInt64))] (.double (0 : UInt64)) := ⟨cl90, Ar90, qk90, Sz90, Mz90, Hh90, Gg90⟩
    obtain ⟨T91, h91, X91, e91, W91, st91⟩ := stD X85 hx hZ e85 Ar90 (j := (1 : Int32)) (inb_of Sz90 ⟨(by decide), (by decide)⟩) (g := (mkF m 80 #[.val (.int p1), .val (.int p2), .val (.int p3), .val (.int p4), .val (.int p5), .val (.int p6), .val (.int (2 : Int32)), .val (.double (FP.l2d (x0.toInt64))), .second, .val (.double (FP.l2d (p2.toInt64))), .second, .val (.double (FP.l2d (p3.toInt64))), .second, .val (.double (FP.l2d (p4.toInt64))), .second, .val (.double (FP.l2d (p5.toInt64))), .second, .val (.double (FP.l2d (p6.toInt64))), .second, .val (.ref a63), .val (.ref a67), .unset, .unset] [(.double (FP.l2d (p5.toInt64))), (.int (1 : Int32)), (.ref a67)])) rfl rfl (hb hby at_80)
    have N91 := Fr.snoc X91 N85 G67
    have Z91 : n0 ≤ h91.size := (by rw [W91.size]; exact Z85)
    have A92 : Arv Z h91 a63 kc63 .double (2 : Int32) [(.double (FP.l2d (x0.toInt64))), (.double (FP.l2d (p2.toInt64)))] (.double (0 : UInt64)) := (A86.other W91 ne67_a63)
    have A93 : Arv Z h91 a67 kc67 .double (2 : Int32) [(.double (FP.l2d (p4.toInt64))), (.double (FP.l2d (p5.toInt64)))] (.double (0 : UInt64)) := (Arv.set Ar90 qk90 Sz90 Mz90 Hh90 Gg90 rfl W91 1 (by decide) (Nat.le_of_ble_eq_true rfl))
    have cn94 : ∀ t, Steps p.tables e below (T91.setTop (mkF m 81 #[.val (.int p1), .val (.int p2), .val (.int p3), .val (.int p4), .val (.int p5), .val (.int p6), .val (.int (2 : Int32)), .val (.double (FP.l2d (x0.toInt64))), .second, .val (.double (FP.l2d (p2.toInt64))), .second, .val (.double (FP.l2d (p3.toInt64))), .second, .val (.double (FP.l2d (p4.toInt64))), .second, .val (.double (FP.l2d (p5.toInt64))), .second, .val (.double (FP.l2d (p6.toInt64))), .second, .val (.ref a63), .val (.ref a67), .unset, .unset] [])) t → Steps p.tables e below (s₁.setTop (entryFrame m #[(.int p1), (.int p2), (.int p3), (.int p4), (.int p5), (.int p6)] maxLocals)) t := fun t k => cn89 t (st91 _ k)
    have cn95 : ∀ t, Steps p.tables e below (T91.setTop (mkF m 103 #[.val (.int p1), .val (.int p2), .val (.int p3), .val (.int p4), .val (.int p5), .val (.int p6), .val (.int (2 : Int32)), .val (.double (FP.l2d (x0.toInt64))), .second, .val (.double (FP.l2d (p2.toInt64))), .second, .val (.double (FP.l2d (p3.toInt64))), .second, .val (.double (FP.l2d (p4.toInt64))), .second, .val (.double (FP.l2d (p5.toInt64))), .second, .val (.double (FP.l2d (p6.toInt64))), .second, .val (.ref a63), .val (.ref a67), .unset, .unset] [(.ref a67), (.ref a63)])) t → Steps p.tables e below (s₁.setTop (entryFrame m #[(.int p1), (.int p2), (.int p3), (.int p4), (.int p5), (.int p6)] maxLocals)) t := by
      intro t k
      refine cn94 t ?_
      refine o_iload X91.here hx (hb hby at_81) rfl ?_
      refine o_iconstV X91.here hx (3 : Int32) (hb hby at_83) rfl ?_
      show Steps p.tables e below (T91.setTop (mkF m 84 #[.val (.int p1), .val (.int p2), .val (.int p3), .val (.int p4), .val (.int p5), .val (.int p6), .val (.int (2 : Int32)), .val (.double (FP.l2d (x0.toInt64))), .second, .val (.double (FP.l2d (p2.toInt64))), .second, .val (.double (FP.l2d (p3.toInt64))), .second, .val (.double (FP.l2d (p4.toInt64))), .second, .val (.double (FP.l2d (p5.toInt64))), .second, .val (.double (FP.l2d (p6.toInt64))), .second, .val (.ref a63), .val (.ref a67), .unset, .unset] [(.int (3 : Int32)), (.int (2 : Int32))])) _
      refine o_icmpYes X91.here hx (pc' := 99) (hb hby at_84) (XT.ii_lt_t (by decide)) (by decide) (by decide) ?_
      refine o_aload X91.here hx (hb hby at_99) rfl rfl ?_
      refine o_aload X91.here hx (hb hby at_101) rfl rfl ?_
      exact k
    obtain ⟨_, _, ⟨T96, L96, c96, n96⟩, -, X96, ⟨Lc96, hQ96, l96, y96, z96⟩, st96⟩ := Jvm.LawKit.callS X91 hx (y := (⟨"com/example/pareto_loom/paretoloom/model/NondominatedSet", "beats", "([D[D)Z"⟩ : MethodName)) hown (mvT hZ (hw _ (List.mem_of_getElem? (i := 1) rfl))) (mvT hZ (hw _ (List.mem_of_getElem? (i := 2) rfl))) (mvT hZ (hw _ (List.mem_of_getElem? (i := 3) rfl))) (mvT hZ (hw _ (List.mem_of_getElem? (i := 4) rfl))) (by decide) (backOf (W := 0) (rmB2 l Z a0 hw [] a63 a67 kc63 kc67 (x0.toInt64) (p2.toInt64) (p4.toInt64) (p5.toInt64) h91 n0 Z91 (own_bd_i _) (own_bd_i _) (own_bd_i _) (own_bd_i _) A92 A93) hZ (hw _ (List.mem_of_getElem? (i := 4) rfl)) (hw _ (List.mem_of_getElem? (i := 3) rfl)) (by decide) (by decide)) (g := (mkF m 103 #[.val (.int p1), .val (.int p2), .val (.int p3), .val (.int p4), .val (.int p5), .val (.int p6), .val (.int (2 : Int32)), .val (.double (FP.l2d (x0.toInt64))), .second, .val (.double (FP.l2d (p2.toInt64))), .second, .val (.double (FP.l2d (p3.toInt64))), .second, .val (.double (FP.l2d (p4.toInt64))), .second, .val (.double (FP.l2d (p5.toInt64))), .second, .val (.double (FP.l2d (p6.toInt64))), .second, .val (.ref a63), .val (.ref a67), .unset, .unset] [(.ref a67), (.ref a63)])) rfl (by rw [hml]; rfl) (argsL := [(.ref a63), (.ref a67)]) (rest := []) (lenOf pd_oaDaDcZ rfl) rfl (by show 2 * 0 + _ ≤ _; exact Nat.le_of_eq rfl) (hb hby at_103) (fun _ _ => ⟨rfl, e91, (by decide : 2 + 0 ≤ _), (by decide : 4 + 0 ≤ _)⟩)
    dsimp only [Pt.U, Pt.locs, Pt.cells, Pt.slots] at X96 l96 y96 z96 st96 hQ96
    subst l96 y96 z96
    obtain ⟨rfl, N96a, eh96⟩ := hQ96
    have N96 := Fr.app N91 N96a
    have e96 : T96.heap = h91 := eh96
    have cn97 : ∀ t, Steps p.tables e below (T96.setTop (mkF m 106 #[.val (.int p1), .val (.int p2), .val (.int p3), .val (.int p4), .val (.int p5), .val (.int p6), .val (.int (2 : Int32)), .val (.double (FP.l2d (x0.toInt64))), .second, .val (.double (FP.l2d (p2.toInt64))), .second, .val (.double (FP.l2d (p3.toInt64))), .second, .val (.double (FP.l2d (p4.toInt64))), .second, .val (.double (FP.l2d (p5.toInt64))), .second, .val (.double (FP.l2d (p6.toInt64))), .second, .val (.ref a63), .val (.ref a67), .unset, .unset] [(.int (if own_beats [((x0.toInt64), (p4.toInt64)), ((p2.toInt64), (p5.toInt64))] false = true then (1 : Int32) else 0))])) t → Steps p.tables e below (s₁.setTop (entryFrame m #[(.int p1), (.int p2), (.int p3), (.int p4), (.int p5), (.int p6)] maxLocals)) t := fun t k => cn95 t (st96 _ k)
    have cn98 : ∀ t, Steps p.tables e below (T96.setTop (mkF m 112 #[.val (.int p1), .val (.int p2), .val (.int p3), .val (.int p4), .val (.int p5), .val (.int p6), .val (.int (2 : Int32)), .val (.double (FP.l2d (x0.toInt64))), .second, .val (.double (FP.l2d (p2.toInt64))), .second, .val (.double (FP.l2d (p3.toInt64))), .second, .val (.double (FP.l2d (p4.toInt64))), .second, .val (.double (FP.l2d (p5.toInt64))), .second, .val (.double (FP.l2d (p6.toInt64))), .second, .val (.ref a63), .val (.ref a67), .val (.int (if own_beats [((x0.toInt64), (p4.toInt64)), ((p2.toInt64), (p5.toInt64))] false = true then (1 : Int32) else 0)), .unset] [(.ref a63), (.ref a67)])) t → Steps p.tables e below (s₁.setTop (entryFrame m #[(.int p1), (.int p2), (.int p3), (.int p4), (.int p5), (.int p6)] maxLocals)) t := by
      intro t k
      refine cn97 t ?_
      refine o_istore X96.here hx (hb hby at_106) (l' := #[.val (.int p1), .val (.int p2), .val (.int p3), .val (.int p4), .val (.int p5), .val (.int p6), .val (.int (2 : Int32)), .val (.double (FP.l2d (x0.toInt64))), .second, .val (.double (FP.l2d (p2.toInt64))), .second, .val (.double (FP.l2d (p3.toInt64))), .second, .val (.double (FP.l2d (p4.toInt64))), .second, .val (.double (FP.l2d (p5.toInt64))), .second, .val (.double (FP.l2d (p6.toInt64))), .second, .val (.ref a63), .val (.ref a67), .val (.int (if own_beats [((x0.toInt64), (p4.toInt64)), ((p2.toInt64), (p5.toInt64))] false = true then (1 : Int32) else 0)), .unset]) rfl ?_
      refine o_aload X96.here hx (hb hby at_108) rfl rfl ?_
      refine o_aload X96.here hx (hb hby at_110) rfl rfl ?_
      exact k
    obtain ⟨_, _, ⟨T99, L99, c99, n99⟩, -, X99, ⟨Lc99, hQ99, l99, y99, z99⟩, st99⟩ := Jvm.LawKit.callS X96 hx (y := (⟨"com/example/pareto_loom/paretoloom/model/NondominatedSet", "beats", "([D[D)Z"⟩ : MethodName)) hown (mvT hZ (hw _ (List.mem_of_getElem? (i := 1) rfl))) (mvT hZ (hw _ (List.mem_of_getElem? (i := 2) rfl))) (mvT hZ (hw _ (List.mem_of_getElem? (i := 3) rfl))) (mvT hZ (hw _ (List.mem_of_getElem? (i := 4) rfl))) (by decide) (backOf (W := 0) (rmB2 l Z a0 hw [] a67 a63 kc67 kc63 (p4.toInt64) (p5.toInt64) (x0.toInt64) (p2.toInt64) h91 n0 Z91 (own_bd_i _) (own_bd_i _) (own_bd_i _) (own_bd_i _) A93 A92) hZ (hw _ (List.mem_of_getElem? (i := 4) rfl)) (hw _ (List.mem_of_getElem? (i := 3) rfl)) (by decide) (by decide)) (g := (mkF m 112 #[.val (.int p1), .val (.int p2), .val (.int p3), .val (.int p4), .val (.int p5), .val (.int p6), .val (.int (2 : Int32)), .val (.double (FP.l2d (x0.toInt64))), .second, .val (.double (FP.l2d (p2.toInt64))), .second, .val (.double (FP.l2d (p3.toInt64))), .second, .val (.double (FP.l2d (p4.toInt64))), .second, .val (.double (FP.l2d (p5.toInt64))), .second, .val (.double (FP.l2d (p6.toInt64))), .second, .val (.ref a63), .val (.ref a67), .val (.int (if own_beats [((x0.toInt64), (p4.toInt64)), ((p2.toInt64), (p5.toInt64))] false = true then (1 : Int32) else 0)), .unset] [(.ref a63), (.ref a67)])) rfl (by rw [hml]; rfl) (argsL := [(.ref a67), (.ref a63)]) (rest := []) (lenOf pd_oaDaDcZ rfl) rfl (by show 2 * 0 + _ ≤ _; exact Nat.le_of_eq rfl) (hb hby at_112) (fun _ _ => ⟨rfl, e96, (by decide : 2 + 0 ≤ _), (by decide : 4 + 0 ≤ _)⟩)
    dsimp only [Pt.U, Pt.locs, Pt.cells, Pt.slots] at X99 l99 y99 z99 st99 hQ99
    subst l99 y99 z99
    obtain ⟨rfl, N99a, eh99⟩ := hQ99
    have N99 := Fr.app N96 N99a
    have e99 : T99.heap = h91 := eh99
    have cn100 : ∀ t, Steps p.tables e below (T99.setTop (mkF m 115 #[.val (.int p1), .val (.int p2), .val (.int p3), .val (.int p4), .val (.int p5), .val (.int p6), .val (.int (2 : Int32)), .val (.double (FP.l2d (x0.toInt64))), .second, .val (.double (FP.l2d (p2.toInt64))), .second, .val (.double (FP.l2d (p3.toInt64))), .second, .val (.double (FP.l2d (p4.toInt64))), .second, .val (.double (FP.l2d (p5.toInt64))), .second, .val (.double (FP.l2d (p6.toInt64))), .second, .val (.ref a63), .val (.ref a67), .val (.int (if own_beats [((x0.toInt64), (p4.toInt64)), ((p2.toInt64), (p5.toInt64))] false = true then (1 : Int32) else 0)), .unset] [(.int (if own_beats [((p4.toInt64), (x0.toInt64)), ((p5.toInt64), (p2.toInt64))] false = true then (1 : Int32) else 0))])) t → Steps p.tables e below (s₁.setTop (entryFrame m #[(.int p1), (.int p2), (.int p3), (.int p4), (.int p5), (.int p6)] maxLocals)) t := fun t k => cn98 t (st99 _ k)
    have cn101 : ∀ t, Steps p.tables e below (T99.setTop (mkF m 133 #[.val (.int p1), .val (.int p2), .val (.int p3), .val (.int p4), .val (.int p5), .val (.int p6), .val (.int (2 : Int32)), .val (.double (FP.l2d (x0.toInt64))), .second, .val (.double (FP.l2d (p2.toInt64))), .second, .val (.double (FP.l2d (p3.toInt64))), .second, .val (.double (FP.l2d (p4.toInt64))), .second, .val (.double (FP.l2d (p5.toInt64))), .second, .val (.double (FP.l2d (p6.toInt64))), .second, .val (.ref a63), .val (.ref a67), .val (.int (if own_beats [((x0.toInt64), (p4.toInt64)), ((p2.toInt64), (p5.toInt64))] false = true then (1 : Int32) else 0)), .val (.int (if own_beats [((p4.toInt64), (x0.toInt64)), ((p5.toInt64), (p2.toInt64))] false = true then (1 : Int32) else 0))] [(.double (FP.l2d (p6.toInt64))), (.double (FP.l2d (p5.toInt64))), (.double (FP.l2d (p4.toInt64))), (.double (FP.l2d (p3.toInt64))), (.double (FP.l2d (p2.toInt64))), (.double (FP.l2d (x0.toInt64))), (.int (2 : Int32)), (.int (if own_beats [((x0.toInt64), (p4.toInt64)), ((p2.toInt64), (p5.toInt64))] false = true then (1 : Int32) else 0))])) t → Steps p.tables e below (s₁.setTop (entryFrame m #[(.int p1), (.int p2), (.int p3), (.int p4), (.int p5), (.int p6)] maxLocals)) t := by
      intro t k
      refine cn100 t ?_
      refine o_istore X99.here hx (hb hby at_115) (l' := #[.val (.int p1), .val (.int p2), .val (.int p3), .val (.int p4), .val (.int p5), .val (.int p6), .val (.int (2 : Int32)), .val (.double (FP.l2d (x0.toInt64))), .second, .val (.double (FP.l2d (p2.toInt64))), .second, .val (.double (FP.l2d (p3.toInt64))), .second, .val (.double (FP.l2d (p4.toInt64))), .second, .val (.double (FP.l2d (p5.toInt64))), .second, .val (.double (FP.l2d (p6.toInt64))), .second, .val (.ref a63), .val (.ref a67), .val (.int (if own_beats [((x0.toInt64), (p4.toInt64)), ((p2.toInt64), (p5.toInt64))] false = true then (1 : Int32) else 0)), .val (.int (if own_beats [((p4.toInt64), (x0.toInt64)), ((p5.toInt64), (p2.toInt64))] false = true then (1 : Int32) else 0))]) rfl ?_
      refine o_iload X99.here hx (hb hby at_117) rfl ?_
      refine o_iload X99.here hx (hb hby at_119) rfl ?_
      refine o_dload X99.here hx (hb hby at_121) rfl ?_
      refine o_dload X99.here hx (hb hby at_123) rfl ?_
      refine o_dload X99.here hx (hb hby at_125) rfl ?_
      refine o_dload X99.here hx (hb hby at_127) rfl ?_
      refine o_dload X99.here hx (hb hby at_129) rfl ?_
      refine o_dload X99.here hx (hb hby at_131) rfl ?_
      exact k
    obtain ⟨_, _, ⟨T102, L102, c102, n102⟩, -, X102, ⟨Lc102, hQ102, l102, y102, z102⟩, st102⟩ := Jvm.LawKit.callS X99 hx (y := (⟨"com/example/pareto_loom/paretoloom/model/NondominatedSetBeatsPinLaw", "expect", "(IDDDDDD)Z"⟩ : MethodName)) hown (mvT hZ (hw _ (List.mem_of_getElem? (i := 5) rfl))) (mvT hZ (hw _ (List.mem_of_getElem? (i := 6) rfl))) (mvT hZ (hw _ (List.mem_of_getElem? (i := 7) rfl))) (mvT hZ (hw _ (List.mem_of_getElem? (i := 8) rfl))) (by decide) (backOf (W := 1) (rmE2 l Z a0 hw [] (x0.toInt64) (p2.toInt64) (p3.toInt64) (p4.toInt64) (p5.toInt64) (p6.toInt64) h91 n0 Z91 (own_bd_i _) (own_bd_i _) (own_bd_i _) (own_bd_i _) (own_bd_i _) (own_bd_i _)) hZ (hw _ (List.mem_of_getElem? (i := 8) rfl)) (hw _ (List.mem_of_getElem? (i := 7) rfl)) (by decide) (by decide)) (g := (mkF m 133 #[.val (.int p1), .val (.int p2), .val (.int p3), .val (.int p4), .val (.int p5), .val (.int p6), .val (.int (2 : Int32)), .val (.double (FP.l2d (x0.toInt64))), .second, .val (.double (FP.l2d (p2.toInt64))), .second, .val (.double (FP.l2d (p3.toInt64))), .second, .val (.double (FP.l2d (p4.toInt64))), .second, .val (.double (FP.l2d (p5.toInt64))), .second, .val (.double (FP.l2d (p6.toInt64))), .second, .val (.ref a63), .val (.ref a67), .val (.int (if own_beats [((x0.toInt64), (p4.toInt64)), ((p2.toInt64), (p5.toInt64))] false = true then (1 : Int32) else 0)), .val (.int (if own_beats [((p4.toInt64), (x0.toInt64)), ((p5.toInt64), (p2.toInt64))] false = true then (1 : Int32) else 0))] [(.double (FP.l2d (p6.toInt64))), (.double (FP.l2d (p5.toInt64))), (.double (FP.l2d (p4.toInt64))), (.double (FP.l2d (p3.toInt64))), (.double (FP.l2d (p2.toInt64))), (.double (FP.l2d (x0.toInt64))), (.int (2 : Int32)), (.int (if own_beats [((x0.toInt64), (p4.toInt64)), ((p2.toInt64), (p5.toInt64))] false = true then (1 : Int32) else 0))])) rfl (by rw [hml]; rfl) (argsL := [(.int (2 : Int32)), (.double (FP.l2d (x0.toInt64))), (.double (FP.l2d (p2.toInt64))), (.double (FP.l2d (p3.toInt64))), (.double (FP.l2d (p4.toInt64))), (.double (FP.l2d (p5.toInt64))), (.double (FP.l2d (p6.toInt64)))]) (rest := [(.int (if own_beats [((x0.toInt64), (p4.toInt64)), ((p2.toInt64), (p5.toInt64))] false = true then (1 : Int32) else 0))]) (lenOf pd_oIDDDDDDcZ rfl) rfl (by show 2 * 0 + _ ≤ _; exact Nat.le_of_eq rfl) (hb hby at_133) (fun _ _ => ⟨rfl, e99, (by decide : 2 + 0 ≤ _), (by decide : 4 + 0 ≤ _)⟩)
    dsimp only [Pt.U, Pt.locs, Pt.cells, Pt.slots] at X102 l102 y102 z102 st102 hQ102
    subst l102 y102 z102
    obtain ⟨rfl, N102a, eh102⟩ := hQ102
    have N102 := Fr.app N99 N102a
    have e102 : T102.heap = h91 := eh102
    have cn103 : ∀ t, Steps p.tables e below (T102.setTop (mkF m 136 #[.val (.int p1), .val (.int p2), .val (.int p3), .val (.int p4), .val (.int p5), .val (.int p6), .val (.int (2 : Int32)), .val (.double (FP.l2d (x0.toInt64))), .second, .val (.double (FP.l2d (p2.toInt64))), .second, .val (.double (FP.l2d (p3.toInt64))), .second, .val (.double (FP.l2d (p4.toInt64))), .second, .val (.double (FP.l2d (p5.toInt64))), .second, .val (.double (FP.l2d (p6.toInt64))), .second, .val (.ref a63), .val (.ref a67), .val (.int (if own_beats [((x0.toInt64), (p4.toInt64)), ((p2.toInt64), (p5.toInt64))] false = true then (1 : Int32) else 0)), .val (.int (if own_beats [((p4.toInt64), (x0.toInt64)), ((p5.toInt64), (p2.toInt64))] false = true then (1 : Int32) else 0))] [(.int (if own_beats [((x0.toInt64), (p4.toInt64)), ((p2.toInt64), (p5.toInt64))] false = true then (1 : Int32) else 0)), (.int (if own_beats [((x0.toInt64), (p4.toInt64)), ((p2.toInt64), (p5.toInt64))] false = true then (1 : Int32) else 0))])) t → Steps p.tables e below (s₁.setTop (entryFrame m #[(.int p1), (.int p2), (.int p3), (.int p4), (.int p5), (.int p6)] maxLocals)) t := fun t k => cn101 t (st102 _ k)
    have cn104 : ∀ t, Steps p.tables e below (T102.setTop (mkF m 155 #[.val (.int p1), .val (.int p2), .val (.int p3), .val (.int p4), .val (.int p5), .val (.int p6), .val (.int (2 : Int32)), .val (.double (FP.l2d (x0.toInt64))), .second, .val (.double (FP.l2d (p2.toInt64))), .second, .val (.double (FP.l2d (p3.toInt64))), .second, .val (.double (FP.l2d (p4.toInt64))), .second, .val (.double (FP.l2d (p5.toInt64))), .second, .val (.double (FP.l2d (p6.toInt64))), .second, .val (.ref a63), .val (.ref a67), .val (.int (if own_beats [((x0.toInt64), (p4.toInt64)), ((p2.toInt64), (p5.toInt64))] false = true then (1 : Int32) else 0)), .val (.int (if own_beats [((p4.toInt64), (x0.toInt64)), ((p5.toInt64), (p2.toInt64))] false = true then (1 : Int32) else 0))] [(.double (FP.l2d (p3.toInt64))), (.double (FP.l2d (p2.toInt64))), (.double (FP.l2d (x0.toInt64))), (.double (FP.l2d (p6.toInt64))), (.double (FP.l2d (p5.toInt64))), (.double (FP.l2d (p4.toInt64))), (.int (2 : Int32)), (.int (if own_beats [((p4.toInt64), (x0.toInt64)), ((p5.toInt64), (p2.toInt64))] false = true then (1 : Int32) else 0))])) t → Steps p.tables e below (s₁.setTop (entryFrame m #[(.int p1), (.int p2), (.int p3), (.int p4), (.int p5), (.int p6)] maxLocals)) t := by
      intro t k
      refine cn103 t ?_
      refine o_icmpNo X102.here hx (hb hby at_136) (XT.ii_ne_f rfl) ?_
      refine o_iload X102.here hx (hb hby at_139) rfl ?_
      refine o_iload X102.here hx (hb hby at_141) rfl ?_
      refine o_dload X102.here hx (hb hby at_143) rfl ?_
      refine o_dload X102.here hx (hb hby at_145) rfl ?_
      refine o_dload X102.here hx (hb hby at_147) rfl ?_
      refine o_dload X102.here hx (hb hby at_149) rfl ?_
      refine o_dload X102.here hx (hb hby at_151) rfl ?_
      refine o_dload X102.here hx (hb hby at_153) rfl ?_
      exact k
    obtain ⟨_, _, ⟨T105, L105, c105, n105⟩, -, X105, ⟨Lc105, hQ105, l105, y105, z105⟩, st105⟩ := Jvm.LawKit.callS X102 hx (y := (⟨"com/example/pareto_loom/paretoloom/model/NondominatedSetBeatsPinLaw", "expect", "(IDDDDDD)Z"⟩ : MethodName)) hown (mvT hZ (hw _ (List.mem_of_getElem? (i := 5) rfl))) (mvT hZ (hw _ (List.mem_of_getElem? (i := 6) rfl))) (mvT hZ (hw _ (List.mem_of_getElem? (i := 7) rfl))) (mvT hZ (hw _ (List.mem_of_getElem? (i := 8) rfl))) (by decide) (backOf (W := 1) (rmE2 l Z a0 hw [] (p4.toInt64) (p5.toInt64) (p6.toInt64) (x0.toInt64) (p2.toInt64) (p3.toInt64) h91 n0 Z91 (own_bd_i _) (own_bd_i _) (own_bd_i _) (own_bd_i _) (own_bd_i _) (own_bd_i _)) hZ (hw _ (List.mem_of_getElem? (i := 8) rfl)) (hw _ (List.mem_of_getElem? (i := 7) rfl)) (by decide) (by decide)) (g := (mkF m 155 #[.val (.int p1), .val (.int p2), .val (.int p3), .val (.int p4), .val (.int p5), .val (.int p6), .val (.int (2 : Int32)), .val (.double (FP.l2d (x0.toInt64))), .second, .val (.double (FP.l2d (p2.toInt64))), .second, .val (.double (FP.l2d (p3.toInt64))), .second, .val (.double (FP.l2d (p4.toInt64))), .second, .val (.double (FP.l2d (p5.toInt64))), .second, .val (.double (FP.l2d (p6.toInt64))), .second, .val (.ref a63), .val (.ref a67), .val (.int (if own_beats [((x0.toInt64), (p4.toInt64)), ((p2.toInt64), (p5.toInt64))] false = true then (1 : Int32) else 0)), .val (.int (if own_beats [((p4.toInt64), (x0.toInt64)), ((p5.toInt64), (p2.toInt64))] false = true then (1 : Int32) else 0))] [(.double (FP.l2d (p3.toInt64))), (.double (FP.l2d (p2.toInt64))), (.double (FP.l2d (x0.toInt64))), (.double (FP.l2d (p6.toInt64))), (.double (FP.l2d (p5.toInt64))), (.double (FP.l2d (p4.toInt64))), (.int (2 : Int32)), (.int (if own_beats [((p4.toInt64), (x0.toInt64)), ((p5.toInt64), (p2.toInt64))] false = true then (1 : Int32) else 0))])) rfl (by rw [hml]; rfl) (argsL := [(.int (2 : Int32)), (.double (FP.l2d (p4.toInt64))), (.double (FP.l2d (p5.toInt64))), (.double (FP.l2d (p6.toInt64))), (.double (FP.l2d (x0.toInt64))), (.double (FP.l2d (p2.toInt64))), (.double (FP.l2d (p3.toInt64)))]) (rest := [(.int (if own_beats [((p4.toInt64), (x0.toInt64)), ((p5.toInt64), (p2.toInt64))] false = true then (1 : Int32) else 0))]) (lenOf pd_oIDDDDDDcZ rfl) rfl (by show 2 * 0 + _ ≤ _; exact Nat.le_of_eq rfl) (hb hby at_155) (fun _ _ => ⟨rfl, e102, (by decide : 2 + 0 ≤ _), (by decide : 4 + 0 ≤ _)⟩)
    dsimp only [Pt.U, Pt.locs, Pt.cells, Pt.slots] at X105 l105 y105 z105 st105 hQ105
    subst l105 y105 z105
    obtain ⟨rfl, N105a, eh105⟩ := hQ105
    have N105 := Fr.app N102 N105a
    have e105 : T105.heap = h91 := eh105
    have cn106 : ∀ t, Steps p.tables e below (T105.setTop (mkF m 158 #[.val (.int p1), .val (.int p2), .val (.int p3), .val (.int p4), .val (.int p5), .val (.int p6), .val (.int (2 : Int32)), .val (.double (FP.l2d (x0.toInt64))), .second, .val (.double (FP.l2d (p2.toInt64))), .second, .val (.double (FP.l2d (p3.toInt64))), .second, .val (.double (FP.l2d (p4.toInt64))), .second, .val (.double (FP.l2d (p5.toInt64))), .second, .val (.double (FP.l2d (p6.toInt64))), .second, .val (.ref a63), .val (.ref a67), .val (.int (if own_beats [((x0.toInt64), (p4.toInt64)), ((p2.toInt64), (p5.toInt64))] false = true then (1 : Int32) else 0)), .val (.int (if own_beats [((p4.toInt64), (x0.toInt64)), ((p5.toInt64), (p2.toInt64))] false = true then (1 : Int32) else 0))] [(.int (if own_beats [((p4.toInt64), (x0.toInt64)), ((p5.toInt64), (p2.toInt64))] false = true then (1 : Int32) else 0)), (.int (if own_beats [((p4.toInt64), (x0.toInt64)), ((p5.toInt64), (p2.toInt64))] false = true then (1 : Int32) else 0))])) t → Steps p.tables e below (s₁.setTop (entryFrame m #[(.int p1), (.int p2), (.int p3), (.int p4), (.int p5), (.int p6)] maxLocals)) t := fun t k => cn104 t (st105 _ k)
    have cn107 : ∀ t, Steps p.tables e below (T105.setTop (mkF m 166 #[.val (.int p1), .val (.int p2), .val (.int p3), .val (.int p4), .val (.int p5), .val (.int p6), .val (.int (2 : Int32)), .val (.double (FP.l2d (x0.toInt64))), .second, .val (.double (FP.l2d (p2.toInt64))), .second, .val (.double (FP.l2d (p3.toInt64))), .second, .val (.double (FP.l2d (p4.toInt64))), .second, .val (.double (FP.l2d (p5.toInt64))), .second, .val (.double (FP.l2d (p6.toInt64))), .second, .val (.ref a63), .val (.ref a67), .val (.int (if own_beats [((x0.toInt64), (p4.toInt64)), ((p2.toInt64), (p5.toInt64))] false = true then (1 : Int32) else 0)), .val (.int (if own_beats [((p4.toInt64), (x0.toInt64)), ((p5.toInt64), (p2.toInt64))] false = true then (1 : Int32) else 0))] [(.int (1 : Int32))])) t → Steps p.tables e below (s₁.setTop (entryFrame m #[(.int p1), (.int p2), (.int p3), (.int p4), (.int p5), (.int p6)] maxLocals)) t := by
      intro t k
      refine cn106 t ?_
      refine o_icmpNo X105.here hx (hb hby at_158) (XT.ii_ne_f rfl) ?_
      refine o_iconstV X105.here hx (1 : Int32) (hb hby at_161) rfl ?_
      show Steps p.tables e below (T105.setTop (mkF m 162 #[.val (.int p1), .val (.int p2), .val (.int p3), .val (.int p4), .val (.int p5), .val (.int p6), .val (.int (2 : Int32)), .val (.double (FP.l2d (x0.toInt64))), .second, .val (.double (FP.l2d (p2.toInt64))), .second, .val (.double (FP.l2d (p3.toInt64))), .second, .val (.double (FP.l2d (p4.toInt64))), .second, .val (.double (FP.l2d (p5.toInt64))), .second, .val (.double (FP.l2d (p6.toInt64))), .second, .val (.ref a63), .val (.ref a67), .val (.int (if own_beats [((x0.toInt64), (p4.toInt64)), ((p2.toInt64), (p5.toInt64))] false = true then (1 : Int32) else 0)), .val (.int (if own_beats [((p4.toInt64), (x0.toInt64)), ((p5.toInt64), (p2.toInt64))] false = true then (1 : Int32) else 0))] [(.int (1 : Int32))])) _
      refine o_goto X105.here hx (pc' := 166) (hb hby at_162) (by decide) (by decide) ?_
      exact k
    obtain ⟨fs, hr, hrun, hended, hW, hsame⟩ := X105.leave (v := some (.int (1 : Int32))) (fun h => by rw [Bd.returns] at h; cases h)
    refine ⟨_, _, cn107 _ ?_, hrun, hended, _, _, rfl, ?_, ⟨_, rfl⟩, hW, hsame.mono (by decide) (by decide)⟩
    · exact retN X105 hx (t := .boolean) Bd.returns (by simp) (hb hby at_166) hr
    · show Q0 Z p1 p2 p3 p4 p5 p6 h0 n0 _ T105.heap _
      rw [e105]
      exact ⟨rfl, N105⟩
  · -- (3 : Int32)
    obtain ⟨x0, h_x0⟩ : ∃ z : Int32, z = p1 >>> ((2 : Int32) &&& 31) := ⟨_, rfl⟩
    have cn108 : ∀ t, Steps p.tables e below (s₁.setTop (mkF m 35 #[.val (.int p1), .val (.int p2), .val (.int p3), .val (.int p4), .val (.int p5), .val (.int p6), .val (.int (3 : Int32)), .val (.double (FP.l2d (x0.toInt64))), .second, .val (.double (FP.l2d (p2.toInt64))), .second, .val (.double (FP.l2d (p3.toInt64))), .second, .val (.double (FP.l2d (p4.toInt64))), .second, .val (.double (FP.l2d (p5.toInt64))), .second, .val (.double (FP.l2d (p6.toInt64))), .second, .unset, .unset, .unset, .unset] [(.int (3 : Int32))])) t → Steps p.tables e below (s₁.setTop (entryFrame m #[(.int p1), (.int p2), (.int p3), (.int p4), (.int p5), (.int p6)] maxLocals)) t := by
      intro t k
      refine cn1 t ?_
      rw [hs5_3]
      refine o_istore X0.here hx (hb hby at_3) (l' := #[.val (.int p1), .val (.int p2), .val (.int p3), .val (.int p4), .val (.int p5), .val (.int p6), .val (.int (3 : Int32)), .unset, .unset, .unset, .unset, .unset, .unset, .unset, .unset, .unset, .unset, .unset, .unset, .unset, .unset, .unset, .unset]) rfl ?_
      refine o_iloadN X0.here hx (hb hby at_5) rfl ?_
      refine o_iconstV X0.here hx (2 : Int32) (hb hby at_6) rfl ?_
      refine o_ishr X0.here hx (hb hby at_7) ?_
      rw [← h_x0]
      refine o_i2dS X0.here hx (hb hby at_8) (v := FP.l2d (x0.toInt64)) (i2d_w _) ?_
      refine o_dstore X0.here hx (hb hby at_9) (l' := #[.val (.int p1), .val (.int p2), .val (.int p3), .val (.int p4), .val (.int p5), .val (.int p6), .val (.int (3 : Int32)), .val (.double (FP.l2d (x0.toInt64))), .second, .unset, .unset, .unset, .unset, .unset, .unset, .unset, .unset, .unset, .unset, .unset, .unset, .unset, .unset]) rfl ?_
      refine o_iloadN X0.here hx (hb hby at_11) rfl ?_
      refine o_i2dS X0.here hx (hb hby at_12) (v := FP.l2d (p2.toInt64)) (i2d_w _) ?_
      refine o_dstore X0.here hx (hb hby at_13) (l' := #[.val (.int p1), .val (.int p2), .val (.int p3), .val (.int p4), .val (.int p5), .val (.int p6), .val (.int (3 : Int32)), .val (.double (FP.l2d (x0.toInt64))), .second, .val (.double (FP.l2d (p2.toInt64))), .second, .unset, .unset, .unset, .unset, .unset, .unset, .unset, .unset, .unset, .unset, .unset, .unset]) rfl ?_
      refine o_iloadN X0.here hx (hb hby at_15) rfl ?_
      refine o_i2dS X0.here hx (hb hby at_16) (v := FP.l2d (p3.toInt64)) (i2d_w _) ?_
      refine o_dstore X0.here hx (hb hby at_17) (l' := #[.val (.int p1), .val (.int p2), .val (.int p3), .val (.int p4), .val (.int p5), .val (.int p6), .val (.int (3 : Int32)), .val (.double (FP.l2d (x0.toInt64))), .second, .val (.double (FP.l2d (p2.toInt64))), .second, .val (.double (FP.l2d (p3.toInt64))), .second, .unset, .unset, .unset, .unset, .unset, .unset, .unset, .unset, .unset, .unset]) rfl ?_
      refine o_iloadN X0.here hx (hb hby at_19) rfl ?_
      refine o_i2dS X0.here hx (hb hby at_20) (v := FP.l2d (p4.toInt64)) (i2d_w _) ?_
      refine o_dstore X0.here hx (hb hby at_21) (l' := #[.val (.int p1), .val (.int p2), .val (.int p3), .val (.int p4), .val (.int p5), .val (.int p6), .val (.int (3 : Int32)), .val (.double (FP.l2d (x0.toInt64))), .second, .val (.double (FP.l2d (p2.toInt64))), .second, .val (.double (FP.l2d (p3.toInt64))), .second, .val (.double (FP.l2d (p4.toInt64))), .second, .unset, .unset, .unset, .unset, .unset, .unset, .unset, .unset]) rfl ?_
      refine o_iload X0.here hx (hb hby at_23) rfl ?_
      refine o_i2dS X0.here hx (hb hby at_25) (v := FP.l2d (p5.toInt64)) (i2d_w _) ?_
      refine o_dstore X0.here hx (hb hby at_26) (l' := #[.val (.int p1), .val (.int p2), .val (.int p3), .val (.int p4), .val (.int p5), .val (.int p6), .val (.int (3 : Int32)), .val (.double (FP.l2d (x0.toInt64))), .second, .val (.double (FP.l2d (p2.toInt64))), .second, .val (.double (FP.l2d (p3.toInt64))), .second, .val (.double (FP.l2d (p4.toInt64))), .second, .val (.double (FP.l2d (p5.toInt64))), .second, .unset, .unset, .unset, .unset, .unset, .unset]) rfl ?_
      refine o_iload X0.here hx (hb hby at_28) rfl ?_
      refine o_i2dS X0.here hx (hb hby at_30) (v := FP.l2d (p6.toInt64)) (i2d_w _) ?_
      refine o_dstore X0.here hx (hb hby at_31) (l' := #[.val (.int p1), .val (.int p2), .val (.int p3), .val (.int p4), .val (.int p5), .val (.int p6), .val (.int (3 : Int32)), .val (.double (FP.l2d (x0.toInt64))), .second, .val (.double (FP.l2d (p2.toInt64))), .second, .val (.double (FP.l2d (p3.toInt64))), .second, .val (.double (FP.l2d (p4.toInt64))), .second, .val (.double (FP.l2d (p5.toInt64))), .second, .val (.double (FP.l2d (p6.toInt64))), .second, .unset, .unset, .unset, .unset]) rfl ?_
      refine o_iload X0.here hx (hb hby at_33) rfl ?_
      exact k
    obtain ⟨T109, h109, kc109, X109, e109, E109, A109, st109⟩ := newP X0 hx hZ (hw _ (List.mem_of_getElem? (i := 0) rfl)) e0 (g := (mkF m 35 #[.val (.int p1), .val (.int p2), .val (.int p3), .val (.int p4), .val (.int p5), .val (.int p6), .val (.int (3 : Int32)), .val (.double (FP.l2d (x0.toInt64))), .second, .val (.double (FP.l2d (p2.toInt64))), .second, .val (.double (FP.l2d (p3.toInt64))), .second, .val (.double (FP.l2d (p4.toInt64))), .second, .val (.double (FP.l2d (p5.toInt64))), .second, .val (.double (FP.l2d (p6.toInt64))), .second, .unset, .unset, .unset, .unset] [(.int (3 : Int32))])) rfl (hb hby at_35) rfl (by decide) (cap := 3) (by decide) (by decide) (by decide) (by decide)
    obtain ⟨a109, g109⟩ : ∃ z, z = h0.size := ⟨_, rfl⟩
    rw [← g109] at A109 st109
    have Z109 : n0 ≤ h109.size := (Nat.le_trans Z0 E109.1)
    have G109 : n0 ≤ a109 := (Nat.le_trans Z0 (Nat.le_of_eq g109.symm))
    have A110 : Arv Z h109 a109 kc109 .double (3 : Int32) [(.double (0 : UInt64)), (.double (0 : UInt64)), (.double (0 : UInt64))] (.double (0 : UInt64)) := ((Arv.new A109 (by decide)).pad (pad_rep [] _ 3))
    have cn111 : ∀ t, Steps p.tables e below (T109.setTop (mkF m 37 #[.val (.int p1), .val (.int p2), .val (.int p3), .val (.int p4), .val (.int p5), .val (.int p6), .val (.int (3 : Int32)), .val (.double (FP.l2d (x0.toInt64))), .second, .val (.double (FP.l2d (p2.toInt64))), .second, .val (.double (FP.l2d (p3.toInt64))), .second, .val (.double (FP.l2d (p4.toInt64))), .second, .val (.double (FP.l2d (p5.toInt64))), .second, .val (.double (FP.l2d (p6.toInt64))), .second, .unset, .unset, .unset, .unset] [(.ref a109)])) t → Steps p.tables e below (s₁.setTop (entryFrame m #[(.int p1), (.int p2), (.int p3), (.int p4), (.int p5), (.int p6)] maxLocals)) t := fun t k => cn108 t (st109 _ k)
    have cn112 : ∀ t, Steps p.tables e below (T109.setTop (mkF m 41 #[.val (.int p1), .val (.int p2), .val (.int p3), .val (.int p4), .val (.int p5), .val (.int p6), .val (.int (3 : Int32)), .val (.double (FP.l2d (x0.toInt64))), .second, .val (.double (FP.l2d (p2.toInt64))), .second, .val (.double (FP.l2d (p3.toInt64))), .second, .val (.double (FP.l2d (p4.toInt64))), .second, .val (.double (FP.l2d (p5.toInt64))), .second, .val (.double (FP.l2d (p6.toInt64))), .second, .val (.ref a109), .unset, .unset, .unset] [(.int (3 : Int32))])) t → Steps p.tables e below (s₁.setTop (entryFrame m #[(.int p1), (.int p2), (.int p3), (.int p4), (.int p5), (.int p6)] maxLocals)) t := by
      intro t k
      refine cn111 t ?_
      refine o_astore X109.here hx (hb hby at_37) rfl (l' := #[.val (.int p1), .val (.int p2), .val (.int p3), .val (.int p4), .val (.int p5), .val (.int p6), .val (.int (3 : Int32)), .val (.double (FP.l2d (x0.toInt64))), .second, .val (.double (FP.l2d (p2.toInt64))), .second, .val (.double (FP.l2d (p3.toInt64))), .second, .val (.double (FP.l2d (p4.toInt64))), .second, .val (.double (FP.l2d (p5.toInt64))), .second, .val (.double (FP.l2d (p6.toInt64))), .second, .val (.ref a109), .unset, .unset, .unset]) rfl ?_
      refine o_iload X109.here hx (hb hby at_39) rfl ?_
      exact k
    obtain ⟨T113, h113, kc113, X113, e113, E113, A113, st113⟩ := newP X109 hx hZ (hw _ (List.mem_of_getElem? (i := 0) rfl)) e109 (g := (mkF m 41 #[.val (.int p1), .val (.int p2), .val (.int p3), .val (.int p4), .val (.int p5), .val (.int p6), .val (.int (3 : Int32)), .val (.double (FP.l2d (x0.toInt64))), .second, .val (.double (FP.l2d (p2.toInt64))), .second, .val (.double (FP.l2d (p3.toInt64))), .second, .val (.double (FP.l2d (p4.toInt64))), .second, .val (.double (FP.l2d (p5.toInt64))), .second, .val (.double (FP.l2d (p6.toInt64))), .second, .val (.ref a109), .unset, .unset, .unset] [(.int (3 : Int32))])) rfl (hb hby at_41) rfl (by decide) (cap := 3) (by decide) (by decide) (by decide) (by decide)
    obtain ⟨a113, g113⟩ : ∃ z, z = h109.size := ⟨_, rfl⟩
    rw [← g113] at A113 st113
    have Z113 : n0 ≤ h113.size := (Nat.le_trans Z109 E113.1)
    have G113 : n0 ≤ a113 := (Nat.le_trans Z109 (Nat.le_of_eq g113.symm))
    have ne113_a109 : a109 ≠ a113 := Nat.ne_of_lt (Nat.lt_of_lt_of_eq A110.lt g113.symm)
    have A114 : Arv Z h113 a109 kc109 .double (3 : Int32) [(.double (0 : UInt64)), (.double (0 : UInt64)), (.double (0 : UInt64))] (.double (0 : UInt64)) := (A110.ext E113)
    have A115 : Arv Z h113 a113 kc113 .double (3 : Int32) [(.double (0 : UInt64)), (.double (0 : UInt64)), (.double (0 : UInt64))] (.double (0 : UInt64)) := ((Arv.new A113 (by decide)).pad (pad_rep [] _ 3))
    have cn116 : ∀ t, Steps p.tables e below (T113.setTop (mkF m 43 #[.val (.int p1), .val (.int p2), .val (.int p3), .val (.int p4), .val (.int p5), .val (.int p6), .val (.int (3 : Int32)), .val (.double (FP.l2d (x0.toInt64))), .second, .val (.double (FP.l2d (p2.toInt64))), .second, .val (.double (FP.l2d (p3.toInt64))), .second, .val (.double (FP.l2d (p4.toInt64))), .second, .val (.double (FP.l2d (p5.toInt64))), .second, .val (.double (FP.l2d (p6.toInt64))), .second, .val (.ref a109), .unset, .unset, .unset] [(.ref a113)])) t → Steps p.tables e below (s₁.setTop (entryFrame m #[(.int p1), (.int p2), (.int p3), (.int p4), (.int p5), (.int p6)] maxLocals)) t := fun t k => cn112 t (st113 _ k)
    have cn117 : ∀ t, Steps p.tables e below (T113.setTop (mkF m 56 #[.val (.int p1), .val (.int p2), .val (.int p3), .val (.int p4), .val (.int p5), .val (.int p6), .val (.int (3 : Int32)), .val (.double (FP.l2d (x0.toInt64))), .second, .val (.double (FP.l2d (p2.toInt64))), .second, .val (.double (FP.l2d (p3.toInt64))), .second, .val (.double (FP.l2d (p4.toInt64))), .second, .val (.double (FP.l2d (p5.toInt64))), .second, .val (.double (FP.l2d (p6.toInt64))), .second, .val (.ref a109), .val (.ref a113), .unset, .unset] [(.double (FP.l2d (x0.toInt64))), (.int (0 : Int32)), (.ref a109)])) t → Steps p.tables e below (s₁.setTop (entryFrame m #[(.int p1), (.int p2), (.int p3), (.int p4), (.int p5), (.int p6)] maxLocals)) t := by
      intro t k
      refine cn116 t ?_
      refine o_astore X113.here hx (hb hby at_43) rfl (l' := #[.val (.int p1), .val (.int p2), .val (.int p3), .val (.int p4), .val (.int p5), .val (.int p6), .val (.int (3 : Int32)), .val (.double (FP.l2d (x0.toInt64))), .second, .val (.double (FP.l2d (p2.toInt64))), .second, .val (.double (FP.l2d (p3.toInt64))), .second, .val (.double (FP.l2d (p4.toInt64))), .second, .val (.double (FP.l2d (p5.toInt64))), .second, .val (.double (FP.l2d (p6.toInt64))), .second, .val (.ref a109), .val (.ref a113), .unset, .unset]) rfl ?_
      refine o_iload X113.here hx (hb hby at_45) rfl ?_
      refine o_iconstV X113.here hx (1 : Int32) (hb hby at_47) rfl ?_
      show Steps p.tables e below (T113.setTop (mkF m 48 #[.val (.int p1), .val (.int p2), .val (.int p3), .val (.int p4), .val (.int p5), .val (.int p6), .val (.int (3 : Int32)), .val (.double (FP.l2d (x0.toInt64))), .second, .val (.double (FP.l2d (p2.toInt64))), .second, .val (.double (FP.l2d (p3.toInt64))), .second, .val (.double (FP.l2d (p4.toInt64))), .second, .val (.double (FP.l2d (p5.toInt64))), .second, .val (.double (FP.l2d (p6.toInt64))), .second, .val (.ref a109), .val (.ref a113), .unset, .unset] [(.int (1 : Int32)), (.int (3 : Int32))])) _
      refine o_icmpNo X113.here hx (hb hby at_48) (XT.ii_lt_f (by decide)) ?_
      refine o_aload X113.here hx (hb hby at_51) rfl rfl ?_
      refine o_iconstV X113.here hx (0 : Int32) (hb hby at_53) rfl ?_
      refine o_dload X113.here hx (hb hby at_54) rfl ?_
      exact k
    obtain ⟨cl118, Ar118, qk118, Sz118, Mz118, Hh118, Gg118⟩ := A114
    have A114 : Arv Z h113 a109 kc109 .double (3 : Int32) [(.double (0 : UInt64)), (.double (0 : UInt64)), (.double (0 : UInt64))] (.double (0 : UInt64)) := ⟨cl118, Ar118, qk118, Sz118, Mz118, Hh118, Gg118⟩
    obtain ⟨T119, h119, X119, e119, W119, st119⟩ := stD X113 hx hZ e113 Ar118 (j := (0 : Int32)) (inb_of Sz118 ⟨(by decide), (by decide)⟩) (g := (mkF m 56 #[.val (.int p1), .val (.int p2), .val (.int p3), .val (.int p4), .val (.int p5), .val (.int p6), .val (.int (3 : Int32)), .val (.double (FP.l2d (x0.toInt64))), .second, .val (.double (FP.l2d (p2.toInt64))), .second, .val (.double (FP.l2d (p3.toInt64))), .second, .val (.double (FP.l2d (p4.toInt64))), .second, .val (.double (FP.l2d (p5.toInt64))), .second, .val (.double (FP.l2d (p6.toInt64))), .second, .val (.ref a109), .val (.ref a113), .unset, .unset] [(.double (FP.l2d (x0.toInt64))), (.int (0 : Int32)), (.ref a109)])) rfl rfl (hb hby at_56)
    have N119 := Fr.snoc X119 N0 G109
    have Z119 : n0 ≤ h119.size := (by rw [W119.size]; exact Z113)
    have A120 : Arv Z h119 a109 kc109 .double (3 : Int32) [(.double (FP.l2d (x0.toInt64))), (.double (0 : UInt64)), (.double (0 : UInt64))] (.double (0 : UInt64)) := (Arv.set Ar118 qk118 Sz118 Mz118 Hh118 Gg118 rfl W119 0 (by decide) (Nat.le_of_ble_eq_true rfl))
    have A121 : Arv Z h119 a113 kc113 .double (3 : Int32) [(.double (0 : UInt64)), (.double (0 : UInt64)), (.double (0 : UInt64))] (.double (0 : UInt64)) := (A115.other W119 (Ne.symm ne113_a109))
    have cn122 : ∀ t, Steps p.tables e below (T119.setTop (mkF m 57 #[.val (.int p1), .val (.int p2), .val (.int p3), .val (.int p4), .val (.int p5), .val (.int p6), .val (.int (3 : Int32)), .val (.double (FP.l2d (x0.toInt64))), .second, .val (.double (FP.l2d (p2.toInt64))), .second, .val (.double (FP.l2d (p3.toInt64))), .second, .val (.double (FP.l2d (p4.toInt64))), .second, .val (.double (FP.l2d (p5.toInt64))), .second, .val (.double (FP.l2d (p6.toInt64))), .second, .val (.ref a109), .val (.ref a113), .unset, .unset] [])) t → Steps p.tables e below (s₁.setTop (entryFrame m #[(.int p1), (.int p2), (.int p3), (.int p4), (.int p5), (.int p6)] maxLocals)) t := fun t k => cn117 t (st119 _ k)
    have cn123 : ∀ t, Steps p.tables e below (T119.setTop (mkF m 62 #[.val (.int p1), .val (.int p2), .val (.int p3), .val (.int p4), .val (.int p5), .val (.int p6), .val (.int (3 : Int32)), .val (.double (FP.l2d (x0.toInt64))), .second, .val (.double (FP.l2d (p2.toInt64))), .second, .val (.double (FP.l2d (p3.toInt64))), .second, .val (.double (FP.l2d (p4.toInt64))), .second, .val (.double (FP.l2d (p5.toInt64))), .second, .val (.double (FP.l2d (p6.toInt64))), .second, .val (.ref a109), .val (.ref a113), .unset, .unset] [(.double (FP.l2d (p4.toInt64))), (.int (0 : Int32)), (.ref a113)])) t → Steps p.tables e below (s₁.setTop (entryFrame m #[(.int p1), (.int p2), (.int p3), (.int p4), (.int p5), (.int p6)] maxLocals)) t := by
      intro t k
      refine cn122 t ?_
      refine o_aload X119.here hx (hb hby at_57) rfl rfl ?_
      refine o_iconstV X119.here hx (0 : Int32) (hb hby at_59) rfl ?_
      refine o_dload X119.here hx (hb hby at_60) rfl ?_
      exact k
    obtain ⟨cl124, Ar124, qk124, Sz124, Mz124, Hh124, Gg124⟩ := A121
    have A121 : Arv Z h119 a113 kc113 .double (3 : Int32) [(.double (0 : UInt64)), (.double (0 : UInt64)), (.double (0 : UInt64))] (.double (0 : UInt64)) := ⟨cl124, Ar124, qk124, Sz124, Mz124, Hh124, Gg124⟩
    obtain ⟨T125, h125, X125, e125, W125, st125⟩ := stD X119 hx hZ e119 Ar124 (j := (0 : Int32)) (inb_of Sz124 ⟨(by decide), (by decide)⟩) (g := (mkF m 62 #[.val (.int p1), .val (.int p2), .val (.int p3), .val (.int p4), .val (.int p5), .val (.int p6), .val (.int (3 : Int32)), .val (.double (FP.l2d (x0.toInt64))), .second, .val (.double (FP.l2d (p2.toInt64))), .second, .val (.double (FP.l2d (p3.toInt64))), .second, .val (.double (FP.l2d (p4.toInt64))), .second, .val (.double (FP.l2d (p5.toInt64))), .second, .val (.double (FP.l2d (p6.toInt64))), .second, .val (.ref a109), .val (.ref a113), .unset, .unset] [(.double (FP.l2d (p4.toInt64))), (.int (0 : Int32)), (.ref a113)])) rfl rfl (hb hby at_62)
    have N125 := Fr.snoc X125 N119 G113
    have Z125 : n0 ≤ h125.size := (by rw [W125.size]; exact Z119)
    have A126 : Arv Z h125 a109 kc109 .double (3 : Int32) [(.double (FP.l2d (x0.toInt64))), (.double (0 : UInt64)), (.double (0 : UInt64))] (.double (0 : UInt64)) := (A120.other W125 ne113_a109)
    have A127 : Arv Z h125 a113 kc113 .double (3 : Int32) [(.double (FP.l2d (p4.toInt64))), (.double (0 : UInt64)), (.double (0 : UInt64))] (.double (0 : UInt64)) := (Arv.set Ar124 qk124 Sz124 Mz124 Hh124 Gg124 rfl W125 0 (by decide) (Nat.le_of_ble_eq_true rfl))
    have cn128 : ∀ t, Steps p.tables e below (T125.setTop (mkF m 63 #[.val (.int p1), .val (.int p2), .val (.int p3), .val (.int p4), .val (.int p5), .val (.int p6), .val (.int (3 : Int32)), .val (.double (FP.l2d (x0.toInt64))), .second, .val (.double (FP.l2d (p2.toInt64))), .second, .val (.double (FP.l2d (p3.toInt64))), .second, .val (.double (FP.l2d (p4.toInt64))), .second, .val (.double (FP.l2d (p5.toInt64))), .second, .val (.double (FP.l2d (p6.toInt64))), .second, .val (.ref a109), .val (.ref a113), .unset, .unset] [])) t → Steps p.tables e below (s₁.setTop (entryFrame m #[(.int p1), (.int p2), (.int p3), (.int p4), (.int p5), (.int p6)] maxLocals)) t := fun t k => cn123 t (st125 _ k)
    have cn129 : ∀ t, Steps p.tables e below (T125.setTop (mkF m 74 #[.val (.int p1), .val (.int p2), .val (.int p3), .val (.int p4), .val (.int p5), .val (.int p6), .val (.int (3 : Int32)), .val (.double (FP.l2d (x0.toInt64))), .second, .val (.double (FP.l2d (p2.toInt64))), .second, .val (.double (FP.l2d (p3.toInt64))), .second, .val (.double (FP.l2d (p4.toInt64))), .second, .val (.double (FP.l2d (p5.toInt64))), .second, .val (.double (FP.l2d (p6.toInt64))), .second, .val (.ref a109), .val (.ref a113), .unset, .unset] [(.double (FP.l2d (p2.toInt64))), (.int (1 : Int32)), (.ref a109)])) t → Steps p.tables e below (s₁.setTop (entryFrame m #[(.int p1), (.int p2), (.int p3), (.int p4), (.int p5), (.int p6)] maxLocals)) t := by
      intro t k
      refine cn128 t ?_
      refine o_iload X125.here hx (hb hby at_63) rfl ?_
      refine o_iconstV X125.here hx (2 : Int32) (hb hby at_65) rfl ?_
      show Steps p.tables e below (T125.setTop (mkF m 66 #[.val (.int p1), .val (.int p2), .val (.int p3), .val (.int p4), .val (.int p5), .val (.int p6), .val (.int (3 : Int32)), .val (.double (FP.l2d (x0.toInt64))), .second, .val (.double (FP.l2d (p2.toInt64))), .second, .val (.double (FP.l2d (p3.toInt64))), .second, .val (.double (FP.l2d (p4.toInt64))), .second, .val (.double (FP.l2d (p5.toInt64))), .second, .val (.double (FP.l2d (p6.toInt64))), .second, .val (.ref a109), .val (.ref a113), .unset, .unset] [(.int (2 : Int32)), (.int (3 : Int32))])) _
      refine o_icmpNo X125.here hx (hb hby at_66) (XT.ii_lt_f (by decide)) ?_
      refine o_aload X125.here hx (hb hby at_69) rfl rfl ?_
      refine o_iconstV X125.here hx (1 : Int32) (hb hby at_71) rfl ?_
      refine o_dload X125.here hx (hb hby at_72) rfl ?_
      exact k
    obtain ⟨cl130, Ar130, qk130, Sz130, Mz130, Hh130, Gg130⟩ := A126
    have A126 : Arv Z h125 a109 kc109 .double (3 : Int32) [(.double (FP.l2d (x0.toInt64))), (.double (0 : UInt64)), (.double (0 : UInt64))] (.double (0 : UInt64)) := ⟨cl130, Ar130, qk130, Sz130, Mz130, Hh130, Gg130⟩
    obtain ⟨T131, h131, X131, e131, W131, st131⟩ := stD X125 hx hZ e125 Ar130 (j := (1 : Int32)) (inb_of Sz130 ⟨(by decide), (by decide)⟩) (g := (mkF m 74 #[.val (.int p1), .val (.int p2), .val (.int p3), .val (.int p4), .val (.int p5), .val (.int p6), .val (.int (3 : Int32)), .val (.double (FP.l2d (x0.toInt64))), .second, .val (.double (FP.l2d (p2.toInt64))), .second, .val (.double (FP.l2d (p3.toInt64))), .second, .val (.double (FP.l2d (p4.toInt64))), .second, .val (.double (FP.l2d (p5.toInt64))), .second, .val (.double (FP.l2d (p6.toInt64))), .second, .val (.ref a109), .val (.ref a113), .unset, .unset] [(.double (FP.l2d (p2.toInt64))), (.int (1 : Int32)), (.ref a109)])) rfl rfl (hb hby at_74)
    have N131 := Fr.snoc X131 N125 G109
    have Z131 : n0 ≤ h131.size := (by rw [W131.size]; exact Z125)
    have A132 : Arv Z h131 a109 kc109 .double (3 : Int32) [(.double (FP.l2d (x0.toInt64))), (.double (FP.l2d (p2.toInt64))), (.double (0 : UInt64))] (.double (0 : UInt64)) := (Arv.set Ar130 qk130 Sz130 Mz130 Hh130 Gg130 rfl W131 1 (by decide) (Nat.le_of_ble_eq_true rfl))
    have A133 : Arv Z h131 a113 kc113 .double (3 : Int32) [(.double (FP.l2d (p4.toInt64))), (.double (0 : UInt64)), (.double (0 : UInt64))] (.double (0 : UInt64)) := (A127.other W131 (Ne.symm ne113_a109))
    have cn134 : ∀ t, Steps p.tables e below (T131.setTop (mkF m 75 #[.val (.int p1), .val (.int p2), .val (.int p3), .val (.int p4), .val (.int p5), .val (.int p6), .val (.int (3 : Int32)), .val (.double (FP.l2d (x0.toInt64))), .second, .val (.double (FP.l2d (p2.toInt64))), .second, .val (.double (FP.l2d (p3.toInt64))), .second, .val (.double (FP.l2d (p4.toInt64))), .second, .val (.double (FP.l2d (p5.toInt64))), .second, .val (.double (FP.l2d (p6.toInt64))), .second, .val (.ref a109), .val (.ref a113), .unset, .unset] [])) t → Steps p.tables e below (s₁.setTop (entryFrame m #[(.int p1), (.int p2), (.int p3), (.int p4), (.int p5), (.int p6)] maxLocals)) t := fun t k => cn129 t (st131 _ k)
    have cn135 : ∀ t, Steps p.tables e below (T131.setTop (mkF m 80 #[.val (.int p1), .val (.int p2), .val (.int p3), .val (.int p4), .val (.int p5), .val (.int p6), .val (.int (3 : Int32)), .val (.double (FP.l2d (x0.toInt64))), .second, .val (.double (FP.l2d (p2.toInt64))), .second, .val (.double (FP.l2d (p3.toInt64))), .second, .val (.double (FP.l2d (p4.toInt64))), .second, .val (.double (FP.l2d (p5.toInt64))), .second, .val (.double (FP.l2d (p6.toInt64))), .second, .val (.ref a109), .val (.ref a113), .unset, .unset] [(.double (FP.l2d (p5.toInt64))), (.int (1 : Int32)), (.ref a113)])) t → Steps p.tables e below (s₁.setTop (entryFrame m #[(.int p1), (.int p2), (.int p3), (.int p4), (.int p5), (.int p6)] maxLocals)) t := by
      intro t k
      refine cn134 t ?_
      refine o_aload X131.here hx (hb hby at_75) rfl rfl ?_
      refine o_iconstV X131.here hx (1 : Int32) (hb hby at_77) rfl ?_
      refine o_dload X131.here hx (hb hby at_78) rfl ?_
      exact k
    obtain ⟨cl136, Ar136, qk136, Sz136, Mz136, Hh136, Gg136⟩ := A133
    have A133 : Arv Z h131 a113 kc113 .double (3 : Int32) [(.double (FP.l2d (p4.toInt64))), (.double (0 : UInt64)), (.double (0 : UInt64))] (.double (0 : UInt64)) := ⟨cl136, Ar136, qk136, Sz136, Mz136, Hh136, Gg136⟩
    obtain ⟨T137, h137, X137, e137, W137, st137⟩ := stD X131 hx hZ e131 Ar136 (j := (1 : Int32)) (inb_of Sz136 ⟨(by decide), (by decide)⟩) (g := (mkF m 80 #[.val (.int p1), .val (.int p2), .val (.int p3), .val (.int p4), .val (.int p5), .val (.int p6), .val (.int (3 : Int32)), .val (.double (FP.l2d (x0.toInt64))), .second, .val (.double (FP.l2d (p2.toInt64))), .second, .val (.double (FP.l2d (p3.toInt64))), .second, .val (.double (FP.l2d (p4.toInt64))), .second, .val (.double (FP.l2d (p5.toInt64))), .second, .val (.double (FP.l2d (p6.toInt64))), .second, .val (.ref a109), .val (.ref a113), .unset, .unset] [(.double (FP.l2d (p5.toInt64))), (.int (1 : Int32)), (.ref a113)])) rfl rfl (hb hby at_80)
    have N137 := Fr.snoc X137 N131 G113
    have Z137 : n0 ≤ h137.size := (by rw [W137.size]; exact Z131)
    have A138 : Arv Z h137 a109 kc109 .double (3 : Int32) [(.double (FP.l2d (x0.toInt64))), (.double (FP.l2d (p2.toInt64))), (.double (0 : UInt64))] (.double (0 : UInt64)) := (A132.other W137 ne113_a109)
    have A139 : Arv Z h137 a113 kc113 .double (3 : Int32) [(.double (FP.l2d (p4.toInt64))), (.double (FP.l2d (p5.toInt64))), (.double (0 : UInt64))] (.double (0 : UInt64)) := (Arv.set Ar136 qk136 Sz136 Mz136 Hh136 Gg136 rfl W137 1 (by decide) (Nat.le_of_ble_eq_true rfl))
    have cn140 : ∀ t, Steps p.tables e below (T137.setTop (mkF m 81 #[.val (.int p1), .val (.int p2), .val (.int p3), .val (.int p4), .val (.int p5), .val (.int p6), .val (.int (3 : Int32)), .val (.double (FP.l2d (x0.toInt64))), .second, .val (.double (FP.l2d (p2.toInt64))), .second, .val (.double (FP.l2d (p3.toInt64))), .second, .val (.double (FP.l2d (p4.toInt64))), .second, .val (.double (FP.l2d (p5.toInt64))), .second, .val (.double (FP.l2d (p6.toInt64))), .second, .val (.ref a109), .val (.ref a113), .unset, .unset] [])) t → Steps p.tables e below (s₁.setTop (entryFrame m #[(.int p1), (.int p2), (.int p3), (.int p4), (.int p5), (.int p6)] maxLocals)) t := fun t k => cn135 t (st137 _ k)
    have cn141 : ∀ t, Steps p.tables e below (T137.setTop (mkF m 92 #[.val (.int p1), .val (.int p2), .val (.int p3), .val (.int p4), .val (.int p5), .val (.int p6), .val (.int (3 : Int32)), .val (.double (FP.l2d (x0.toInt64))), .second, .val (.double (FP.l2d (p2.toInt64))), .second, .val (.double (FP.l2d (p3.toInt64))), .second, .val (.double (FP.l2d (p4.toInt64))), .second, .val (.double (FP.l2d (p5.toInt64))), .second, .val (.double (FP.l2d (p6.toInt64))), .second, .val (.ref a109), .val (.ref a113), .unset, .unset] [(.double (FP.l2d (p3.toInt64))), (.int (2 : Int32)), (.ref a109)])) t → Steps p.tables e below (s₁.setTop (entryFrame m #[(.int p1), (.int p2), (.int p3), (.int p4), (.int p5), (.int p6)] maxLocals)) t := by
      intro t k
      refine cn140 t ?_
      refine o_iload X137.here hx (hb hby at_81) rfl ?_
      refine o_iconstV X137.here hx (3 : Int32) (hb hby at_83) rfl ?_
      show Steps p.tables e below (T137.setTop (mkF m 84 #[.val (.int p1), .val (.int p2), .val (.int p3), .val (.int p4), .val (.int p5), .val (.int p6), .val (.int (3 : Int32)), .val (.double (FP.l2d (x0.toInt64))), .second, .val (.double (FP.l2d (p2.toInt64))), .second, .val (.double (FP.l2d (p3.toInt64))), .second, .val (.double (FP.l2d (p4.toInt64))), .second, .val (.double (FP.l2d (p5.toInt64))), .second, .val (.double (FP.l2d (p6.toInt64))), .second, .val (.ref a109), .val (.ref a113), .unset, .unset] [(.int (3 : Int32)), (.int (3 : Int32))])) _
      refine o_icmpNo X137.here hx (hb hby at_84) (XT.ii_lt_f (by decide)) ?_
      refine o_aload X137.here hx (hb hby at_87) rfl rfl ?_
      refine o_iconstV X137.here hx (2 : Int32) (hb hby at_89) rfl ?_
      refine o_dload X137.here hx (hb hby at_90) rfl ?_
      exact k
    obtain ⟨cl142, Ar142, qk142, Sz142, Mz142, Hh142, Gg142⟩ := A138
    have A138 : Arv Z h137 a109 kc109 .double (3 : Int32) [(.double (FP.l2d (x0.toInt64))), (.double (FP.l2d (p2.toInt64))), (.double (0 : UInt64))] (.double (0 : UInt64)) := ⟨cl142, Ar142, qk142, Sz142, Mz142, Hh142, Gg142⟩
    obtain ⟨T143, h143, X143, e143, W143, st143⟩ := stD X137 hx hZ e137 Ar142 (j := (2 : Int32)) (inb_of Sz142 ⟨(by decide), (by decide)⟩) (g := (mkF m 92 #[.val (.int p1), .val (.int p2), .val (.int p3), .val (.int p4), .val (.int p5), .val (.int p6), .val (.int (3 : Int32)), .val (.double (FP.l2d (x0.toInt64))), .second, .val (.double (FP.l2d (p2.toInt64))), .second, .val (.double (FP.l2d (p3.toInt64))), .second, .val (.double (FP.l2d (p4.toInt64))), .second, .val (.double (FP.l2d (p5.toInt64))), .second, .val (.double (FP.l2d (p6.toInt64))), .second, .val (.ref a109), .val (.ref a113), .unset, .unset] [(.double (FP.l2d (p3.toInt64))), (.int (2 : Int32)), (.ref a109)])) rfl rfl (hb hby at_92)
    have N143 := Fr.snoc X143 N137 G109
    have Z143 : n0 ≤ h143.size := (by rw [W143.size]; exact Z137)
    have A144 : Arv Z h143 a109 kc109 .double (3 : Int32) [(.double (FP.l2d (x0.toInt64))), (.double (FP.l2d (p2.toInt64))), (.double (FP.l2d (p3.toInt64)))] (.double (0 : UInt64)) := (Arv.set Ar142 qk142 Sz142 Mz142 Hh142 Gg142 rfl W143 2 (by decide) (Nat.le_of_ble_eq_true rfl))
    have A145 : Arv Z h143 a113 kc113 .double (3 : Int32) [(.double (FP.l2d (p4.toInt64))), (.double (FP.l2d (p5.toInt64))), (.double (0 : UInt64))] (.double (0 : UInt64)) := (A139.other W143 (Ne.symm ne113_a109))
    have cn146 : ∀ t, Steps p.tables e below (T143.setTop (mkF m 93 #[.val (.int p1), .val (.int p2), .val (.int p3), .val (.int p4), .val (.int p5), .val (.int p6), .val (.int (3 : Int32)), .val (.double (FP.l2d (x0.toInt64))), .second, .val (.double (FP.l2d (p2.toInt64))), .second, .val (.double (FP.l2d (p3.toInt64))), .second, .val (.double (FP.l2d (p4.toInt64))), .second, .val (.double (FP.l2d (p5.toInt64))), .second, .val (.double (FP.l2d (p6.toInt64))), .second, .val (.ref a109), .val (.ref a113), .unset, .unset] [])) t → Steps p.tables e below (s₁.setTop (entryFrame m #[(.int p1), (.int p2), (.int p3), (.int p4), (.int p5), (.int p6)] maxLocals)) t := fun t k => cn141 t (st143 _ k)
    have cn147 : ∀ t, Steps p.tables e below (T143.setTop (mkF m 98 #[.val (.int p1), .val (.int p2), .val (.int p3), .val (.int p4), .val (.int p5), .val (.int p6), .val (.int (3 : Int32)), .val (.double (FP.l2d (x0.toInt64))), .second, .val (.double (FP.l2d (p2.toInt64))), .second, .val (.double (FP.l2d (p3.toInt64))), .second, .val (.double (FP.l2d (p4.toInt64))), .second, .val (.double (FP.l2d (p5.toInt64))), .second, .val (.double (FP.l2d (p6.toInt64))), .second, .val (.ref a109), .val (.ref a113), .unset, .unset] [(.double (FP.l2d (p6.toInt64))), (.int (2 : Int32)), (.ref a113)])) t → Steps p.tables e below (s₁.setTop (entryFrame m #[(.int p1), (.int p2), (.int p3), (.int p4), (.int p5), (.int p6)] maxLocals)) t := by
      intro t k
      refine cn146 t ?_
      refine o_aload X143.here hx (hb hby at_93) rfl rfl ?_
      refine o_iconstV X143.here hx (2 : Int32) (hb hby at_95) rfl ?_
      refine o_dload X143.here hx (hb hby at_96) rfl ?_
      exact k
    obtain ⟨cl148, Ar148, qk148, Sz148, Mz148, Hh148, Gg148⟩ := A145
    have A145 : Arv Z h143 a113 kc113 .double (3 : Int32) [(.double (FP.l2d (p4.toInt64))), (.double (FP.l2d (p5.toInt64))), (.double (0 : UInt64))] (.double (0 : UInt64)) := ⟨cl148, Ar148, qk148, Sz148, Mz148, Hh148, Gg148⟩
    obtain ⟨T149, h149, X149, e149, W149, st149⟩ := stD X143 hx hZ e143 Ar148 (j := (2 : Int32)) (inb_of Sz148 ⟨(by decide), (by decide)⟩) (g := (mkF m 98 #[.val (.int p1), .val (.int p2), .val (.int p3), .val (.int p4), .val (.int p5), .val (.int p6), .val (.int (3 : Int32)), .val (.double (FP.l2d (x0.toInt64))), .second, .val (.double (FP.l2d (p2.toInt64))), .second, .val (.double (FP.l2d (p3.toInt64))), .second, .val (.double (FP.l2d (p4.toInt64))), .second, .val (.double (FP.l2d (p5.toInt64))), .second, .val (.double (FP.l2d (p6.toInt64))), .second, .val (.ref a109), .val (.ref a113), .unset, .unset] [(.double (FP.l2d (p6.toInt64))), (.int (2 : Int32)), (.ref a113)])) rfl rfl (hb hby at_98)
    have N149 := Fr.snoc X149 N143 G113
    have Z149 : n0 ≤ h149.size := (by rw [W149.size]; exact Z143)
    have A150 : Arv Z h149 a109 kc109 .double (3 : Int32) [(.double (FP.l2d (x0.toInt64))), (.double (FP.l2d (p2.toInt64))), (.double (FP.l2d (p3.toInt64)))] (.double (0 : UInt64)) := (A144.other W149 ne113_a109)
    have A151 : Arv Z h149 a113 kc113 .double (3 : Int32) [(.double (FP.l2d (p4.toInt64))), (.double (FP.l2d (p5.toInt64))), (.double (FP.l2d (p6.toInt64)))] (.double (0 : UInt64)) := (Arv.set Ar148 qk148 Sz148 Mz148 Hh148 Gg148 rfl W149 2 (by decide) (Nat.le_of_ble_eq_true rfl))
    have cn152 : ∀ t, Steps p.tables e below (T149.setTop (mkF m 99 #[.val (.int p1), .val (.int p2), .val (.int p3), .val (.int p4), .val (.int p5), .val (.int p6), .val (.int (3 : Int32)), .val (.double (FP.l2d (x0.toInt64))), .second, .val (.double (FP.l2d (p2.toInt64))), .second, .val (.double (FP.l2d (p3.toInt64))), .second, .val (.double (FP.l2d (p4.toInt64))), .second, .val (.double (FP.l2d (p5.toInt64))), .second, .val (.double (FP.l2d (p6.toInt64))), .second, .val (.ref a109), .val (.ref a113), .unset, .unset] [])) t → Steps p.tables e below (s₁.setTop (entryFrame m #[(.int p1), (.int p2), (.int p3), (.int p4), (.int p5), (.int p6)] maxLocals)) t := fun t k => cn147 t (st149 _ k)
    have cn153 : ∀ t, Steps p.tables e below (T149.setTop (mkF m 103 #[.val (.int p1), .val (.int p2), .val (.int p3), .val (.int p4), .val (.int p5), .val (.int p6), .val (.int (3 : Int32)), .val (.double (FP.l2d (x0.toInt64))), .second, .val (.double (FP.l2d (p2.toInt64))), .second, .val (.double (FP.l2d (p3.toInt64))), .second, .val (.double (FP.l2d (p4.toInt64))), .second, .val (.double (FP.l2d (p5.toInt64))), .second, .val (.double (FP.l2d (p6.toInt64))), .second, .val (.ref a109), .val (.ref a113), .unset, .unset] [(.ref a113), (.ref a109)])) t → Steps p.tables e below (s₁.setTop (entryFrame m #[(.int p1), (.int p2), (.int p3), (.int p4), (.int p5), (.int p6)] maxLocals)) t := by
      intro t k
      refine cn152 t ?_
      refine o_aload X149.here hx (hb hby at_99) rfl rfl ?_
      refine o_aload X149.here hx (hb hby at_101) rfl rfl ?_
      exact k
    obtain ⟨_, _, ⟨T154, L154, c154, n154⟩, -, X154, ⟨Lc154, hQ154, l154, y154, z154⟩, st154⟩ := Jvm.LawKit.callS X149 hx (y := (⟨"com/example/pareto_loom/paretoloom/model/NondominatedSet", "beats", "([D[D)Z"⟩ : MethodName)) hown (mvT hZ (hw _ (List.mem_of_getElem? (i := 1) rfl))) (mvT hZ (hw _ (List.mem_of_getElem? (i := 2) rfl))) (mvT hZ (hw _ (List.mem_of_getElem? (i := 3) rfl))) (mvT hZ (hw _ (List.mem_of_getElem? (i := 4) rfl))) (by decide) (backOf (W := 0) (rmB3 l Z a0 hw [] a109 a113 kc109 kc113 (x0.toInt64) (p2.toInt64) (p3.toInt64) (p4.toInt64) (p5.toInt64) (p6.toInt64) h149 n0 Z149 (own_bd_i _) (own_bd_i _) (own_bd_i _) (own_bd_i _) (own_bd_i _) (own_bd_i _) A150 A151) hZ (hw _ (List.mem_of_getElem? (i := 4) rfl)) (hw _ (List.mem_of_getElem? (i := 3) rfl)) (by decide) (by decide)) (g := (mkF m 103 #[.val (.int p1), .val (.int p2), .val (.int p3), .val (.int p4), .val (.int p5), .val (.int p6), .val (.int (3 : Int32)), .val (.double (FP.l2d (x0.toInt64))), .second, .val (.double (FP.l2d (p2.toInt64))), .second, .val (.double (FP.l2d (p3.toInt64))), .second, .val (.double (FP.l2d (p4.toInt64))), .second, .val (.double (FP.l2d (p5.toInt64))), .second, .val (.double (FP.l2d (p6.toInt64))), .second, .val (.ref a109), .val (.ref a113), .unset, .unset] [(.ref a113), (.ref a109)])) rfl (by rw [hml]; rfl) (argsL := [(.ref a109), (.ref a113)]) (rest := []) (lenOf pd_oaDaDcZ rfl) rfl (by show 2 * 0 + _ ≤ _; exact Nat.le_of_eq rfl) (hb hby at_103) (fun _ _ => ⟨rfl, e149, (by decide : 2 + 0 ≤ _), (by decide : 6 + 0 ≤ _)⟩)
    dsimp only [Pt.U, Pt.locs, Pt.cells, Pt.slots] at X154 l154 y154 z154 st154 hQ154
    subst l154 y154 z154
    obtain ⟨rfl, N154a, eh154⟩ := hQ154
    have N154 := Fr.app N149 N154a
    have e154 : T154.heap = h149 := eh154
    have cn155 : ∀ t, Steps p.tables e below (T154.setTop (mkF m 106 #[.val (.int p1), .val (.int p2), .val (.int p3), .val (.int p4), .val (.int p5), .val (.int p6), .val (.int (3 : Int32)), .val (.double (FP.l2d (x0.toInt64))), .second, .val (.double (FP.l2d (p2.toInt64))), .second, .val (.double (FP.l2d (p3.toInt64))), .second, .val (.double (FP.l2d (p4.toInt64))), .second, .val (.double (FP.l2d (p5.toInt64))), .second, .val (.double (FP.l2d (p6.toInt64))), .second, .val (.ref a109), .val (.ref a113), .unset, .unset] [(.int (if own_beats [((x0.toInt64), (p4.toInt64)), ((p2.toInt64), (p5.toInt64)), ((p3.toInt64), (p6.toInt64))] false = true then (1 : Int32) else 0))])) t → Steps p.tables e below (s₁.setTop (entryFrame m #[(.int p1), (.int p2), (.int p3), (.int p4), (.int p5), (.int p6)] maxLocals)) t := fun t k => cn153 t (st154 _ k)
    have cn156 : ∀ t, Steps p.tables e below (T154.setTop (mkF m 112 #[.val (.int p1), .val (.int p2), .val (.int p3), .val (.int p4), .val (.int p5), .val (.int p6), .val (.int (3 : Int32)), .val (.double (FP.l2d (x0.toInt64))), .second, .val (.double (FP.l2d (p2.toInt64))), .second, .val (.double (FP.l2d (p3.toInt64))), .second, .val (.double (FP.l2d (p4.toInt64))), .second, .val (.double (FP.l2d (p5.toInt64))), .second, .val (.double (FP.l2d (p6.toInt64))), .second, .val (.ref a109), .val (.ref a113), .val (.int (if own_beats [((x0.toInt64), (p4.toInt64)), ((p2.toInt64), (p5.toInt64)), ((p3.toInt64), (p6.toInt64))] false = true then (1 : Int32) else 0)), .unset] [(.ref a109), (.ref a113)])) t → Steps p.tables e below (s₁.setTop (entryFrame m #[(.int p1), (.int p2), (.int p3), (.int p4), (.int p5), (.int p6)] maxLocals)) t := by
      intro t k
      refine cn155 t ?_
      refine o_istore X154.here hx (hb hby at_106) (l' := #[.val (.int p1), .val (.int p2), .val (.int p3), .val (.int p4), .val (.int p5), .val (.int p6), .val (.int (3 : Int32)), .val (.double (FP.l2d (x0.toInt64))), .second, .val (.double (FP.l2d (p2.toInt64))), .second, .val (.double (FP.l2d (p3.toInt64))), .second, .val (.double (FP.l2d (p4.toInt64))), .second, .val (.double (FP.l2d (p5.toInt64))), .second, .val (.double (FP.l2d (p6.toInt64))), .second, .val (.ref a109), .val (.ref a113), .val (.int (if own_beats [((x0.toInt64), (p4.toInt64)), ((p2.toInt64), (p5.toInt64)), ((p3.toInt64), (p6.toInt64))] false = true then (1 : Int32) else 0)), .unset]) rfl ?_
      refine o_aload X154.here hx (hb hby at_108) rfl rfl ?_
      refine o_aload X154.here hx (hb hby at_110) rfl rfl ?_
      exact k
    obtain ⟨_, _, ⟨T157, L157, c157, n157⟩, -, X157, ⟨Lc157, hQ157, l157, y157, z157⟩, st157⟩ := Jvm.LawKit.callS X154 hx (y := (⟨"com/example/pareto_loom/paretoloom/model/NondominatedSet", "beats", "([D[D)Z"⟩ : MethodName)) hown (mvT hZ (hw _ (List.mem_of_getElem? (i := 1) rfl))) (mvT hZ (hw _ (List.mem_of_getElem? (i := 2) rfl))) (mvT hZ (hw _ (List.mem_of_getElem? (i := 3) rfl))) (mvT hZ (hw _ (List.mem_of_getElem? (i := 4) rfl))) (by decide) (backOf (W := 0) (rmB3 l Z a0 hw [] a113 a109 kc113 kc109 (p4.toInt64) (p5.toInt64) (p6.toInt64) (x0.toInt64) (p2.toInt64) (p3.toInt64) h149 n0 Z149 (own_bd_i _) (own_bd_i _) (own_bd_i _) (own_bd_i _) (own_bd_i _) (own_bd_i _) A151 A150) hZ (hw _ (List.mem_of_getElem? (i := 4) rfl)) (hw _ (List.mem_of_getElem? (i := 3) rfl)) (by decide) (by decide)) (g := (mkF m 112 #[.val (.int p1), .val (.int p2), .val (.int p3), .val (.int p4), .val (.int p5), .val (.int p6), .val (.int (3 : Int32)), .val (.double (FP.l2d (x0.toInt64))), .second, .val (.double (FP.l2d (p2.toInt64))), .second, .val (.double (FP.l2d (p3.toInt64))), .second, .val (.double (FP.l2d (p4.toInt64))), .second, .val (.double (FP.l2d (p5.toInt64))), .second, .val (.double (FP.l2d (p6.toInt64))), .second, .val (.ref a109), .val (.ref a113), .val (.int (if own_beats [((x0.toInt64), (p4.toInt64)), ((p2.toInt64), (p5.toInt64)), ((p3.toInt64), (p6.toInt64))] false = true then (1 : Int32) else 0)), .unset] [(.ref a109), (.ref a113)])) rfl (by rw [hml]; rfl) (argsL := [(.ref a113), (.ref a109)]) (rest := []) (lenOf pd_oaDaDcZ rfl) rfl (by show 2 * 0 + _ ≤ _; exact Nat.le_of_eq rfl) (hb hby at_112) (fun _ _ => ⟨rfl, e154, (by decide : 2 + 0 ≤ _), (by decide : 6 + 0 ≤ _)⟩)
    dsimp only [Pt.U, Pt.locs, Pt.cells, Pt.slots] at X157 l157 y157 z157 st157 hQ157
    subst l157 y157 z157
    obtain ⟨rfl, N157a, eh157⟩ := hQ157
    have N157 := Fr.app N154 N157a
    have e157 : T157.heap = h149 := eh157
    have cn158 : ∀ t, Steps p.tables e below (T157.setTop (mkF m 115 #[.val (.int p1), .val (.int p2), .val (.int p3), .val (.int p4), .val (.int p5), .val (.int p6), .val (.int (3 : Int32)), .val (.double (FP.l2d (x0.toInt64))), .second, .val (.double (FP.l2d (p2.toInt64))), .second, .val (.double (FP.l2d (p3.toInt64))), .second, .val (.double (FP.l2d (p4.toInt64))), .second, .val (.double (FP.l2d (p5.toInt64))), .second, .val (.double (FP.l2d (p6.toInt64))), .second, .val (.ref a109), .val (.ref a113), .val (.int (if own_beats [((x0.toInt64), (p4.toInt64)), ((p2.toInt64), (p5.toInt64)), ((p3.toInt64), (p6.toInt64))] false = true then (1 : Int32) else 0)), .unset] [(.int (if own_beats [((p4.toInt64), (x0.toInt64)), ((p5.toInt64), (p2.toInt64)), ((p6.toInt64), (p3.toInt64))] false = true then (1 : Int32) else 0))])) t → Steps p.tables e below (s₁.setTop (entryFrame m #[(.int p1), (.int p2), (.int p3), (.int p4), (.int p5), (.int p6)] maxLocals)) t := fun t k => cn156 t (st157 _ k)
    have cn159 : ∀ t, Steps p.tables e below (T157.setTop (mkF m 133 #[.val (.int p1), .val (.int p2), .val (.int p3), .val (.int p4), .val (.int p5), .val (.int p6), .val (.int (3 : Int32)), .val (.double (FP.l2d (x0.toInt64))), .second, .val (.double (FP.l2d (p2.toInt64))), .second, .val (.double (FP.l2d (p3.toInt64))), .second, .val (.double (FP.l2d (p4.toInt64))), .second, .val (.double (FP.l2d (p5.toInt64))), .second, .val (.double (FP.l2d (p6.toInt64))), .second, .val (.ref a109), .val (.ref a113), .val (.int (if own_beats [((x0.toInt64), (p4.toInt64)), ((p2.toInt64), (p5.toInt64)), ((p3.toInt64), (p6.toInt64))] false = true then (1 : Int32) else 0)), .val (.int (if own_beats [((p4.toInt64), (x0.toInt64)), ((p5.toInt64), (p2.toInt64)), ((p6.toInt64), (p3.toInt64))] false = true then (1 : Int32) else 0))] [(.double (FP.l2d (p6.toInt64))), (.double (FP.l2d (p5.toInt64))), (.double (FP.l2d (p4.toInt64))), (.double (FP.l2d (p3.toInt64))), (.double (FP.l2d (p2.toInt64))), (.double (FP.l2d (x0.toInt64))), (.int (3 : Int32)), (.int (if own_beats [((x0.toInt64), (p4.toInt64)), ((p2.toInt64), (p5.toInt64)), ((p3.toInt64), (p6.toInt64))] false = true then (1 : Int32) else 0))])) t → Steps p.tables e below (s₁.setTop (entryFrame m #[(.int p1), (.int p2), (.int p3), (.int p4), (.int p5), (.int p6)] maxLocals)) t := by
      intro t k
      refine cn158 t ?_
      refine o_istore X157.here hx (hb hby at_115) (l' := #[.val (.int p1), .val (.int p2), .val (.int p3), .val (.int p4), .val (.int p5), .val (.int p6), .val (.int (3 : Int32)), .val (.double (FP.l2d (x0.toInt64))), .second, .val (.double (FP.l2d (p2.toInt64))), .second, .val (.double (FP.l2d (p3.toInt64))), .second, .val (.double (FP.l2d (p4.toInt64))), .second, .val (.double (FP.l2d (p5.toInt64))), .second, .val (.double (FP.l2d (p6.toInt64))), .second, .val (.ref a109), .val (.ref a113), .val (.int (if own_beats [((x0.toInt64), (p4.toInt64)), ((p2.toInt64), (p5.toInt64)), ((p3.toInt64), (p6.toInt64))] false = true then (1 : Int32) else 0)), .val (.int (if own_beats [((p4.toInt64), (x0.toInt64)), ((p5.toInt64), (p2.toInt64)), ((p6.toInt64), (p3.toInt64))] false = true then (1 : Int32) else 0))]) rfl ?_
      refine o_iload X157.here hx (hb hby at_117) rfl ?_
      refine o_iload X157.here hx (hb hby at_119) rfl ?_
      refine o_dload X157.here hx (hb hby at_121) rfl ?_
      refine o_dload X157.here hx (hb hby at_123) rfl ?_
      refine o_dload X157.here hx (hb hby at_125) rfl ?_
      refine o_dload X157.here hx (hb hby at_127) rfl ?_
      refine o_dload X157.here hx (hb hby at_129) rfl ?_
      refine o_dload X157.here hx (hb hby at_131) rfl ?_
      exact k
    obtain ⟨_, _, ⟨T160, L160, c160, n160⟩, -, X160, ⟨Lc160, hQ160, l160, y160, z160⟩, st160⟩ := Jvm.LawKit.callS X157 hx (y := (⟨"com/example/pareto_loom/paretoloom/model/NondominatedSetBeatsPinLaw", "expect", "(IDDDDDD)Z"⟩ : MethodName)) hown (mvT hZ (hw _ (List.mem_of_getElem? (i := 5) rfl))) (mvT hZ (hw _ (List.mem_of_getElem? (i := 6) rfl))) (mvT hZ (hw _ (List.mem_of_getElem? (i := 7) rfl))) (mvT hZ (hw _ (List.mem_of_getElem? (i := 8) rfl))) (by decide) (backOf (W := 1) (rmE3 l Z a0 hw [] (x0.toInt64) (p2.toInt64) (p3.toInt64) (p4.toInt64) (p5.toInt64) (p6.toInt64) h149 n0 Z149 (own_bd_i _) (own_bd_i _) (own_bd_i _) (own_bd_i _) (own_bd_i _) (own_bd_i _)) hZ (hw _ (List.mem_of_getElem? (i := 8) rfl)) (hw _ (List.mem_of_getElem? (i := 7) rfl)) (by decide) (by decide)) (g := (mkF m 133 #[.val (.int p1), .val (.int p2), .val (.int p3), .val (.int p4), .val (.int p5), .val (.int p6), .val (.int (3 : Int32)), .val (.double (FP.l2d (x0.toInt64))), .second, .val (.double (FP.l2d (p2.toInt64))), .second, .val (.double (FP.l2d (p3.toInt64))), .second, .val (.double (FP.l2d (p4.toInt64))), .second, .val (.double (FP.l2d (p5.toInt64))), .second, .val (.double (FP.l2d (p6.toInt64))), .second, .val (.ref a109), .val (.ref a113), .val (.int (if own_beats [((x0.toInt64), (p4.toInt64)), ((p2.toInt64), (p5.toInt64)), ((p3.toInt64), (p6.toInt64))] false = true then (1 : Int32) else 0)), .val (.int (if own_beats [((p4.toInt64), (x0.toInt64)), ((p5.toInt64), (p2.toInt64)), ((p6.toInt64), (p3.toInt64))] false = true then (1 : Int32) else 0))] [(.double (FP.l2d (p6.toInt64))), (.double (FP.l2d (p5.toInt64))), (.double (FP.l2d (p4.toInt64))), (.double (FP.l2d (p3.toInt64))), (.double (FP.l2d (p2.toInt64))), (.double (FP.l2d (x0.toInt64))), (.int (3 : Int32)), (.int (if own_beats [((x0.toInt64), (p4.toInt64)), ((p2.toInt64), (p5.toInt64)), ((p3.toInt64), (p6.toInt64))] false = true then (1 : Int32) else 0))])) rfl (by rw [hml]; rfl) (argsL := [(.int (3 : Int32)), (.double (FP.l2d (x0.toInt64))), (.double (FP.l2d (p2.toInt64))), (.double (FP.l2d (p3.toInt64))), (.double (FP.l2d (p4.toInt64))), (.double (FP.l2d (p5.toInt64))), (.double (FP.l2d (p6.toInt64)))]) (rest := [(.int (if own_beats [((x0.toInt64), (p4.toInt64)), ((p2.toInt64), (p5.toInt64)), ((p3.toInt64), (p6.toInt64))] false = true then (1 : Int32) else 0))]) (lenOf pd_oIDDDDDDcZ rfl) rfl (by show 2 * 0 + _ ≤ _; exact Nat.le_of_eq rfl) (hb hby at_133) (fun _ _ => ⟨rfl, e157, (by decide : 2 + 0 ≤ _), (by decide : 6 + 0 ≤ _)⟩)
    dsimp only [Pt.U, Pt.locs, Pt.cells, Pt.slots] at X160 l160 y160 z160 st160 hQ160
    subst l160 y160 z160
    obtain ⟨rfl, N160a, eh160⟩ := hQ160
    have N160 := Fr.app N157 N160a
    have e160 : T160.heap = h149 := eh160
    have cn161 : ∀ t, Steps p.tables e below (T160.setTop (mkF m 136 #[.val (.int p1), .val (.int p2), .val (.int p3), .val (.int p4), .val (.int p5), .val (.int p6), .val (.int (3 : Int32)), .val (.double (FP.l2d (x0.toInt64))), .second, .val (.double (FP.l2d (p2.toInt64))), .second, .val (.double (FP.l2d (p3.toInt64))), .second, .val (.double (FP.l2d (p4.toInt64))), .second, .val (.double (FP.l2d (p5.toInt64))), .second, .val (.double (FP.l2d (p6.toInt64))), .second, .val (.ref a109), .val (.ref a113), .val (.int (if own_beats [((x0.toInt64), (p4.toInt64)), ((p2.toInt64), (p5.toInt64)), ((p3.toInt64), (p6.toInt64))] false = true then (1 : Int32) else 0)), .val (.int (if own_beats [((p4.toInt64), (x0.toInt64)), ((p5.toInt64), (p2.toInt64)), ((p6.toInt64), (p3.toInt64))] false = true then (1 : Int32) else 0))] [(.int (if own_beats [((x0.toInt64), (p4.toInt64)), ((p2.toInt64), (p5.toInt64)), ((p3.toInt64), (p6.toInt64))] false = true then (1 : Int32) else 0)), (.int (if own_beats [((x0.toInt64), (p4.toInt64)), ((p2.toInt64), (p5.toInt64)), ((p3.toInt64), (p6.toInt64))] false = true then (1 : Int32) else 0))])) t → Steps p.tables e below (s₁.setTop (entryFrame m #[(.int p1), (.int p2), (.int p3), (.int p4), (.int p5), (.int p6)] maxLocals)) t := fun t k => cn159 t (st160 _ k)
    have cn162 : ∀ t, Steps p.tables e below (T160.setTop (mkF m 155 #[.val (.int p1), .val (.int p2), .val (.int p3), .val (.int p4), .val (.int p5), .val (.int p6), .val (.int (3 : Int32)), .val (.double (FP.l2d (x0.toInt64))), .second, .val (.double (FP.l2d (p2.toInt64))), .second, .val (.double (FP.l2d (p3.toInt64))), .second, .val (.double (FP.l2d (p4.toInt64))), .second, .val (.double (FP.l2d (p5.toInt64))), .second, .val (.double (FP.l2d (p6.toInt64))), .second, .val (.ref a109), .val (.ref a113), .val (.int (if own_beats [((x0.toInt64), (p4.toInt64)), ((p2.toInt64), (p5.toInt64)), ((p3.toInt64), (p6.toInt64))] false = true then (1 : Int32) else 0)), .val (.int (if own_beats [((p4.toInt64), (x0.toInt64)), ((p5.toInt64), (p2.toInt64)), ((p6.toInt64), (p3.toInt64))] false = true then (1 : Int32) else 0))] [(.double (FP.l2d (p3.toInt64))), (.double (FP.l2d (p2.toInt64))), (.double (FP.l2d (x0.toInt64))), (.double (FP.l2d (p6.toInt64))), (.double (FP.l2d (p5.toInt64))), (.double (FP.l2d (p4.toInt64))), (.int (3 : Int32)), (.int (if own_beats [((p4.toInt64), (x0.toInt64)), ((p5.toInt64), (p2.toInt64)), ((p6.toInt64), (p3.toInt64))] false = true then (1 : Int32) else 0))])) t → Steps p.tables e below (s₁.setTop (entryFrame m #[(.int p1), (.int p2), (.int p3), (.int p4), (.int p5), (.int p6)] maxLocals)) t := by
      intro t k
      refine cn161 t ?_
      refine o_icmpNo X160.here hx (hb hby at_136) (XT.ii_ne_f rfl) ?_
      refine o_iload X160.here hx (hb hby at_139) rfl ?_
      refine o_iload X160.here hx (hb hby at_141) rfl ?_
      refine o_dload X160.here hx (hb hby at_143) rfl ?_
      refine o_dload X160.here hx (hb hby at_145) rfl ?_
      refine o_dload X160.here hx (hb hby at_147) rfl ?_
      refine o_dload X160.here hx (hb hby at_149) rfl ?_
      refine o_dload X160.here hx (hb hby at_151) rfl ?_
      refine o_dload X160.here hx (hb hby at_153) rfl ?_
      exact k
    obtain ⟨_, _, ⟨T163, L163, c163, n163⟩, -, X163, ⟨Lc163, hQ163, l163, y163, z163⟩, st163⟩ := Jvm.LawKit.callS X160 hx (y := (⟨"com/example/pareto_loom/paretoloom/model/NondominatedSetBeatsPinLaw", "expect", "(IDDDDDD)Z"⟩ : MethodName)) hown (mvT hZ (hw _ (List.mem_of_getElem? (i := 5) rfl))) (mvT hZ (hw _ (List.mem_of_getElem? (i := 6) rfl))) (mvT hZ (hw _ (List.mem_of_getElem? (i := 7) rfl))) (mvT hZ (hw _ (List.mem_of_getElem? (i := 8) rfl))) (by decide) (backOf (W := 1) (rmE3 l Z a0 hw [] (p4.toInt64) (p5.toInt64) (p6.toInt64) (x0.toInt64) (p2.toInt64) (p3.toInt64) h149 n0 Z149 (own_bd_i _) (own_bd_i _) (own_bd_i _) (own_bd_i _) (own_bd_i _) (own_bd_i _)) hZ (hw _ (List.mem_of_getElem? (i := 8) rfl)) (hw _ (List.mem_of_getElem? (i := 7) rfl)) (by decide) (by decide)) (g := (mkF m 155 #[.val (.int p1), .val (.int p2), .val (.int p3), .val (.int p4), .val (.int p5), .val (.int p6), .val (.int (3 : Int32)), .val (.double (FP.l2d (x0.toInt64))), .second, .val (.double (FP.l2d (p2.toInt64))), .second, .val (.double (FP.l2d (p3.toInt64))), .second, .val (.double (FP.l2d (p4.toInt64))), .second, .val (.double (FP.l2d (p5.toInt64))), .second, .val (.double (FP.l2d (p6.toInt64))), .second, .val (.ref a109), .val (.ref a113), .val (.int (if own_beats [((x0.toInt64), (p4.toInt64)), ((p2.toInt64), (p5.toInt64)), ((p3.toInt64), (p6.toInt64))] false = true then (1 : Int32) else 0)), .val (.int (if own_beats [((p4.toInt64), (x0.toInt64)), ((p5.toInt64), (p2.toInt64)), ((p6.toInt64), (p3.toInt64))] false = true then (1 : Int32) else 0))] [(.double (FP.l2d (p3.toInt64))), (.double (FP.l2d (p2.toInt64))), (.double (FP.l2d (x0.toInt64))), (.double (FP.l2d (p6.toInt64))), (.double (FP.l2d (p5.toInt64))), (.double (FP.l2d (p4.toInt64))), (.int (3 : Int32)), (.int (if own_beats [((p4.toInt64), (x0.toInt64)), ((p5.toInt64), (p2.toInt64)), ((p6.toInt64), (p3.toInt64))] false = true then (1 : Int32) else 0))])) rfl (by rw [hml]; rfl) (argsL := [(.int (3 : Int32)), (.double (FP.l2d (p4.toInt64))), (.double (FP.l2d (p5.toInt64))), (.double (FP.l2d (p6.toInt64))), (.double (FP.l2d (x0.toInt64))), (.double (FP.l2d (p2.toInt64))), (.double (FP.l2d (p3.toInt64)))]) (rest := [(.int (if own_beats [((p4.toInt64), (x0.toInt64)), ((p5.toInt64), (p2.toInt64)), ((p6.toInt64), (p3.toInt64))] false = true then (1 : Int32) else 0))]) (lenOf pd_oIDDDDDDcZ rfl) rfl (by show 2 * 0 + _ ≤ _; exact Nat.le_of_eq rfl) (hb hby at_155) (fun _ _ => ⟨rfl, e160, (by decide : 2 + 0 ≤ _), (by decide : 6 + 0 ≤ _)⟩)
    dsimp only [Pt.U, Pt.locs, Pt.cells, Pt.slots] at X163 l163 y163 z163 st163 hQ163
    subst l163 y163 z163
    obtain ⟨rfl, N163a, eh163⟩ := hQ163
    have N163 := Fr.app N160 N163a
    have e163 : T163.heap = h149 := eh163
    have cn164 : ∀ t, Steps p.tables e below (T163.setTop (mkF m 158 #[.val (.int p1), .val (.int p2), .val (.int p3), .val (.int p4), .val (.int p5), .val (.int p6), .val (.int (3 : Int32)), .val (.double (FP.l2d (x0.toInt64))), .second, .val (.double (FP.l2d (p2.toInt64))), .second, .val (.double (FP.l2d (p3.toInt64))), .second, .val (.double (FP.l2d (p4.toInt64))), .second, .val (.double (FP.l2d (p5.toInt64))), .second, .val (.double (FP.l2d (p6.toInt64))), .second, .val (.ref a109), .val (.ref a113), .val (.int (if own_beats [((x0.toInt64), (p4.toInt64)), ((p2.toInt64), (p5.toInt64)), ((p3.toInt64), (p6.toInt64))] false = true then (1 : Int32) else 0)), .val (.int (if own_beats [((p4.toInt64), (x0.toInt64)), ((p5.toInt64), (p2.toInt64)), ((p6.toInt64), (p3.toInt64))] false = true then (1 : Int32) else 0))] [(.int (if own_beats [((p4.toInt64), (x0.toInt64)), ((p5.toInt64), (p2.toInt64)), ((p6.toInt64), (p3.toInt64))] false = true then (1 : Int32) else 0)), (.int (if own_beats [((p4.toInt64), (x0.toInt64)), ((p5.toInt64), (p2.toInt64)), ((p6.toInt64), (p3.toInt64))] false = true then (1 : Int32) else 0))])) t → Steps p.tables e below (s₁.setTop (entryFrame m #[(.int p1), (.int p2), (.int p3), (.int p4), (.int p5), (.int p6)] maxLocals)) t := fun t k => cn162 t (st163 _ k)
    have cn165 : ∀ t, Steps p.tables e below (T163.setTop (mkF m 166 #[.val (.int p1), .val (.int p2), .val (.int p3), .val (.int p4), .val (.int p5), .val (.int p6), .val (.int (3 : Int32)), .val (.double (FP.l2d (x0.toInt64))), .second, .val (.double (FP.l2d (p2.toInt64))), .second, .val (.double (FP.l2d (p3.toInt64))), .second, .val (.double (FP.l2d (p4.toInt64))), .second, .val (.double (FP.l2d (p5.toInt64))), .second, .val (.double (FP.l2d (p6.toInt64))), .second, .val (.ref a109), .val (.ref a113), .val (.int (if own_beats [((x0.toInt64), (p4.toInt64)), ((p2.toInt64), (p5.toInt64)), ((p3.toInt64), (p6.toInt64))] false = true then (1 : Int32) else 0)), .val (.int (if own_beats [((p4.toInt64), (x0.toInt64)), ((p5.toInt64), (p2.toInt64)), ((p6.toInt64), (p3.toInt64))] false = true then (1 : Int32) else 0))] [(.int (1 : Int32))])) t → Steps p.tables e below (s₁.setTop (entryFrame m #[(.int p1), (.int p2), (.int p3), (.int p4), (.int p5), (.int p6)] maxLocals)) t := by
      intro t k
      refine cn164 t ?_
      refine o_icmpNo X163.here hx (hb hby at_158) (XT.ii_ne_f rfl) ?_
      refine o_iconstV X163.here hx (1 : Int32) (hb hby at_161) rfl ?_
      show Steps p.tables e below (T163.setTop (mkF m 162 #[.val (.int p1), .val (.int p2), .val (.int p3), .val (.int p4), .val (.int p5), .val (.int p6), .val (.int (3 : Int32)), .val (.double (FP.l2d (x0.toInt64))), .second, .val (.double (FP.l2d (p2.toInt64))), .second, .val (.double (FP.l2d (p3.toInt64))), .second, .val (.double (FP.l2d (p4.toInt64))), .second, .val (.double (FP.l2d (p5.toInt64))), .second, .val (.double (FP.l2d (p6.toInt64))), .second, .val (.ref a109), .val (.ref a113), .val (.int (if own_beats [((x0.toInt64), (p4.toInt64)), ((p2.toInt64), (p5.toInt64)), ((p3.toInt64), (p6.toInt64))] false = true then (1 : Int32) else 0)), .val (.int (if own_beats [((p4.toInt64), (x0.toInt64)), ((p5.toInt64), (p2.toInt64)), ((p6.toInt64), (p3.toInt64))] false = true then (1 : Int32) else 0))] [(.int (1 : Int32))])) _
      refine o_goto X163.here hx (pc' := 166) (hb hby at_162) (by decide) (by decide) ?_
      exact k
    obtain ⟨fs, hr, hrun, hended, hW, hsame⟩ := X163.leave (v := some (.int (1 : Int32))) (fun h => by rw [Bd.returns] at h; cases h)
    refine ⟨_, _, cn165 _ ?_, hrun, hended, _, _, rfl, ?_, ⟨_, rfl⟩, hW, hsame.mono (by decide) (by decide)⟩
    · exact retN X163 hx (t := .boolean) Bd.returns (by simp) (hb hby at_166) hr
    · show Q0 Z p1 p2 p3 p4 p5 p6 h0 n0 _ T163.heap _
      rw [e163]
      exact ⟨rfl, N163⟩

set_option maxRecDepth 65536 in
set_option maxHeartbeats 40000000 in
theorem comes_1 {Post : Tables → Env → Array Value → State → Outcome → State → Prop} (hpost : ∀ tb e args s v u, (limb_1_1.after args s (.returned v) u = true ∧ limb_1_2.after args s (.returned v) u = true ∧ True) → FrameEnd s (.returned v) u (Jvm.fieldLocs frame_1_writes args s ++ Jvm.arrayLocs frame_1_arrays args s ++ Jvm.staticLocs frame_1_statics s) 16 128 → Post tb e args s (.returned v) u) :
    ArmFor flags0 classFile x code maxLocals ret World_1 tables_1 room_1 Calls_1 rest_1 Pre_1 Post := by
  intro l hfl _ _ p e ha hc hk s m args below hf hA hF happ hP
  obtain ⟨hcalls, hrest, hpre⟩ := hP
  obtain ⟨-, -, -, hnamed, -, -, -, hat⟩ := (Spec.applies_iff hf).mp happ
  obtain ⟨hg, hn⟩ := and_e (Cond.before_iff.mp (show (Jvm.Cond.and given_1 narrow_1).before args s = true from hpre))
  obtain ⟨hcount, hr0⟩ := and_e hg
  obtain ⟨g0, hr1⟩ := and_e hr0
  obtain ⟨g1, hr2⟩ := and_e hr1
  obtain ⟨g2, hr3⟩ := and_e hr2
  obtain ⟨g3, hr4⟩ := and_e hr3
  obtain ⟨g4, hr5⟩ := and_e hr4
  have g5 := hr5
  obtain ⟨w0, w1, w2, w3, w4, w5, rfl⟩ : ∃ w0 w1 w2 w3 w4 w5 : Value, args = #[w0, w1, w2, w3, w4, w5] := by
    have hs : args.size = 6 := by simpa [Cond.value, given_1] using hcount
    obtain ⟨L⟩ := args
    match L, hs with
    | [w0, w1, w2, w3, w4, w5], _ => exact ⟨w0, w1, w2, w3, w4, w5, rfl⟩
  have hw := fun d (hd : d ∈ tables_1) => atoms_spec (ws := Jvm.Cond.code x code maxLocals ret :: tables_1) hat d (List.mem_cons_of_mem _ hd)
  have hfit : Fit s := fun {y c} hc i hi => by
    obtain ⟨ha, rfl⟩ := Array.getElem?_eq_some_iff.mp hc
    have q := List.all_eq_true.mp ((Array.all_eq_true_iff_forall_mem.mp hF) _ (Array.getElem_mem ha)) i (List.mem_range.mpr hi)
    simpa [Array.getElem?_eq_getElem hi] using q
  obtain ⟨i0, e0⟩ := is_v g0
  obtain rfl : w0 = (.int i0) := Option.some.inj e0
  obtain ⟨i1, e1⟩ := is_v g1
  obtain rfl : w1 = (.int i1) := Option.some.inj e1
  obtain ⟨i2, e2⟩ := is_v g2
  obtain rfl : w2 = (.int i2) := Option.some.inj e2
  obtain ⟨i3, e3⟩ := is_v g3
  obtain rfl : w3 = (.int i3) := Option.some.inj e3
  obtain ⟨i4, e4⟩ := is_v g4
  obtain rfl : w4 = (.int i4) := Option.some.inj e4
  obtain ⟨i5, e5⟩ := is_v g5
  obtain rfl : w5 = (.int i5) := Option.some.inj e5
  obtain ⟨n, o, h1, h2, h3, _, L, rfl, ⟨rfl, N⟩, hq⟩ := rm0 l s _ hw tables_1 i0 i1 i2 i3 i4 i5 s.heap s.heap.size (Nat.le_refl _)  p e ha hc hk s m _ below hf ((Spec.applies_iff_loose hf).mp happ).1 ⟨rfl, State.Warmed39.refl s, rfl⟩ trivial
  refine ⟨n, _, h1, h2, h3, hpost _ _ _ _ _ _ ⟨Cond.after_iff.mpr rfl, Cond.after_iff.mpr (eq_i res_at (Term.int_eval (1)) rfl), trivial⟩ ⟨hq.1, hq.2.1, (hq.2.2.sift fun y hy => Or.inr (N y hy)).mono (by decide) (by decide)⟩⟩
theorem main_1_1 : Claimed_1_1 := comes_1 fun _ _ _ _ _ _ h hF => ⟨h.1, hF⟩
theorem main_1_2 : Claimed_1_2 := comes_1 fun _ _ _ _ _ _ h hF => ⟨h.2.1, hF⟩
end Jvm.Pilot.@@N@@
namespace Jvm.Pilot.@@N@@
open Jvm Jvm.ClassFile Sem Op Lib Jvm.Free Jvm.Stand Jvm.Pilot.@@N@@.Jvm.D
/-! MADE BY PROGRAM (witnessworld.py) out of the Statement's table words and the real class files: 11 classes; the members and pool entries that the words name. The judged class is class 1, her method 1. -/
namespace start1
open Jvm.ClassFile
def u (s : String) : CpInfo := .utf8 (stringToUtf16 s)
/-- a pool by its gaps: so many unusable entries, then the entry; so many at the end -/
def gap : Nat → List CpInfo → List CpInfo
  | 0, r => r
  | n + 1, r => .unusable :: gap n r
def poolList (es : List (Nat × CpInfo)) (last : Nat) : List CpInfo := es.foldr (fun e r => gap e.1 (e.2 :: r)) (gap last [])
def pool (es : List (Nat × CpInfo)) (last : Nat) : Array CpInfo := ⟨poolList es last⟩
def fileOf (pool : Array CpInfo) (this : Nat) (attrs : Array Attribute := #[]) (ms : Array MethodInfo := #[]) (fl : Nat := 33) (sup : Nat := 0) (ifs : Array Nat := #[]) (fds : Array FieldInfo := #[]) : ClassFile where
  minorVersion := 0
  majorVersion := 65
  constantPool := pool
  accessFlags := fl
  thisClass := this
  superClass := sup
  interfaces := ifs
  fields := fds
  methods := ms
  attributes := attrs
def plain (name : String) (sup : Option ClassId) : Class where
  name := name
  kind := .ordinary
  loader := none
  accessFlags := 33
  super := sup
  interfaces := #[]
  cf := none
  fields := #[]
  methods := #[]
  instanceTypes := #[]
  staticTypes := #[]
  resolved := #[]
  callSites := []
  init := .initialized
  statics := none
  mirror := none

def pool0 : Array CpInfo := pool [(5, u "<init>"), (0, u "()V"), (1, .class_ 10), (1, u "java/lang/Object")] 113

def k0m0 : Method := { name := "<init>", desc := "()V", sig := { parameters := [], returnType := none }, accessFlags := 1, code := none }
/-- java/lang/Object -/
def k0 : Class := { plain "java/lang/Object" none with
  accessFlags := 33
  interfaces := #[]
  cf := some (fileOf pool0 8 #[] #[{ accessFlags := 1, nameIndex := 5, descriptorIndex := 6, attributes := #[] }] 33 0 #[] #[])
  fields := #[]
  methods := #[k0m0]
  instanceTypes := #[]
  staticTypes := #[]
  resolved := Array.replicate 124 none
  statics := none }

def pool1 : Array CpInfo := pool [(2, .class_ 4), (1, u "java/lang/Object"), (0, u "<init>"), (0, u "()V"), (0, .methodref 8 9), (0, .class_ 10), (0, .nameAndType 11 12), (0, u "com/example/pareto_loom/paretoloom/model/NondominatedSet"), (0, u "beats"), (0, u "([D[D)Z"), (0, .methodref 14 15), (0, .class_ 16), (0, .nameAndType 17 18), (0, u "com/example/pareto_loom/paretoloom/model/NondominatedSetBeatsPinLaw"), (0, u "expect"), (0, u "(IDDDDDD)Z"), (2, u "law"), (0, u "(IIIIII)Z")] 5

def k1m0 : Method := { name := "<init>", desc := "()V", sig := { parameters := [], returnType := none }, accessFlags := 1, code := none }
def k1c1 : Code := { maxStack := 14, maxLocals := 23, code := code, exceptionTable := #[], attributes := #[] }
def k1m1 : Method := { name := "law", desc := "(IIIIII)Z", sig := { parameters := [.int, .int, .int, .int, .int, .int], returnType := some .boolean }, accessFlags := 9, code := some k1c1 }
def k1c2 : Code := { maxStack := 4, maxLocals := 19, code := method_3_code, exceptionTable := #[], attributes := #[] }
def k1m2 : Method := { name := "expect", desc := "(IDDDDDD)Z", sig := { parameters := [.int, .double, .double, .double, .double, .double, .double], returnType := some .boolean }, accessFlags := 10, code := some k1c2 }
/-- com/example/pareto_loom/paretoloom/model/NondominatedSetBeatsPinLaw -/
def k1 : Class := { plain "com/example/pareto_loom/paretoloom/model/NondominatedSetBeatsPinLaw" (some 0) with
  accessFlags := 49
  interfaces := #[]
  cf := some (fileOf pool1 14 #[] #[{ accessFlags := 1, nameIndex := 5, descriptorIndex := 6, attributes := #[] }, { accessFlags := 9, nameIndex := 21, descriptorIndex := 22, attributes := #[] }, { accessFlags := 10, nameIndex := 17, descriptorIndex := 18, attributes := #[] }] 49 2 #[] #[])
  fields := #[]
  methods := #[k1m0, k1m1, k1m2]
  instanceTypes := #[]
  staticTypes := #[]
  resolved := Array.replicate 28 none
  statics := none }

def pool2 : Array CpInfo := pool [(6, .class_ 8), (1, u "com/example/pareto_loom/paretoloom/model/NondominatedSet"), (0, u "<init>"), (2, .class_ 14), (1, u "java/lang/Object"), (0, u "()V"), (5, u "items"), (0, u "Ljava/util/List;"), (2, u "keys"), (2, u "lastBeater"), (0, u "I"), (2, u "sameItem"), (0, u "Ljava/util/function/BiPredicate;"), (14, u "beats"), (0, u "([D[D)Z")] 92

def k2m0 : Method := { name := "<init>", desc := "()V", sig := { parameters := [], returnType := none }, accessFlags := 1, code := none }
def k2c1 : Code := { maxStack := 4, maxLocals := 4, code := prog_48_method_10_code, exceptionTable := #[], attributes := #[] }
def k2m1 : Method := { name := "beats", desc := "([D[D)Z", sig := { parameters := [(.array .double), (.array .double)], returnType := some .boolean }, accessFlags := 9, code := some k2c1 }
/-- com/example/pareto_loom/paretoloom/model/NondominatedSet -/
def k2 : Class := { plain "com/example/pareto_loom/paretoloom/model/NondominatedSet" (some 0) with
  accessFlags := 49
  interfaces := #[]
  cf := some (fileOf pool2 6 #[] #[{ accessFlags := 1, nameIndex := 9, descriptorIndex := 15, attributes := #[] }, { accessFlags := 9, nameIndex := 48, descriptorIndex := 49, attributes := #[] }] 49 12 #[] #[{ accessFlags := 18, nameIndex := 21, descriptorIndex := 22, attributes := #[] }, { accessFlags := 18, nameIndex := 25, descriptorIndex := 22, attributes := #[] }, { accessFlags := 18, nameIndex := 32, descriptorIndex := 33, attributes := #[] }, { accessFlags := 2, nameIndex := 28, descriptorIndex := 29, attributes := #[] }])
  fields := #[{ name := "items", type := (.object "java/util/List"), accessFlags := 18, slot := 0, constantValue := 0 }, { name := "keys", type := (.object "java/util/List"), accessFlags := 18, slot := 1, constantValue := 0 }, { name := "sameItem", type := (.object "java/util/function/BiPredicate"), accessFlags := 18, slot := 2, constantValue := 0 }, { name := "lastBeater", type := .int, accessFlags := 2, slot := 3, constantValue := 0 }]
  methods := #[k2m0, k2m1]
  instanceTypes := #[(.object "java/util/List"), (.object "java/util/List"), (.object "java/util/function/BiPredicate"), .int]
  staticTypes := #[]
  resolved := Array.replicate 142 none
  statics := none }

def pool3 : Array CpInfo := pool [(1, u "java/lang/Cloneable"), (0, .class_ 1), (0, u "java/lang/Object"), (0, .class_ 3)] 3

/-- java/lang/Cloneable -/
def k3 : Class := { plain "java/lang/Cloneable" (some 0) with
  accessFlags := 1537
  interfaces := #[]
  cf := some (fileOf pool3 2 #[] #[] 1537 4 #[] #[])
  fields := #[]
  methods := #[]
  instanceTypes := #[]
  staticTypes := #[]
  resolved := Array.replicate 8 none
  statics := none }

def pool4 : Array CpInfo := pool [(1, u "java/io/Serializable"), (0, .class_ 1), (0, u "java/lang/Object"), (0, .class_ 3)] 3

/-- java/io/Serializable -/
def k4 : Class := { plain "java/io/Serializable" (some 0) with
  accessFlags := 1537
  interfaces := #[]
  cf := some (fileOf pool4 2 #[] #[] 1537 4 #[] #[])
  fields := #[]
  methods := #[]
  instanceTypes := #[]
  staticTypes := #[]
  resolved := Array.replicate 8 none
  statics := none }

/-- the primitive byte -/
def k5 : Class := { plain "byte" none with kind := .primitive 'B', accessFlags := 0x411 }
/-- [B -/
def k6 : Class := { plain "[B" (some 0) with kind := .array 5 .byte, interfaces := #[3, 4], accessFlags := 1041 }

/-- the primitive double -/
def k7 : Class := { plain "double" none with kind := .primitive 'D', accessFlags := 0x411 }
/-- [D -/
def k8 : Class := { plain "[D" (some 0) with kind := .array 7 .double, interfaces := #[3, 4], accessFlags := 1041 }

/-- the primitive int -/
def k9 : Class := { plain "int" none with kind := .primitive 'I', accessFlags := 0x411 }
/-- [I -/
def k10 : Class := { plain "[I" (some 0) with kind := .array 9 .int, interfaces := #[3, 4], accessFlags := 1041 }

def heap : Heap := #[]
def classes : Array Class := #[k0, k1, k2, k3, k4, k5, k6, k7, k8, k9, k10]
def interned : List (Array UInt16 × Addr) := []
def slotsUsed : Nat := 0
def theMethod : MethodId := ⟨1, 1⟩
def args0 : Array Value := #[.int 5, .int 3, .int 7, .int 5, .int 3, .int 7]
def aboutOver (below : List Frame) : State where
  vm := { classes := classes, interned := interned.toArray }
  heap := heap
  slotsUsed := slotsUsed
  threads := #[{ frames := .invoking theMethod args0 :: below }]
def below0 : List Frame := [.native { method := ⟨0, 0⟩, args := #[] }]
def about1 : State := aboutOver below0
def p0 : Program := .bare "" "" ""
def e0 : Env := launch0.env 0 0 0
theorem w_frames : about1.frames = Frame.invoking theMethod args0 :: below0 := rfl
set_option maxRecDepth 65536 in
theorem w_args : argsFit about1.vm theMethod args0 = true := by decide +kernel
set_option maxRecDepth 65536 in
theorem w_heap : heapFits about1 = true := by decide +kernel
set_option maxRecDepth 65536 in
theorem w_runnable : about1.curStatus? = some .runnable := by decide +kernel
set_option maxRecDepth 65536 in
theorem w_alone : about1.alone = true := by decide +kernel
set_option maxRecDepth 65536 in
theorem w_named : about1.methodNamed? x = some theMethod := by decide +kernel
set_option maxRecDepth 65536 in
theorem w_hears : about1.hears theMethod below0 = true := by decide +kernel
set_option maxRecDepth 65536 in
theorem w_ripe : about1.ripe theMethod args0 below0 = true := by decide +kernel
theorem w_running : about1.status = .running := rfl
set_option maxRecDepth 65536 in
theorem w_room : about1.hasRoom e0.platform room_1 = true :=
  launch0.hasRoom_least _ room_1 (by decide +kernel) (by decide +kernel) (by decide +kernel) (by decide +kernel) (by decide +kernel) (by decide +kernel)
theorem allAtoms_all (ts : List Jvm.Cond) (a : Array Jvm.Value) (st : Jvm.State) : (allAtoms ts).before a st = ts.all (fun c => c.before a st) := by
  induction ts with
  | nil => rfl
  | cons c t ih =>
    show (Jvm.Cond.and c (allAtoms t)).before a st = _
    rw [Jvm.Cond.before_and, ih, List.all_cons]
def words1 : List Jvm.Cond := Jvm.Cond.code x code maxLocals ret :: tables_1
/-- a 'code' word, met by the world's own term for the bytes: nothing is compared byte by byte -/
theorem code_word {y : MethodName} {bytes : ByteArray} {mx : Nat} {rt : Option FieldType} {a : Array Value} {s : State} {m : MethodId} {meth : Method} {c : Code} (h1 : s.methodNamed? y = some m) (h2 : s.vm.method? m = some meth) (h3 : meth.code = some c) (h4 : c.code = bytes)
    (h5 : (c.maxLocals == mx && c.exceptionTable.isEmpty && decide (c.maxStack ≤ mostOperands) && decide (meth.sig.returnType = rt) && !meth.locks && decide (parseMethodDescriptor y.desc = some meth.sig)) = true) : (Jvm.Cond.code y bytes mx rt).before a s = true := by
  simp only [Bool.and_eq_true, beq_iff_eq, Bool.not_eq_true', decide_eq_true_eq] at h5
  obtain ⟨⟨⟨⟨⟨g1, g2⟩, g3⟩, g4⟩, g5⟩, g6⟩ := h5
  simp [Cond.before, Cond.holds, Cond.value, h1, h2, h3, h4, g1, g2, g3, g4, g5, g6]
def isCode : Jvm.Cond → Bool
  | .code _ _ _ _ => true
  | _ => false
theorem all_split {L : List Jvm.Cond} {P : Jvm.Cond → Bool} (h1 : L.all (fun c => isCode c || P c) = true) (h2 : ∀ c ∈ L.filter isCode, P c = true) : L.all P = true := by
  refine List.all_eq_true.mpr fun c hc => ?_
  have h := List.all_eq_true.mp h1 c hc
  rcases Bool.eq_false_or_eq_true (isCode c) with hi | hi
  · exact h2 c (List.mem_filter.mpr ⟨hc, hi⟩)
  · simpa [hi] using h
set_option maxRecDepth 65536 in
theorem w_c0 : (Jvm.Cond.code x code maxLocals ret).before args0 about1 = true := code_word (m := ⟨1, 1⟩) (meth := k1m1) (c := k1c1) (by decide +kernel) rfl rfl rfl (by decide +kernel)
set_option maxRecDepth 65536 in
theorem w_c1 : (Jvm.Cond.code ({ cls := "com/example/pareto_loom/paretoloom/model/NondominatedSet", name := "beats", desc := "([D[D)Z" } : Jvm.MethodName) prog_48_method_10_code (4 : Nat) (Option.some Jvm.ClassFile.FieldType.boolean)).before args0 about1 = true := code_word (m := ⟨2, 1⟩) (meth := k2m1) (c := k2c1) (by decide +kernel) rfl rfl rfl (by decide +kernel)
set_option maxRecDepth 65536 in
theorem w_c2 : (Jvm.Cond.code ({ cls := "com/example/pareto_loom/paretoloom/model/NondominatedSetBeatsPinLaw", name := "expect", desc := "(IDDDDDD)Z" } : Jvm.MethodName) method_3_code (19 : Nat) (Option.some Jvm.ClassFile.FieldType.boolean)).before args0 about1 = true := code_word (m := ⟨1, 2⟩) (meth := k1m2) (c := k1c2) (by decide +kernel) rfl rfl rfl (by decide +kernel)
def codes1 : List Jvm.Cond := [Jvm.Cond.code x code maxLocals ret, Jvm.Cond.code ({ cls := "com/example/pareto_loom/paretoloom/model/NondominatedSet", name := "beats", desc := "([D[D)Z" } : Jvm.MethodName) prog_48_method_10_code (4 : Nat) (Option.some Jvm.ClassFile.FieldType.boolean), Jvm.Cond.code ({ cls := "com/example/pareto_loom/paretoloom/model/NondominatedSetBeatsPinLaw", name := "expect", desc := "(IDDDDDD)Z" } : Jvm.MethodName) method_3_code (19 : Nat) (Option.some Jvm.ClassFile.FieldType.boolean)]
set_option maxRecDepth 65536 in
theorem codes_eq : words1.filter isCode = codes1 := rfl
theorem w_codes : ∀ c ∈ words1.filter isCode, c.before args0 about1 = true := by
  rw [codes_eq]
  intro c hc
  simp only [codes1, List.mem_cons, List.not_mem_nil, or_false] at hc
  rcases hc with rfl | rfl | rfl
  · exact w_c0
  · exact w_c1
  · exact w_c2
set_option maxRecDepth 65536 in
theorem w_t1 : words1.all (fun c => isCode c || c.before args0 about1) = true := by decide +kernel
theorem w_tables : (allAtoms (Jvm.Cond.code x code maxLocals ret :: tables_1)).before args0 about1 = true := by
  rw [allAtoms_all]
  show words1.all (fun c => c.before args0 about1) = true
  refine all_split ?_ w_codes
  rw [w_t1]
set_option maxRecDepth 65536 in
theorem w_case : (Jvm.Cond.and given_1 narrow_1).before args0 about1 = true := by decide +kernel
theorem w_applies : (headSpec (Jvm.Cond.code x code maxLocals ret :: tables_1) room_1).applies x e0.platform about1 = true :=
  (Spec.applies_iff w_frames).mpr ⟨w_running, w_runnable, w_alone, w_named, w_hears, w_ripe, w_room, w_tables⟩
theorem atStart : AtStart classFile x code maxLocals ret World_1 tables_1 room_1 Calls_1 rest_1 Pre_1 launch0 p0 e0 about1 theMethod args0 below0 :=
  ⟨lists_1, trivial, launch0.admits_env _ _ _, launch0.least_env, fairChoices_fair.cas, fairChoices_fair.clock, w_frames, w_args, w_heap, w_applies, trivial, trivial, w_case⟩
end start1
theorem witness_1 : WitnessClaimed_1 := ⟨start1.p0, start1.e0, start1.about1, start1.theMethod, start1.args0, start1.below0, start1.atStart⟩
end Jvm.Pilot.@@N@@
