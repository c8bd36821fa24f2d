import JvmDerived
import JvmDerived.Pilot.@@N@@Statement
import JvmDerived.Pilot.@@N@@Code
set_option linter.unusedVariables false
set_option linter.unusedSimpArgs false
namespace Jvm.RoadKit
open Sem ClassFile Op Lib Jvm.Stand Jvm.Free Jvm.LawKit
section New
variable {p : Program} {l : Launch} {e : Env} {R : Room} {s : State} {m : MethodId} {args : Array Value} {below : List Frame} {meth : Method} {c : Code} {T : State} {locs : List Loc} {cells slots : Nat}
theorem retI (X : Stand p l e R s m args below meth c T locs cells slots) (hx : p.tables.exec = Jvm.exec) {pc : Nat} {Ls : Array Slot} {z : Int32} {rest : List Value} (hret : meth.sig.returnType = some .int) (hd : decode c.code pc = .ok (.ireturn, 1)) {fs : List Frame}
    (hl : ∀ (f : JFrame) (acts : List Action), f.method = m → f.locked = none → f.entered = [] → (doReturn e (T.setTop f) acts (some (.int z))).1 = T.setFrames fs) : Steps p.tables e below (T.setTop (mkF m pc Ls (.int z :: rest))) (T.setFrames fs) := by
  have hm' : T.vm.method? m = some meth := X.method'
  have hn : narrow .int (.int z) = .int z := rfl
  show Steps p.tables e below (T.setTop { method := m, pc := pc, locals := Ls, stack := _ :: rest, locked := none }) _
  jvm_step X.here [X.here.top, hx, hd, hm', hret, hn]
  first | (intro acts; rw [hl _ acts rfl rfl rfl]) | rw [hl _ _ rfl rfl rfl]
  exact Steps.refl _
end New
end Jvm.RoadKit
namespace Jvm.Pilot.@@N@@
open Jvm Jvm.ClassFile Sem Op Lib Jvm.Free Jvm.Stand Jvm.LawKit Jvm.RoadKit Bundle Jvm.Pilot.@@N@@.Jvm.D
theorem o_iload {tb : Tables} [Ours tb] {e : Env} {below : List Frame} {T target : State} {m : MethodId} {c : Code} {pc : Nat} {ls : Array Slot} {st : List Value} {k : Nat} {v : Int32} (h : At T m c below) (hx : tb.exec = Jvm.exec) (hd : decode c.code pc = .ok (.iload k, 2)) (hl : ls[k]? = some (.val (.int v))) (hr : Steps tb e below (T.setTop (mkF m (pc + 2) ls (.int v :: st))) target) : Steps tb e below (T.setTop (mkF m pc ls st)) target := XS.iload (g := mkF m pc ls st) h hx rfl hd hl hr
theorem o_iloadN {tb : Tables} [Ours tb] {e : Env} {below : List Frame} {T target : State} {m : MethodId} {c : Code} {pc : Nat} {ls : Array Slot} {st : List Value} {k : Fin 4} {v : Int32} (h : At T m c below) (hx : tb.exec = Jvm.exec) (hd : decode c.code pc = .ok (.iload_n k, 1)) (hl : ls[k.val]? = some (.val (.int v))) (hr : Steps tb e below (T.setTop (mkF m (pc + 1) ls (.int v :: st))) target) : Steps tb e below (T.setTop (mkF m pc ls st)) target := XS.iloadN (g := mkF m pc ls st) h hx rfl hd hl hr
theorem o_dload {tb : Tables} [Ours tb] {e : Env} {below : List Frame} {T target : State} {m : MethodId} {c : Code} {pc : Nat} {ls : Array Slot} {st : List Value} {k : Nat} {v : UInt64} (h : At T m c below) (hx : tb.exec = Jvm.exec) (hd : decode c.code pc = .ok (.dload k, 2)) (hl : ls[k]? = some (.val (.double v))) (hr : Steps tb e below (T.setTop (mkF m (pc + 2) ls (.double v :: st))) target) : Steps tb e below (T.setTop (mkF m pc ls st)) target := XS.dload (g := mkF m pc ls st) h hx rfl hd hl hr
theorem o_dloadN {tb : Tables} [Ours tb] {e : Env} {below : List Frame} {T target : State} {m : MethodId} {c : Code} {pc : Nat} {ls : Array Slot} {st : List Value} {k : Fin 4} {v : UInt64} (h : At T m c below) (hx : tb.exec = Jvm.exec) (hd : decode c.code pc = .ok (.dload_n k, 1)) (hl : ls[k.val]? = some (.val (.double v))) (hr : Steps tb e below (T.setTop (mkF m (pc + 1) ls (.double v :: st))) target) : Steps tb e below (T.setTop (mkF m pc ls st)) target := XS.dloadN (g := mkF m pc ls st) h hx rfl hd hl hr
theorem o_istore {tb : Tables} [Ours tb] {e : Env} {below : List Frame} {T target : State} {m : MethodId} {c : Code} {pc : Nat} {ls : Array Slot} {st : List Value} {k : Nat} {x : Int32} {l' : Array Slot} (h : At T m c below) (hx : tb.exec = Jvm.exec) (hd : decode c.code pc = .ok (.istore k, 2)) (hl : storeLocals ls k (.int x) = some l') (hr : Steps tb e below (T.setTop (mkF m (pc + 2) l' st)) target) : Steps tb e below (T.setTop (mkF m pc ls (.int x :: st))) target := XS.istore (g := mkF m pc ls (.int x :: st)) h hx rfl hd rfl hl hr
theorem o_dstore {tb : Tables} [Ours tb] {e : Env} {below : List Frame} {T target : State} {m : MethodId} {c : Code} {pc : Nat} {ls : Array Slot} {st : List Value} {k : Nat} {x : UInt64} {l' : Array Slot} (h : At T m c below) (hx : tb.exec = Jvm.exec) (hd : decode c.code pc = .ok (.dstore k, 2)) (hl : storeLocals ls k (.double x) = some l') (hr : Steps tb e below (T.setTop (mkF m (pc + 2) l' st)) target) : Steps tb e below (T.setTop (mkF m pc ls (.double x :: st))) target := XS.dstore (g := mkF m pc ls (.double x :: st)) h hx rfl hd rfl hl hr
theorem o_aloadN {tb : Tables} [Ours tb] {e : Env} {below : List Frame} {T target : State} {m : MethodId} {c : Code} {pc : Nat} {ls : Array Slot} {st : List Value} {k : Fin 4} {v : Value} (h : At T m c below) (hx : tb.exec = Jvm.exec) (hd : decode c.code pc = .ok (.aload_n k, 1)) (hl : ls[k.val]? = some (.val v)) (hv : v.isRef = true) (hr : Steps tb e below (T.setTop (mkF m (pc + 1) ls (v :: st))) target) : Steps tb e below (T.setTop (mkF m pc ls st)) target := XS.aloadN (g := mkF m pc ls st) h hx rfl hd hl hv hr
theorem o_astoreN {tb : Tables} [Ours tb] {e : Env} {below : List Frame} {T target : State} {m : MethodId} {c : Code} {pc : Nat} {ls : Array Slot} {st : List Value} {k : Fin 4} {x : Value} {l' : Array Slot} (h : At T m c below) (hx : tb.exec = Jvm.exec) (hd : decode c.code pc = .ok (.astore_n k, 1)) (hv : x.isRef = true) (hl : storeLocals ls k.val x = some l') (hr : Steps tb e below (T.setTop (mkF m (pc + 1) l' st)) target) : Steps tb e below (T.setTop (mkF m pc ls (x :: st))) target := XS.astoreN (g := mkF m pc ls (x :: st)) h hx rfl hd rfl hv hl hr
theorem o_iconstV {tb : Tables} [Ours tb] {e : Env} {below : List Frame} {T target : State} {m : MethodId} {c : Code} {pc : Nat} {ls : Array Slot} {st : List Value} {i : Int} (h : At T m c below) (hx : tb.exec = Jvm.exec) (v : Int32) (hd : decode c.code pc = .ok (.iconst i, 1)) (hv : Int32.ofInt i = v) (hr : Steps tb e below (T.setTop (mkF m (pc + 1) ls (.int v :: st))) target) : Steps tb e below (T.setTop (mkF m pc ls st)) target := XT.iconstV (g := mkF m pc ls st) h hx rfl v hd hv hr
theorem o_dconst0 {tb : Tables} [Ours tb] {e : Env} {below : List Frame} {T target : State} {m : MethodId} {c : Code} {pc : Nat} {ls : Array Slot} {st : List Value} {v : UInt64} (h : At T m c below) (hx : tb.exec = Jvm.exec) (hd : decode c.code pc = .ok (.dconst 0, 1)) (hv : FP.dconst0 = v) (hr : Steps tb e below (T.setTop (mkF m (pc + 1) ls (.double v :: st))) target) : Steps tb e below (T.setTop (mkF m pc ls st)) target := XS.dconst0 (g := mkF m pc ls st) h hx rfl hd hv hr
theorem o_iand {tb : Tables} [Ours tb] {e : Env} {below : List Frame} {T target : State} {m : MethodId} {c : Code} {pc : Nat} {ls : Array Slot} {st : List Value} {x y : Int32} (h : At T m c below) (hx : tb.exec = Jvm.exec) (hd : decode c.code pc = .ok (.iand, 1)) (hr : Steps tb e below (T.setTop (mkF m (pc + 1) ls (.int (x &&& y) :: st))) target) : Steps tb e below (T.setTop (mkF m pc ls (.int y :: .int x :: st))) target := XS.iand (g := mkF m pc ls (.int y :: .int x :: st)) h hx rfl hd rfl hr
theorem o_i2dS {tb : Tables} [Ours tb] {e : Env} {below : List Frame} {T target : State} {m : MethodId} {c : Code} {pc : Nat} {ls : Array Slot} {st : List Value} {x : Int32} {v : UInt64} (h : At T m c below) (hx : tb.exec = Jvm.exec) (hd : decode c.code pc = .ok (.i2d, 1)) (hv : FP.i2d x = v) (hr : Steps tb e below (T.setTop (mkF m (pc + 1) ls (.double v :: st))) target) : Steps tb e below (T.setTop (mkF m pc ls (.int x :: st))) target := XS.i2dS (g := mkF m pc ls (.int x :: st)) h hx rfl hd rfl hv hr
theorem o_dnegS {tb : Tables} [Ours tb] {e : Env} {below : List Frame} {T target : State} {m : MethodId} {c : Code} {pc : Nat} {ls : Array Slot} {st : List Value} {x : UInt64} {v : UInt64} (h : At T m c below) (hx : tb.exec = Jvm.exec) (hd : decode c.code pc = .ok (.dneg, 1)) (hv : FP.dneg x = v) (hr : Steps tb e below (T.setTop (mkF m (pc + 1) ls (.double v :: st))) target) : Steps tb e below (T.setTop (mkF m pc ls (.double x :: st))) target := XS.dnegS (g := mkF m pc ls (.double x :: st)) h hx rfl hd rfl hv hr
theorem o_daddS {tb : Tables} [Ours tb] {e : Env} {below : List Frame} {T target : State} {m : MethodId} {c : Code} {pc : Nat} {ls : Array Slot} {st : List Value} {x y v : UInt64} (h : At T m c below) (hx : tb.exec = Jvm.exec) (hd : decode c.code pc = .ok (.dadd, 1)) (hn : Jvm.Free.Fl.NoNaN64 (FP.dadd x y)) (hv : FP.dadd x y = v) (hr : Steps tb e below (T.setTop (mkF m (pc + 1) ls (.double v :: st))) target) : Steps tb e below (T.setTop (mkF m pc ls (.double y :: .double x :: st))) target := XS.daddS (g := mkF m pc ls (.double y :: .double x :: st)) h hx rfl hd rfl hn hv hr
theorem o_dcmpS {tb : Tables} [Ours tb] {e : Env} {below : List Frame} {T target : State} {m : MethodId} {c : Code} {pc : Nat} {ls : Array Slot} {st : List Value} {o : CmpOp} {x y : UInt64} {v : Int32} (h : At T m c below) (hx : tb.exec = Jvm.exec) (hd : decode c.code pc = .ok (.dcmp o, 1)) (hv : cmpValue (FP.dcmp x y) o = v) (hr : Steps tb e below (T.setTop (mkF m (pc + 1) ls (.int v :: st))) target) : Steps tb e below (T.setTop (mkF m pc ls (.double y :: .double x :: st))) target := XS.dcmpS (g := mkF m pc ls (.double y :: .double x :: st)) h hx rfl hd rfl hv hr
theorem o_goto {tb : Tables} [Ours tb] {e : Env} {below : List Frame} {T target : State} {m : MethodId} {c : Code} {pc : Nat} {ls : Array Slot} {st : List Value} {o : Int} {pc' : Nat}  (h : At T m c below) (hx : tb.exec = Jvm.exec) (hd : decode c.code pc = .ok (.goto o, 3)) (ho : 0 ≤ (pc : Int) + o) (hp : ((pc : Int) + o).toNat = pc') (hr : Steps tb e below (T.setTop (mkF m pc' ls st)) target) : Steps tb e below (T.setTop (mkF m pc ls st)) target := XS.goto (g := mkF m pc ls st) h hx rfl rfl hd ho hp hr
theorem o_ifYes {tb : Tables} [Ours tb] {e : Env} {below : List Frame} {T target : State} {m : MethodId} {c : Code} {pc : Nat} {ls : Array Slot} {st : List Value} {o : Int} {pc' : Nat} {cd : ClassFile.Cond} {x : Int32} (h : At T m c below) (hx : tb.exec = Jvm.exec) (hd : decode c.code pc = .ok (.ifCond cd o, 3)) (hc : ifCond.holds cd x = true) (ho : 0 ≤ (pc : Int) + o) (hp : ((pc : Int) + o).toNat = pc') (hr : Steps tb e below (T.setTop (mkF m pc' ls st)) target) : Steps tb e below (T.setTop (mkF m pc ls (.int x :: st))) target := XS.ifYes (g := mkF m pc ls (.int x :: st)) h hx rfl rfl hd rfl hc ho hp hr
theorem o_ifNo {tb : Tables} [Ours tb] {e : Env} {below : List Frame} {T target : State} {m : MethodId} {c : Code} {pc : Nat} {ls : Array Slot} {st : List Value} {o : Int} {cd : ClassFile.Cond} {x : Int32} (h : At T m c below) (hx : tb.exec = Jvm.exec) (hd : decode c.code pc = .ok (.ifCond cd o, 3)) (hc : ifCond.holds cd x = false) (hr : Steps tb e below (T.setTop (mkF m (pc + 3) ls st)) target) : Steps tb e below (T.setTop (mkF m pc ls (.int x :: st))) target := XS.ifNo (g := mkF m pc ls (.int x :: st)) h hx rfl hd rfl hc hr
theorem o_icmpNo {tb : Tables} [Ours tb] {e : Env} {below : List Frame} {T target : State} {m : MethodId} {c : Code} {pc : Nat} {ls : Array Slot} {st : List Value} {o : Int} {cd : ClassFile.Cond} {x y : Int32} (h : At T m c below) (hx : tb.exec = Jvm.exec) (hd : decode c.code pc = .ok (.if_icmp cd o, 3)) (hc : if_icmp.holds cd x y = false) (hr : Steps tb e below (T.setTop (mkF m (pc + 3) ls st)) target) : Steps tb e below (T.setTop (mkF m pc ls (.int y :: .int x :: st))) target := XS.icmpNo (g := mkF m pc ls (.int y :: .int x :: st)) h hx rfl hd rfl hc hr
theorem o_acmpYes {tb : Tables} [Ours tb] {e : Env} {below : List Frame} {T target : State} {m : MethodId} {c : Code} {pc : Nat} {ls : Array Slot} {st : List Value} {o : Int} {pc' : Nat} {cd : ClassFile.ACond} {x y : Value} (h : At T m c below) (hx : tb.exec = Jvm.exec) (hd : decode c.code pc = .ok (.if_acmp cd o, 3)) (hx' : x.isRef = true) (hy' : y.isRef = true) (hc : XT.acmp cd x y = true) (ho : 0 ≤ (pc : Int) + o) (hp : ((pc : Int) + o).toNat = pc') (hr : Steps tb e below (T.setTop (mkF m pc' ls st)) target) : Steps tb e below (T.setTop (mkF m pc ls (y :: x :: st))) target := XT.acmpYes (g := mkF m pc ls (y :: x :: st)) h hx rfl rfl hd rfl hx' hy' hc ho hp hr
theorem o_acmpNo {tb : Tables} [Ours tb] {e : Env} {below : List Frame} {T target : State} {m : MethodId} {c : Code} {pc : Nat} {ls : Array Slot} {st : List Value} {o : Int} {cd : ClassFile.ACond} {x y : Value} (h : At T m c below) (hx : tb.exec = Jvm.exec) (hd : decode c.code pc = .ok (.if_acmp cd o, 3)) (hx' : x.isRef = true) (hy' : y.isRef = true) (hc : XT.acmp cd x y = false) (hr : Steps tb e below (T.setTop (mkF m (pc + 3) ls st)) target) : Steps tb e below (T.setTop (mkF m pc ls (y :: x :: st))) target := XT.acmpNo (g := mkF m pc ls (y :: x :: st)) h hx rfl hd rfl hx' hy' hc hr
open Jvm.FP Jvm.Free.Fl in
def OBd (n : Int) (a : Int64) : Prop := -n ≤ a.toInt ∧ a.toInt ≤ n
theorem own_bd_b53 {n : Int} {a : Int64} (h : OBd n a) (q : n < 9007199254740992) : B53 a := ⟨by have := h.1; omega, by have := h.2; omega⟩
theorem own_bd_add {n m : Int} {a b : Int64} (h : OBd n a) (g : OBd m b) (q : n + m < 9007199254740992) : OBd (n + m) (a + b) := by
  obtain ⟨h1, h2⟩ := h
  obtain ⟨g1, g2⟩ := g
  have e : (a + b).toInt = a.toInt + b.toInt := by rw [Int64.toInt_add]; exact Int.bmod_eq_of_le (by omega) (by omega)
  exact ⟨by rw [e]; omega, by rw [e]; omega⟩
theorem own_bd_i (x : Int32) : OBd 2147483648 x.toInt64 := by
  have h1 := x.toInt_lt; have h2 := x.le_toInt
  exact ⟨by rw [Int32.toInt_toInt64]; omega, by rw [Int32.toInt_toInt64]; omega⟩
theorem own_bd_lit0 : OBd 0 (0 : Int64) := ⟨by decide, by decide⟩
theorem own_bd_lit1 : OBd 1 (1 : Int64) := ⟨by decide, by decide⟩
theorem own_dconst0 : FP.dconst0 = FP.l2d 0 := by decide +kernel
theorem own_dconst1 : FP.dconst1 = FP.l2d 1 := by decide +kernel
theorem own_dadd0 {a : Int64} (h : B53 a) : FP.dadd (FP.l2d a) (FP.l2d 0) = FP.l2d a := by
  rw [dadd_w h (own_bd_b53 own_bd_lit0 (by decide)), Int64.add_zero]
theorem own_irr (a : Int64) : ¬ a < a := by rw [Int64.lt_iff_toInt_lt]; omega
theorem own_asymm {a b : Int64} (h : a < b) : ¬ b < a := by
  rw [Int64.lt_iff_toInt_lt] at *; omega
theorem own_c3 (x : Int32) : x &&& 3 = 0 ∨ x &&& 3 = 1 ∨ x &&& 3 = 2 ∨ x &&& 3 = 3 := by
  have h := c_mask x 3 2 (by decide) (by decide)
  have e : ∀ k : Int32, (x &&& 3).toInt = k.toInt → x &&& 3 = k := fun k q => Int32.toInt_inj.mp q
  have h0 : (x &&& 3).toInt = 0 ∨ (x &&& 3).toInt = 1 ∨ (x &&& 3).toInt = 2 ∨ (x &&& 3).toInt = 3 := by omega
  rcases h0 with q | q | q | q
  · exact Or.inl (e 0 q)
  · exact Or.inr (Or.inl (e 1 q))
  · exact Or.inr (Or.inr (Or.inl (e 2 q)))
  · exact Or.inr (Or.inr (Or.inr (e 3 q)))
section DI
open Jvm.FP
theorem own_dneg_int {i : Int} {a : UInt64} (ha : Core.DInt i a) : Core.DInt (-i) (FP.dneg a) := by
  unfold Core.DInt at *
  rw [FP.val64_dneg]
  exact Core.whole_negate ha
theorem own_cmp_int {a b : Int64} {d e : UInt64} (ha : Core.DInt a.toInt d) (hb : Core.DInt b.toInt e) (o : CmpOp) : cmpValue (FP.dcmp d e) o = XT.cmpL a b := by
  rw [show FP.dcmp d e = some (compare a.toInt b.toInt) from Core.dcmp_int ha hb]
  unfold XT.cmpL
  by_cases h1 : a.toInt < b.toInt
  · have h2 : ¬ b < a := by rw [Int64.lt_iff_toInt_lt]; omega
    have h3 : ¬ a = b := fun q => by rw [q] at h1; omega
    rw [if_neg h2, if_neg h3, show compare a.toInt b.toInt = .lt from Int.compare_eq_lt.mpr h1]; rfl
  · by_cases h4 : a.toInt = b.toInt
    · have h5 : a = b := Int64.toInt_inj.mp h4
      subst h5
      have h2 : ¬ a < a := by rw [Int64.lt_iff_toInt_lt]; omega
      rw [if_neg h2, if_pos rfl, show compare a.toInt a.toInt = .eq from Int.compare_eq_eq.mpr rfl]; rfl
    · have h2 : b < a := by rw [Int64.lt_iff_toInt_lt]; omega
      rw [if_pos h2, show compare a.toInt b.toInt = .gt from Int.compare_eq_gt.mpr (by omega)]; rfl
theorem own_l2d_int {a : Int64} (h : B53 a) : Core.DInt a.toInt (FP.l2d a) := Core.l2d_int (by have := h.1; have := h.2; omega)
end DI

section Neg
open Jvm.FP
theorem own_dnn (x : UInt64) : FP.dneg (FP.dneg x) = x := by
  show (x ^^^ 0x8000000000000000) ^^^ 0x8000000000000000 = x
  rw [UInt64.xor_assoc, UInt64.xor_self, UInt64.xor_zero]
theorem own_neg64 {a : Int64} (h : B53 a) : (-a).toInt = -a.toInt := by
  have q := c_lneg a
  have r := rng64 (-a)
  have := h.1; have := h.2
  omega
theorem own_dcmp_neg {a b : Int64} (ha : B53 a) (hb : B53 b) (o : CmpOp) : cmpValue (FP.dcmp (FP.dneg (FP.l2d a)) (FP.dneg (FP.l2d b))) o = XT.cmpL b a := by
  have q1 : Core.DInt (-a).toInt (FP.dneg (FP.l2d a)) := by rw [own_neg64 ha]; exact own_dneg_int (own_l2d_int ha)
  have q2 : Core.DInt (-b).toInt (FP.dneg (FP.l2d b)) := by rw [own_neg64 hb]; exact own_dneg_int (own_l2d_int hb)
  rw [own_cmp_int q1 q2 o]
  unfold XT.cmpL
  have e1 : (-b < -a) ↔ a < b := by rw [Int64.lt_iff_toInt_lt, Int64.lt_iff_toInt_lt, own_neg64 ha, own_neg64 hb]; omega
  have e2 : (-a = -b) ↔ b = a := by rw [← Int64.toInt_inj, ← Int64.toInt_inj, own_neg64 ha, own_neg64 hb]; omega
  simp only [e1, e2]
theorem own_dadd_neg {a : Int64} (ha : B53 a) : FP.dadd (FP.dneg (FP.l2d a)) (FP.l2d a) = FP.l2d 0 := by
  have hd := own_l2d_int ha
  have hn : Core.val64 (FP.l2d a) ≠ .nan := Core.DInt_ne_nan hd
  rw [show FP.dneg (FP.l2d a) = Core.dneg (FP.l2d a) from FP.dneg_core ((Core.notNaN_iff _).mpr hn)]
  show Core.dadd (Core.dneg (FP.l2d a)) (FP.l2d a) = FP.l2d 0
  rw [Core.dadd_comm, ← Core.dsub_eq]
  cases hv : Core.val64 (FP.l2d a) with
  | nan => exact absurd hv hn
  | inf s => unfold Core.DInt at hd; rw [hv] at hd; exact hd.elim
  | fin s c q => rw [Core.dsub_self hv]; exact own_dconst0
end Neg

theorem dA_0 : decode prog_34_method_6_code 0 = .ok (.aload_n 0, 1) := by decide +kernel
theorem dA_1 : decode prog_34_method_6_code 1 = .ok (.getstatic 3, 3) := by decide +kernel
theorem dA_4 : decode prog_34_method_6_code 4 = .ok (.if_acmp .ne 7, 3) := by decide +kernel
theorem dA_7 : decode prog_34_method_6_code 7 = .ok (.dload_n 1, 1) := by decide +kernel
theorem dA_8 : decode prog_34_method_6_code 8 = .ok (.goto 5, 3) := by decide +kernel
theorem dA_13 : decode prog_34_method_6_code 13 = .ok (.dreturn, 1) := by decide +kernel
theorem pn_com_example_pareto_loom_paretoloom_model_Goal : plainName "com/example/pareto_loom/paretoloom/model/Goal" = true := by first | (simp [plainName, overriddenIn]; done) | decide +kernel
theorem efA (m : MethodId) (x0 : Addr) (x1 : UInt64) : entryFrame m #[(.ref x0), (.double x1)] 3 = (mkF m 0 #[.val (.ref x0), .val (.double x1), .second] []) := by first | (simp [entryFrame, mkF, argsToLocals, Value.category]; done) | rfl
def QA (Z : State) (mn : Addr) (qd : UInt64) (h0 : Heap) (n0 : Nat) (v : Option Value) (h : Heap) (L : List Loc) : Prop := v = some (.double qd) ∧ Fr n0 L ∧ h = h0
set_option maxRecDepth 65536 in
set_option maxHeartbeats 40000000 in
theorem rmA (l : Launch) (Z : State) (a0 : Array Value) (hw : ∀ d ∈ tables_1, d.before a0 Z = true) (ws : List Jvm.Cond) (mn : Addr) (qd : UInt64) (h0 : Heap) (n0 : Nat) (Z0 : n0 ≤ h0.size) (pr0 : Sta Z h0 "com/example/pareto_loom/paretoloom/model/Goal" "MIN" "Lcom/example/pareto_loom/paretoloom/model/Goal;" (.ref mn)) :
    MetFree l (⟨"com/example/pareto_loom/paretoloom/model/Goal", "toMinimised", "(D)D"⟩ : MethodName) (head1 (Jvm.Cond.code (⟨"com/example/pareto_loom/paretoloom/model/Goal", "toMinimised", "(D)D"⟩ : MethodName) prog_34_method_6_code 3 (some .double) :: ws) ({ frames := 0, cells := 0, slots := 0, locals := 0 } : Room)) (fun a U => a = #[(.ref mn), (.double qd)] ∧ Z.Warmed39 U.vm ∧ U.heap = h0) (fun _ _ _ _ _ => True) (fun _ U o U' => ∃ v L, o = .returned v ∧ QA Z mn qd h0 n0 v U'.heap L ∧ FrameEnd U o U' L ({ frames := 0, cells := 0, slots := 0, locals := 0 } : Room).cells ({ frames := 0, cells := 0, slots := 0, locals := 0 } : Room).slots) := by
  refine MetFree.of_bodySF (plainFor_of_name pn_com_example_pareto_loom_paretoloom_model_Goal) hisR ?_
  intro p e s m args below meth c s₁ Bd hml0 hP hK
  obtain ⟨rfl, hZ, hh⟩ := hP
  have hx := Bd.exec
  have hby := Bd.bytes
  have hml : c.maxLocals = 3 := hml0
  have hown : s.vm.findClass "com/example/pareto_loom/paretoloom/model/Goal" = some m.cls := findClass_of_methodNamed Bd.named
  have hnm := (name_of_methodNamed Bd.named Bd.method).1
  have X0 : Stand p l e ({ frames := 0, cells := 0, slots := 0, locals := 0 } : Room) s m #[(.ref mn), (.double qd)] below meth c s₁ [] 0 0 := Stand.of_body Bd
  have e0 : s₁.heap = h0 := by rw [← hh, Bd.state]; rfl
  have N0 := Fr.nil n0
  have pre0 : ∀ t, Steps p.tables e below (s₁.setTop (mkF m 0 #[.val (.ref mn), .val (.double qd), .second] [])) t → Steps p.tables e below (s₁.setTop (entryFrame m #[(.ref mn), (.double qd)] 3)) t := fun t k => castTop (efA m mn qd) k
  have cn1 : ∀ t, Steps p.tables e below (s₁.setTop (mkF m 1 #[.val (.ref mn), .val (.double qd), .second] [(.ref mn)])) t → Steps p.tables e below (s₁.setTop (entryFrame m #[(.ref mn), (.double qd)] 3)) t := by
    intro t k
    refine pre0 t ?_
    refine o_aloadN X0.here hx (hb hby dA_0) rfl rfl ?_
    exact k
  obtain ⟨T2, X2, e2, st2⟩ := getS2 X0 hx hZ (host := "") hown (Or.inl (hw _ (List.mem_of_getElem? (i := 8) rfl))) Via.refl e0 pr0 (g := (mkF m 1 #[.val (.ref mn), .val (.double qd), .second] [(.ref mn)])) rfl (hb hby dA_1)
  have cn3 : ∀ t, Steps p.tables e below (T2.setTop (mkF m 4 #[.val (.ref mn), .val (.double qd), .second] [(.ref mn), (.ref mn)])) t → Steps p.tables e below (s₁.setTop (entryFrame m #[(.ref mn), (.double qd)] 3)) t := fun t k => cn1 t (st2 _ k)
  have cn4 : ∀ t, Steps p.tables e below (T2.setTop (mkF m 13 #[.val (.ref mn), .val (.double qd), .second] [(.double qd)])) t → Steps p.tables e below (s₁.setTop (entryFrame m #[(.ref mn), (.double qd)] 3)) t := by
    intro t k
    refine cn3 t ?_
    refine o_acmpNo X2.here hx (hb hby dA_4) rfl rfl (XT.aa_ne_f rfl) ?_
    refine o_dloadN X2.here hx (hb hby dA_7) rfl ?_
    show Steps p.tables e below (T2.setTop (mkF m 8 #[.val (.ref mn), .val (.double qd), .second] [(.double qd)])) _
    refine o_goto X2.here hx (pc' := 13) (hb hby dA_8) (by decide) (by decide) ?_
    exact k
  obtain ⟨fs, hr, hrun, hended, hW, hsame⟩ := X2.leave (v := some (.double qd)) (fun h => by rw [Bd.returns] at h; cases h)
  refine ⟨_, _, cn4 _ ?_, hrun, hended, _, _, rfl, ?_, ⟨_, rfl⟩, hW, hsame.mono (by decide) (by decide)⟩
  · exact retOut X2 hx Bd.returns rfl (Or.inr (Or.inr (Or.inl ⟨rfl, rfl, _, rfl⟩))) (hb hby dA_13) hr
  · show QA Z mn qd h0 n0 _ T2.heap _
    rw [e2]
    exact ⟨rfl, N0, rfl⟩

theorem dB_0 : decode prog_34_method_6_code 0 = .ok (.aload_n 0, 1) := by decide +kernel
theorem dB_1 : decode prog_34_method_6_code 1 = .ok (.getstatic 3, 3) := by decide +kernel
theorem dB_4 : decode prog_34_method_6_code 4 = .ok (.if_acmp .ne 7, 3) := by decide +kernel
theorem dB_11 : decode prog_34_method_6_code 11 = .ok (.dload_n 1, 1) := by decide +kernel
theorem dB_12 : decode prog_34_method_6_code 12 = .ok (.dneg, 1) := by decide +kernel
theorem dB_13 : decode prog_34_method_6_code 13 = .ok (.dreturn, 1) := by decide +kernel
theorem efB (m : MethodId) (x0 : Addr) (x1 : UInt64) : entryFrame m #[(.ref x0), (.double x1)] 3 = (mkF m 0 #[.val (.ref x0), .val (.double x1), .second] []) := by first | (simp [entryFrame, mkF, argsToLocals, Value.category]; done) | rfl
def QB (Z : State) (a1 : Addr) (mn : Addr) (qd : UInt64) (h0 : Heap) (n0 : Nat) (v : Option Value) (h : Heap) (L : List Loc) : Prop := v = some (.double (FP.dneg qd)) ∧ Fr n0 L ∧ h = h0
set_option maxRecDepth 65536 in
set_option maxHeartbeats 40000000 in
theorem rmB (l : Launch) (Z : State) (a0 : Array Value) (hw : ∀ d ∈ tables_1, d.before a0 Z = true) (ws : List Jvm.Cond) (a1 : Addr) (mn : Addr) (qd : UInt64) (h0 : Heap) (n0 : Nat) (Z0 : n0 ≤ h0.size) (pr0 : Sta Z h0 "com/example/pareto_loom/paretoloom/model/Goal" "MIN" "Lcom/example/pareto_loom/paretoloom/model/Goal;" (.ref mn)) (H1 : ¬ a1 = mn) :
    MetFree l (⟨"com/example/pareto_loom/paretoloom/model/Goal", "toMinimised", "(D)D"⟩ : MethodName) (head1 (Jvm.Cond.code (⟨"com/example/pareto_loom/paretoloom/model/Goal", "toMinimised", "(D)D"⟩ : MethodName) prog_34_method_6_code 3 (some .double) :: ws) ({ frames := 0, cells := 0, slots := 0, locals := 0 } : Room)) (fun a U => a = #[(.ref a1), (.double qd)] ∧ Z.Warmed39 U.vm ∧ U.heap = h0) (fun _ _ _ _ _ => True) (fun _ U o U' => ∃ v L, o = .returned v ∧ QB Z a1 mn qd h0 n0 v U'.heap L ∧ FrameEnd U o U' L ({ frames := 0, cells := 0, slots := 0, locals := 0 } : Room).cells ({ frames := 0, cells := 0, slots := 0, locals := 0 } : Room).slots) := by
  refine MetFree.of_bodySF (plainFor_of_name pn_com_example_pareto_loom_paretoloom_model_Goal) hisR ?_
  intro p e s m args below meth c s₁ Bd hml0 hP hK
  obtain ⟨rfl, hZ, hh⟩ := hP
  have hx := Bd.exec
  have hby := Bd.bytes
  have hml : c.maxLocals = 3 := hml0
  have hown : s.vm.findClass "com/example/pareto_loom/paretoloom/model/Goal" = some m.cls := findClass_of_methodNamed Bd.named
  have hnm := (name_of_methodNamed Bd.named Bd.method).1
  have X0 : Stand p l e ({ frames := 0, cells := 0, slots := 0, locals := 0 } : Room) s m #[(.ref a1), (.double qd)] below meth c s₁ [] 0 0 := Stand.of_body Bd
  have e0 : s₁.heap = h0 := by rw [← hh, Bd.state]; rfl
  have N0 := Fr.nil n0
  have pre0 : ∀ t, Steps p.tables e below (s₁.setTop (mkF m 0 #[.val (.ref a1), .val (.double qd), .second] [])) t → Steps p.tables e below (s₁.setTop (entryFrame m #[(.ref a1), (.double qd)] 3)) t := fun t k => castTop (efB m a1 qd) k
  have cn1 : ∀ t, Steps p.tables e below (s₁.setTop (mkF m 1 #[.val (.ref a1), .val (.double qd), .second] [(.ref a1)])) t → Steps p.tables e below (s₁.setTop (entryFrame m #[(.ref a1), (.double qd)] 3)) t := by
    intro t k
    refine pre0 t ?_
    refine o_aloadN X0.here hx (hb hby dB_0) rfl rfl ?_
    exact k
  obtain ⟨T2, X2, e2, st2⟩ := getS2 X0 hx hZ (host := "") hown (Or.inl (hw _ (List.mem_of_getElem? (i := 8) rfl))) Via.refl e0 pr0 (g := (mkF m 1 #[.val (.ref a1), .val (.double qd), .second] [(.ref a1)])) rfl (hb hby dB_1)
  have cn3 : ∀ t, Steps p.tables e below (T2.setTop (mkF m 4 #[.val (.ref a1), .val (.double qd), .second] [(.ref mn), (.ref a1)])) t → Steps p.tables e below (s₁.setTop (entryFrame m #[(.ref a1), (.double qd)] 3)) t := fun t k => cn1 t (st2 _ k)
  have cn4 : ∀ t, Steps p.tables e below (T2.setTop (mkF m 13 #[.val (.ref a1), .val (.double qd), .second] [(.double (FP.dneg qd))])) t → Steps p.tables e below (s₁.setTop (entryFrame m #[(.ref a1), (.double qd)] 3)) t := by
    intro t k
    refine cn3 t ?_
    refine o_acmpYes X2.here hx (pc' := 11) (hb hby dB_4) rfl rfl (XT.aa_ne_t (fun q => H1 (Value.ref.inj q))) (by decide) (by decide) ?_
    refine o_dloadN X2.here hx (hb hby dB_11) rfl ?_
    refine o_dnegS X2.here hx (hb hby dB_12) (v := FP.dneg qd) rfl ?_
    exact k
  obtain ⟨fs, hr, hrun, hended, hW, hsame⟩ := X2.leave (v := some (.double (FP.dneg qd))) (fun h => by rw [Bd.returns] at h; cases h)
  refine ⟨_, _, cn4 _ ?_, hrun, hended, _, _, rfl, ?_, ⟨_, rfl⟩, hW, hsame.mono (by decide) (by decide)⟩
  · exact retOut X2 hx Bd.returns rfl (Or.inr (Or.inr (Or.inl ⟨rfl, rfl, _, rfl⟩))) (hb hby dB_13) hr
  · show QB Z a1 mn qd h0 n0 _ T2.heap _
    rw [e2]
    exact ⟨rfl, N0, rfl⟩

theorem pd_oDcD : parseMethodDescriptor "(D)D" = some ⟨[.double], some .double⟩ := by decide +kernel
theorem pn_com_example_pareto_loom_paretoloom_model_GoalToMinimisedPinLaw : plainName "com/example/pareto_loom/paretoloom/model/GoalToMinimisedPinLaw" = true := by first | (simp [plainName, overriddenIn]; done) | decide +kernel
theorem ef0 (m : MethodId) (x0 : Int32) (x1 : Int32) (x2 : Int32) : entryFrame m #[(.int x0), (.int x1), (.int x2)] maxLocals = (mkF m 0 #[.val (.int x0), .val (.int x1), .val (.int x2), .unset, .unset, .unset, .unset, .unset, .unset, .unset, .unset, .unset, .unset, .unset, .unset, .unset, .unset] []) := by first | (simp [entryFrame, mkF, argsToLocals, Value.category, maxLocals]; done) | rfl
def Q0 (Z : State) (p1 : Int32) (p2 : Int32) (p3 : Int32) (mn : Addr) (mx : Addr) (h0 : Heap) (n0 : Nat) (v : Option Value) (h : Heap) (L : List Loc) : Prop := v = some (.int (1 : Int32)) ∧ Fr n0 L
set_option maxRecDepth 65536 in
set_option maxHeartbeats 40000000 in
theorem rm0 (l : Launch) (Z : State) (a0 : Array Value) (hw : ∀ d ∈ tables_1, d.before a0 Z = true) (ws : List Jvm.Cond) (p1 : Int32) (p2 : Int32) (p3 : Int32) (mn : Addr) (mx : Addr) (h0 : Heap) (n0 : Nat) (Z0 : n0 ≤ h0.size) (pr0 : Sta Z h0 "com/example/pareto_loom/paretoloom/model/Goal" "MIN" "Lcom/example/pareto_loom/paretoloom/model/Goal;" (.ref mn)) (pr1 : Sta Z h0 "com/example/pareto_loom/paretoloom/model/Goal" "MAX" "Lcom/example/pareto_loom/paretoloom/model/Goal;" (.ref mx)) (pr2 : Exa Z h0 mn "com/example/pareto_loom/paretoloom/model/Goal") (pr3 : Exa Z h0 mx "com/example/pareto_loom/paretoloom/model/Goal") (H4 : ¬ mx = mn) :
    MetFree l x (head1 (Jvm.Cond.code x code maxLocals ret :: ws) room_1) (fun a U => a = #[(.int p1), (.int p2), (.int p3)] ∧ Z.Warmed39 U.vm ∧ U.heap = h0) (fun _ _ _ _ _ => True) (fun _ U o U' => ∃ v L, o = .returned v ∧ Q0 Z p1 p2 p3 mn mx h0 n0 v U'.heap L ∧ FrameEnd U o U' L room_1.cells room_1.slots) := by
  refine MetFree.of_bodySF (plainFor_of_name pn_com_example_pareto_loom_paretoloom_model_GoalToMinimisedPinLaw) hisR ?_
  intro p e s m args below meth c s₁ Bd hml0 hP hK
  obtain ⟨rfl, hZ, hh⟩ := hP
  have hx := Bd.exec
  have hby := Bd.bytes
  have hml : c.maxLocals = 17 := hml0
  have hown : s.vm.findClass "com/example/pareto_loom/paretoloom/model/GoalToMinimisedPinLaw" = some m.cls := findClass_of_methodNamed Bd.named
  have hnm := (name_of_methodNamed Bd.named Bd.method).1
  have X0 : Stand p l e room_1 s m #[(.int p1), (.int p2), (.int p3)] below meth c s₁ [] 0 0 := Stand.of_body Bd
  have e0 : s₁.heap = h0 := by rw [← hh, Bd.state]; rfl
  have N0 := Fr.nil n0
  have pre0 : ∀ t, Steps p.tables e below (s₁.setTop (mkF m 0 #[.val (.int p1), .val (.int p2), .val (.int p3), .unset, .unset, .unset, .unset, .unset, .unset, .unset, .unset, .unset, .unset, .unset, .unset, .unset, .unset] [])) t → Steps p.tables e below (s₁.setTop (entryFrame m #[(.int p1), (.int p2), (.int p3)] maxLocals)) t := fun t k => castTop (ef0 m p1 p2 p3) k
  have cn1 : ∀ t, Steps p.tables e below (s₁.setTop (mkF m 3 #[.val (.int p1), .val (.int p2), .val (.int p3), .unset, .unset, .unset, .unset, .unset, .unset, .unset, .unset, .unset, .unset, .unset, .unset, .unset, .unset] [(.int (p3 &&& (1 : Int32)))])) t → Steps p.tables e below (s₁.setTop (entryFrame m #[(.int p1), (.int p2), (.int p3)] maxLocals)) t := by
    intro t k
    refine pre0 t ?_
    refine o_iloadN X0.here hx (hb hby at_0) rfl ?_
    refine o_iconstV X0.here hx (1 : Int32) (hb hby at_1) rfl ?_
    refine o_iand X0.here hx (hb hby at_2) ?_
    exact k
  by_cases h3_2 : p3 &&& (1 : Int32) = 0
  · -- pc 3 not taken
    have cn3 : ∀ t, Steps p.tables e below (s₁.setTop (mkF m 6 #[.val (.int p1), .val (.int p2), .val (.int p3), .unset, .unset, .unset, .unset, .unset, .unset, .unset, .unset, .unset, .unset, .unset, .unset, .unset, .unset] [])) t → Steps p.tables e below (s₁.setTop (entryFrame m #[(.int p1), (.int p2), (.int p3)] maxLocals)) t := by
      intro t k
      refine cn1 t ?_
      refine o_ifNo X0.here hx (hb hby at_3) (XT.i0_ne_f h3_2) ?_
      exact k
    obtain ⟨T4, X4, e4, st4⟩ := getS2 X0 hx hZ (host := "") hown (Or.inl (hw _ (List.mem_of_getElem? (i := 0) rfl))) Via.refl e0 pr0 (g := (mkF m 6 #[.val (.int p1), .val (.int p2), .val (.int p3), .unset, .unset, .unset, .unset, .unset, .unset, .unset, .unset, .unset, .unset, .unset, .unset, .unset, .unset] [])) rfl (hb hby at_6)
    have cn5 : ∀ t, Steps p.tables e below (T4.setTop (mkF m 9 #[.val (.int p1), .val (.int p2), .val (.int p3), .unset, .unset, .unset, .unset, .unset, .unset, .unset, .unset, .unset, .unset, .unset, .unset, .unset, .unset] [(.ref mn)])) t → Steps p.tables e below (s₁.setTop (entryFrame m #[(.int p1), (.int p2), (.int p3)] maxLocals)) t := fun t k => cn3 t (st4 _ k)
    have cn6 : ∀ t, Steps p.tables e below (T4.setTop (mkF m 27 #[.val (.int p1), .val (.int p2), .val (.int p3), .val (.ref mn), .val (.double (FP.l2d (p1.toInt64))), .second, .val (.double (FP.l2d (p2.toInt64))), .second, .unset, .unset, .unset, .unset, .unset, .unset, .unset, .unset, .unset] [(.double (FP.l2d (p1.toInt64))), (.ref mn)])) t → Steps p.tables e below (s₁.setTop (entryFrame m #[(.int p1), (.int p2), (.int p3)] maxLocals)) t := by
      intro t k
      refine cn5 t ?_
      show Steps p.tables e below (T4.setTop (mkF m 9 #[.val (.int p1), .val (.int p2), .val (.int p3), .unset, .unset, .unset, .unset, .unset, .unset, .unset, .unset, .unset, .unset, .unset, .unset, .unset, .unset] [(.ref mn)])) _
      refine o_goto X4.here hx (pc' := 15) (hb hby at_9) (by decide) (by decide) ?_
      refine o_astoreN X4.here hx (hb hby at_15) rfl (l' := #[.val (.int p1), .val (.int p2), .val (.int p3), .val (.ref mn), .unset, .unset, .unset, .unset, .unset, .unset, .unset, .unset, .unset, .unset, .unset, .unset, .unset]) rfl ?_
      refine o_iloadN X4.here hx (hb hby at_16) rfl ?_
      refine o_i2dS X4.here hx (hb hby at_17) (v := FP.l2d (p1.toInt64)) (i2d_w _) ?_
      refine o_dstore X4.here hx (hb hby at_18) (l' := #[.val (.int p1), .val (.int p2), .val (.int p3), .val (.ref mn), .val (.double (FP.l2d (p1.toInt64))), .second, .unset, .unset, .unset, .unset, .unset, .unset, .unset, .unset, .unset, .unset, .unset]) rfl ?_
      refine o_iloadN X4.here hx (hb hby at_20) rfl ?_
      refine o_i2dS X4.here hx (hb hby at_21) (v := FP.l2d (p2.toInt64)) (i2d_w _) ?_
      refine o_dstore X4.here hx (hb hby at_22) (l' := #[.val (.int p1), .val (.int p2), .val (.int p3), .val (.ref mn), .val (.double (FP.l2d (p1.toInt64))), .second, .val (.double (FP.l2d (p2.toInt64))), .second, .unset, .unset, .unset, .unset, .unset, .unset, .unset, .unset, .unset]) rfl ?_
      refine o_aloadN X4.here hx (hb hby at_24) rfl rfl ?_
      refine o_dload X4.here hx (hb hby at_25) rfl ?_
      exact k
    obtain ⟨cq7, kq7, q7a, q7b, q7c⟩ := isOf hZ e4 pr2
    obtain ⟨_, _, ⟨T7, L7, c7, n7⟩, -, X7, ⟨Lc7, hQ7, l7, y7, z7⟩, st7⟩ := X4.virtualBack hx (y := (⟨"com/example/pareto_loom/paretoloom/model/Goal", "toMinimised", "(D)D"⟩ : MethodName)) (z := (⟨"com/example/pareto_loom/paretoloom/model/Goal", "toMinimised", "(D)D"⟩ : MethodName)) hown (mvT hZ (hw _ (List.mem_of_getElem? (i := 3) rfl))) (mvT hZ (hw _ (List.mem_of_getElem? (i := 4) rfl))) (notFace_of_selects (args := #[]) (mvT hZ (hw _ (List.mem_of_getElem? (i := 6) rfl)))) (mvT hZ (hw _ (List.mem_of_getElem? (i := 6) rfl))) (mvT hZ (hw _ (List.mem_of_getElem? (i := 5) rfl))) (by decide) (backOf (W := 0) (rmA l Z a0 hw [] mn (FP.l2d (p1.toInt64)) h0 n0 Z0 pr0) hZ (hw _ (List.mem_of_getElem? (i := 7) rfl)) (hw _ (List.mem_of_getElem? (i := 1) rfl)) (by decide) (by decide)) q7a q7c (g := (mkF m 27 #[.val (.int p1), .val (.int p2), .val (.int p3), .val (.ref mn), .val (.double (FP.l2d (p1.toInt64))), .second, .val (.double (FP.l2d (p2.toInt64))), .second, .unset, .unset, .unset, .unset, .unset, .unset, .unset, .unset, .unset] [(.double (FP.l2d (p1.toInt64))), (.ref mn)])) rfl (by rw [hml]; rfl) (Steps.refl _) (argsL := [(.double (FP.l2d (p1.toInt64)))]) (rest := []) (lenOf pd_oDcD rfl) rfl (by show 2 * 0 + _ ≤ _; exact Nat.le_of_eq rfl) (hb hby at_27) (fun _ _ => ⟨rfl, e4, (by decide : 0 + 0 ≤ _), (by decide : 0 + 0 ≤ _)⟩)
    dsimp only [Pt.U, Pt.locs, Pt.cells, Pt.slots] at X7 l7 y7 z7 st7 hQ7
    subst l7 y7 z7
    obtain ⟨rfl, N7a, eh7⟩ := hQ7
    have N7 := Fr.app N0 N7a
    have e7 : T7.heap = h0 := eh7
    have cn8 : ∀ t, Steps p.tables e below (T7.setTop (mkF m 30 #[.val (.int p1), .val (.int p2), .val (.int p3), .val (.ref mn), .val (.double (FP.l2d (p1.toInt64))), .second, .val (.double (FP.l2d (p2.toInt64))), .second, .unset, .unset, .unset, .unset, .unset, .unset, .unset, .unset, .unset] [(.double (FP.l2d (p1.toInt64)))])) t → Steps p.tables e below (s₁.setTop (entryFrame m #[(.int p1), (.int p2), (.int p3)] maxLocals)) t := fun t k => cn6 t (st7.trans k)
    have cn9 : ∀ t, Steps p.tables e below (T7.setTop (mkF m 35 #[.val (.int p1), .val (.int p2), .val (.int p3), .val (.ref mn), .val (.double (FP.l2d (p1.toInt64))), .second, .val (.double (FP.l2d (p2.toInt64))), .second, .val (.double (FP.l2d (p1.toInt64))), .second, .unset, .unset, .unset, .unset, .unset, .unset, .unset] [(.double (FP.l2d (p2.toInt64))), (.ref mn)])) t → Steps p.tables e below (s₁.setTop (entryFrame m #[(.int p1), (.int p2), (.int p3)] maxLocals)) t := by
      intro t k
      refine cn8 t ?_
      refine o_dstore X7.here hx (hb hby at_30) (l' := #[.val (.int p1), .val (.int p2), .val (.int p3), .val (.ref mn), .val (.double (FP.l2d (p1.toInt64))), .second, .val (.double (FP.l2d (p2.toInt64))), .second, .val (.double (FP.l2d (p1.toInt64))), .second, .unset, .unset, .unset, .unset, .unset, .unset, .unset]) rfl ?_
      refine o_aloadN X7.here hx (hb hby at_32) rfl rfl ?_
      refine o_dload X7.here hx (hb hby at_33) rfl ?_
      exact k
    obtain ⟨cq10, kq10, q10a, q10b, q10c⟩ := isOf hZ e7 pr2
    obtain ⟨_, _, ⟨T10, L10, c10, n10⟩, -, X10, ⟨Lc10, hQ10, l10, y10, z10⟩, st10⟩ := X7.virtualBack hx (y := (⟨"com/example/pareto_loom/paretoloom/model/Goal", "toMinimised", "(D)D"⟩ : MethodName)) (z := (⟨"com/example/pareto_loom/paretoloom/model/Goal", "toMinimised", "(D)D"⟩ : MethodName)) hown (mvT hZ (hw _ (List.mem_of_getElem? (i := 3) rfl))) (mvT hZ (hw _ (List.mem_of_getElem? (i := 4) rfl))) (notFace_of_selects (args := #[]) (mvT hZ (hw _ (List.mem_of_getElem? (i := 6) rfl)))) (mvT hZ (hw _ (List.mem_of_getElem? (i := 6) rfl))) (mvT hZ (hw _ (List.mem_of_getElem? (i := 5) rfl))) (by decide) (backOf (W := 0) (rmA l Z a0 hw [] mn (FP.l2d (p2.toInt64)) h0 n0 Z0 pr0) hZ (hw _ (List.mem_of_getElem? (i := 7) rfl)) (hw _ (List.mem_of_getElem? (i := 1) rfl)) (by decide) (by decide)) q10a q10c (g := (mkF m 35 #[.val (.int p1), .val (.int p2), .val (.int p3), .val (.ref mn), .val (.double (FP.l2d (p1.toInt64))), .second, .val (.double (FP.l2d (p2.toInt64))), .second, .val (.double (FP.l2d (p1.toInt64))), .second, .unset, .unset, .unset, .unset, .unset, .unset, .unset] [(.double (FP.l2d (p2.toInt64))), (.ref mn)])) rfl (by rw [hml]; rfl) (Steps.refl _) (argsL := [(.double (FP.l2d (p2.toInt64)))]) (rest := []) (lenOf pd_oDcD rfl) rfl (by show 2 * 0 + _ ≤ _; exact Nat.le_of_eq rfl) (hb hby at_35) (fun _ _ => ⟨rfl, e7, (by decide : 0 + 0 ≤ _), (by decide : 0 + 0 ≤ _)⟩)
    dsimp only [Pt.U, Pt.locs, Pt.cells, Pt.slots] at X10 l10 y10 z10 st10 hQ10
    subst l10 y10 z10
    obtain ⟨rfl, N10a, eh10⟩ := hQ10
    have N10 := Fr.app N7 N10a
    have e10 : T10.heap = h0 := eh10
    have cn11 : ∀ t, Steps p.tables e below (T10.setTop (mkF m 38 #[.val (.int p1), .val (.int p2), .val (.int p3), .val (.ref mn), .val (.double (FP.l2d (p1.toInt64))), .second, .val (.double (FP.l2d (p2.toInt64))), .second, .val (.double (FP.l2d (p1.toInt64))), .second, .unset, .unset, .unset, .unset, .unset, .unset, .unset] [(.double (FP.l2d (p2.toInt64)))])) t → Steps p.tables e below (s₁.setTop (entryFrame m #[(.int p1), (.int p2), (.int p3)] maxLocals)) t := fun t k => cn9 t (st10.trans k)
    have cn12 : ∀ t, Steps p.tables e below (T10.setTop (mkF m 43 #[.val (.int p1), .val (.int p2), .val (.int p3), .val (.ref mn), .val (.double (FP.l2d (p1.toInt64))), .second, .val (.double (FP.l2d (p2.toInt64))), .second, .val (.double (FP.l2d (p1.toInt64))), .second, .val (.double (FP.l2d (p2.toInt64))), .second, .unset, .unset, .unset, .unset, .unset] [(.double (FP.l2d (p1.toInt64))), (.ref mn)])) t → Steps p.tables e below (s₁.setTop (entryFrame m #[(.int p1), (.int p2), (.int p3)] maxLocals)) t := by
      intro t k
      refine cn11 t ?_
      refine o_dstore X10.here hx (hb hby at_38) (l' := #[.val (.int p1), .val (.int p2), .val (.int p3), .val (.ref mn), .val (.double (FP.l2d (p1.toInt64))), .second, .val (.double (FP.l2d (p2.toInt64))), .second, .val (.double (FP.l2d (p1.toInt64))), .second, .val (.double (FP.l2d (p2.toInt64))), .second, .unset, .unset, .unset, .unset, .unset]) rfl ?_
      refine o_aloadN X10.here hx (hb hby at_40) rfl rfl ?_
      refine o_dload X10.here hx (hb hby at_41) rfl ?_
      exact k
    obtain ⟨cq13, kq13, q13a, q13b, q13c⟩ := isOf hZ e10 pr2
    obtain ⟨_, _, ⟨T13, L13, c13, n13⟩, -, X13, ⟨Lc13, hQ13, l13, y13, z13⟩, st13⟩ := X10.virtualBack hx (y := (⟨"com/example/pareto_loom/paretoloom/model/Goal", "toMinimised", "(D)D"⟩ : MethodName)) (z := (⟨"com/example/pareto_loom/paretoloom/model/Goal", "toMinimised", "(D)D"⟩ : MethodName)) hown (mvT hZ (hw _ (List.mem_of_getElem? (i := 3) rfl))) (mvT hZ (hw _ (List.mem_of_getElem? (i := 4) rfl))) (notFace_of_selects (args := #[]) (mvT hZ (hw _ (List.mem_of_getElem? (i := 6) rfl)))) (mvT hZ (hw _ (List.mem_of_getElem? (i := 6) rfl))) (mvT hZ (hw _ (List.mem_of_getElem? (i := 5) rfl))) (by decide) (backOf (W := 0) (rmA l Z a0 hw [] mn (FP.l2d (p1.toInt64)) h0 n0 Z0 pr0) hZ (hw _ (List.mem_of_getElem? (i := 7) rfl)) (hw _ (List.mem_of_getElem? (i := 1) rfl)) (by decide) (by decide)) q13a q13c (g := (mkF m 43 #[.val (.int p1), .val (.int p2), .val (.int p3), .val (.ref mn), .val (.double (FP.l2d (p1.toInt64))), .second, .val (.double (FP.l2d (p2.toInt64))), .second, .val (.double (FP.l2d (p1.toInt64))), .second, .val (.double (FP.l2d (p2.toInt64))), .second, .unset, .unset, .unset, .unset, .unset] [(.double (FP.l2d (p1.toInt64))), (.ref mn)])) rfl (by rw [hml]; rfl) (Steps.refl _) (argsL := [(.double (FP.l2d (p1.toInt64)))]) (rest := []) (lenOf pd_oDcD rfl) rfl (by show 2 * 0 + _ ≤ _; exact Nat.le_of_eq rfl) (hb hby at_43) (fun _ _ => ⟨rfl, e10, (by decide : 0 + 0 ≤ _), (by decide : 0 + 0 ≤ _)⟩)
    dsimp only [Pt.U, Pt.locs, Pt.cells, Pt.slots] at X13 l13 y13 z13 st13 hQ13
    subst l13 y13 z13
    obtain ⟨rfl, N13a, eh13⟩ := hQ13
    have N13 := Fr.app N10 N13a
    have e13 : T13.heap = h0 := eh13
    have cn14 : ∀ t, Steps p.tables e below (T13.setTop (mkF m 46 #[.val (.int p1), .val (.int p2), .val (.int p3), .val (.ref mn), .val (.double (FP.l2d (p1.toInt64))), .second, .val (.double (FP.l2d (p2.toInt64))), .second, .val (.double (FP.l2d (p1.toInt64))), .second, .val (.double (FP.l2d (p2.toInt64))), .second, .unset, .unset, .unset, .unset, .unset] [(.double (FP.l2d (p1.toInt64)))])) t → Steps p.tables e below (s₁.setTop (entryFrame m #[(.int p1), (.int p2), (.int p3)] maxLocals)) t := fun t k => cn12 t (st13.trans k)
    have cn15 : ∀ t, Steps p.tables e below (T13.setTop (mkF m 64 #[.val (.int p1), .val (.int p2), .val (.int p3), .val (.ref mn), .val (.double (FP.l2d (p1.toInt64))), .second, .val (.double (FP.l2d (p2.toInt64))), .second, .val (.double (FP.l2d (p1.toInt64))), .second, .val (.double (FP.l2d (p2.toInt64))), .second, .val (.double (FP.l2d (p1.toInt64))), .second, .val (.int (1 : Int32)), .unset, .unset] [(.ref mn)])) t → Steps p.tables e below (s₁.setTop (entryFrame m #[(.int p1), (.int p2), (.int p3)] maxLocals)) t := by
      intro t k
      refine cn14 t ?_
      refine o_dstore X13.here hx (hb hby at_46) (l' := #[.val (.int p1), .val (.int p2), .val (.int p3), .val (.ref mn), .val (.double (FP.l2d (p1.toInt64))), .second, .val (.double (FP.l2d (p2.toInt64))), .second, .val (.double (FP.l2d (p1.toInt64))), .second, .val (.double (FP.l2d (p2.toInt64))), .second, .val (.double (FP.l2d (p1.toInt64))), .second, .unset, .unset, .unset]) rfl ?_
      refine o_dload X13.here hx (hb hby at_48) rfl ?_
      refine o_dload X13.here hx (hb hby at_50) rfl ?_
      refine o_dcmpS X13.here hx (hb hby at_52) (v := XT.cmpL (p1.toInt64) (p1.toInt64)) (dcmpV_w (own_bd_b53 (own_bd_i p1) (by decide)) (own_bd_b53 (own_bd_i p1) (by decide)) _) ?_
      show Steps p.tables e below (T13.setTop (mkF m 53 #[.val (.int p1), .val (.int p2), .val (.int p3), .val (.ref mn), .val (.double (FP.l2d (p1.toInt64))), .second, .val (.double (FP.l2d (p2.toInt64))), .second, .val (.double (FP.l2d (p1.toInt64))), .second, .val (.double (FP.l2d (p2.toInt64))), .second, .val (.double (FP.l2d (p1.toInt64))), .second, .unset, .unset, .unset] [(.int (XT.cmpL (p1.toInt64) (p1.toInt64)))])) _
      refine o_ifNo X13.here hx (hb hby at_53) (XT.ll_ne_f rfl) ?_
      refine o_iconstV X13.here hx (1 : Int32) (hb hby at_56) rfl ?_
      show Steps p.tables e below (T13.setTop (mkF m 57 #[.val (.int p1), .val (.int p2), .val (.int p3), .val (.ref mn), .val (.double (FP.l2d (p1.toInt64))), .second, .val (.double (FP.l2d (p2.toInt64))), .second, .val (.double (FP.l2d (p1.toInt64))), .second, .val (.double (FP.l2d (p2.toInt64))), .second, .val (.double (FP.l2d (p1.toInt64))), .second, .unset, .unset, .unset] [(.int (1 : Int32))])) _
      refine o_goto X13.here hx (pc' := 61) (hb hby at_57) (by decide) (by decide) ?_
      refine o_istore X13.here hx (hb hby at_61) (l' := #[.val (.int p1), .val (.int p2), .val (.int p3), .val (.ref mn), .val (.double (FP.l2d (p1.toInt64))), .second, .val (.double (FP.l2d (p2.toInt64))), .second, .val (.double (FP.l2d (p1.toInt64))), .second, .val (.double (FP.l2d (p2.toInt64))), .second, .val (.double (FP.l2d (p1.toInt64))), .second, .val (.int (1 : Int32)), .unset, .unset]) rfl ?_
      refine o_aloadN X13.here hx (hb hby at_63) rfl rfl ?_
      exact k
    obtain ⟨T16, X16, e16, st16⟩ := getS2 X13 hx hZ (host := "") hown (Or.inl (hw _ (List.mem_of_getElem? (i := 0) rfl))) Via.refl e13 pr0 (g := (mkF m 64 #[.val (.int p1), .val (.int p2), .val (.int p3), .val (.ref mn), .val (.double (FP.l2d (p1.toInt64))), .second, .val (.double (FP.l2d (p2.toInt64))), .second, .val (.double (FP.l2d (p1.toInt64))), .second, .val (.double (FP.l2d (p2.toInt64))), .second, .val (.double (FP.l2d (p1.toInt64))), .second, .val (.int (1 : Int32)), .unset, .unset] [(.ref mn)])) rfl (hb hby at_64)
    have cn17 : ∀ t, Steps p.tables e below (T16.setTop (mkF m 67 #[.val (.int p1), .val (.int p2), .val (.int p3), .val (.ref mn), .val (.double (FP.l2d (p1.toInt64))), .second, .val (.double (FP.l2d (p2.toInt64))), .second, .val (.double (FP.l2d (p1.toInt64))), .second, .val (.double (FP.l2d (p2.toInt64))), .second, .val (.double (FP.l2d (p1.toInt64))), .second, .val (.int (1 : Int32)), .unset, .unset] [(.ref mn), (.ref mn)])) t → Steps p.tables e below (s₁.setTop (entryFrame m #[(.int p1), (.int p2), (.int p3)] maxLocals)) t := fun t k => cn15 t (st16 _ k)
    have cn18 : ∀ t, Steps p.tables e below (T16.setTop (mkF m 96 #[.val (.int p1), .val (.int p2), .val (.int p3), .val (.ref mn), .val (.double (FP.l2d (p1.toInt64))), .second, .val (.double (FP.l2d (p2.toInt64))), .second, .val (.double (FP.l2d (p1.toInt64))), .second, .val (.double (FP.l2d (p2.toInt64))), .second, .val (.double (FP.l2d (p1.toInt64))), .second, .val (.int (1 : Int32)), .unset, .unset] [(.int (1 : Int32))])) t → Steps p.tables e below (s₁.setTop (entryFrame m #[(.int p1), (.int p2), (.int p3)] maxLocals)) t := by
      intro t k
      refine cn17 t ?_
      refine o_acmpNo X16.here hx (hb hby at_67) rfl rfl (XT.aa_ne_f rfl) ?_
      refine o_iload X16.here hx (hb hby at_70) rfl ?_
      show Steps p.tables e below (T16.setTop (mkF m 72 #[.val (.int p1), .val (.int p2), .val (.int p3), .val (.ref mn), .val (.double (FP.l2d (p1.toInt64))), .second, .val (.double (FP.l2d (p2.toInt64))), .second, .val (.double (FP.l2d (p1.toInt64))), .second, .val (.double (FP.l2d (p2.toInt64))), .second, .val (.double (FP.l2d (p1.toInt64))), .second, .val (.int (1 : Int32)), .unset, .unset] [(.int (1 : Int32))])) _
      refine o_ifNo X16.here hx (hb hby at_72) (by decide) ?_
      refine o_dload X16.here hx (hb hby at_75) rfl ?_
      refine o_dload X16.here hx (hb hby at_77) rfl ?_
      refine o_dcmpS X16.here hx (hb hby at_79) (v := XT.cmpL (p1.toInt64) (p1.toInt64)) (dcmpV_w (own_bd_b53 (own_bd_i p1) (by decide)) (own_bd_b53 (own_bd_i p1) (by decide)) _) ?_
      show Steps p.tables e below (T16.setTop (mkF m 80 #[.val (.int p1), .val (.int p2), .val (.int p3), .val (.ref mn), .val (.double (FP.l2d (p1.toInt64))), .second, .val (.double (FP.l2d (p2.toInt64))), .second, .val (.double (FP.l2d (p1.toInt64))), .second, .val (.double (FP.l2d (p2.toInt64))), .second, .val (.double (FP.l2d (p1.toInt64))), .second, .val (.int (1 : Int32)), .unset, .unset] [(.int (XT.cmpL (p1.toInt64) (p1.toInt64)))])) _
      refine o_ifNo X16.here hx (hb hby at_80) (XT.ll_ne_f rfl) ?_
      refine o_dload X16.here hx (hb hby at_83) rfl ?_
      refine o_dload X16.here hx (hb hby at_85) rfl ?_
      refine o_dcmpS X16.here hx (hb hby at_87) (v := XT.cmpL (p2.toInt64) (p2.toInt64)) (dcmpV_w (own_bd_b53 (own_bd_i p2) (by decide)) (own_bd_b53 (own_bd_i p2) (by decide)) _) ?_
      show Steps p.tables e below (T16.setTop (mkF m 88 #[.val (.int p1), .val (.int p2), .val (.int p3), .val (.ref mn), .val (.double (FP.l2d (p1.toInt64))), .second, .val (.double (FP.l2d (p2.toInt64))), .second, .val (.double (FP.l2d (p1.toInt64))), .second, .val (.double (FP.l2d (p2.toInt64))), .second, .val (.double (FP.l2d (p1.toInt64))), .second, .val (.int (1 : Int32)), .unset, .unset] [(.int (XT.cmpL (p2.toInt64) (p2.toInt64)))])) _
      refine o_ifNo X16.here hx (hb hby at_88) (XT.ll_ne_f rfl) ?_
      refine o_iconstV X16.here hx (1 : Int32) (hb hby at_91) rfl ?_
      show Steps p.tables e below (T16.setTop (mkF m 92 #[.val (.int p1), .val (.int p2), .val (.int p3), .val (.ref mn), .val (.double (FP.l2d (p1.toInt64))), .second, .val (.double (FP.l2d (p2.toInt64))), .second, .val (.double (FP.l2d (p1.toInt64))), .second, .val (.double (FP.l2d (p2.toInt64))), .second, .val (.double (FP.l2d (p1.toInt64))), .second, .val (.int (1 : Int32)), .unset, .unset] [(.int (1 : Int32))])) _
      refine o_goto X16.here hx (pc' := 96) (hb hby at_92) (by decide) (by decide) ?_
      exact k
    obtain ⟨fs, hr, hrun, hended, hW, hsame⟩ := X16.leave (v := some (.int (1 : Int32))) (fun h => by rw [Bd.returns] at h; cases h)
    refine ⟨_, _, cn18 _ ?_, hrun, hended, _, _, rfl, ?_, ⟨_, rfl⟩, hW, hsame.mono (by decide) (by decide)⟩
    · exact retN X16 hx (t := .boolean) Bd.returns (by simp) (hb hby at_96) hr
    · show Q0 Z p1 p2 p3 mn mx h0 n0 _ T16.heap _
      rw [e16]
      exact ⟨rfl, N13⟩
  · -- pc 3 taken
    have cn19 : ∀ t, Steps p.tables e below (s₁.setTop (mkF m 12 #[.val (.int p1), .val (.int p2), .val (.int p3), .unset, .unset, .unset, .unset, .unset, .unset, .unset, .unset, .unset, .unset, .unset, .unset, .unset, .unset] [])) t → Steps p.tables e below (s₁.setTop (entryFrame m #[(.int p1), (.int p2), (.int p3)] maxLocals)) t := by
      intro t k
      refine cn1 t ?_
      refine o_ifYes X0.here hx (pc' := 12) (hb hby at_3) (XT.i0_ne_t h3_2) (by decide) (by decide) ?_
      exact k
    obtain ⟨T20, X20, e20, st20⟩ := getS2 X0 hx hZ (host := "") hown (Or.inl (hw _ (List.mem_of_getElem? (i := 9) rfl))) Via.refl e0 pr1 (g := (mkF m 12 #[.val (.int p1), .val (.int p2), .val (.int p3), .unset, .unset, .unset, .unset, .unset, .unset, .unset, .unset, .unset, .unset, .unset, .unset, .unset, .unset] [])) rfl (hb hby at_12)
    have cn21 : ∀ t, Steps p.tables e below (T20.setTop (mkF m 15 #[.val (.int p1), .val (.int p2), .val (.int p3), .unset, .unset, .unset, .unset, .unset, .unset, .unset, .unset, .unset, .unset, .unset, .unset, .unset, .unset] [(.ref mx)])) t → Steps p.tables e below (s₁.setTop (entryFrame m #[(.int p1), (.int p2), (.int p3)] maxLocals)) t := fun t k => cn19 t (st20 _ k)
    have cn22 : ∀ t, Steps p.tables e below (T20.setTop (mkF m 27 #[.val (.int p1), .val (.int p2), .val (.int p3), .val (.ref mx), .val (.double (FP.l2d (p1.toInt64))), .second, .val (.double (FP.l2d (p2.toInt64))), .second, .unset, .unset, .unset, .unset, .unset, .unset, .unset, .unset, .unset] [(.double (FP.l2d (p1.toInt64))), (.ref mx)])) t → Steps p.tables e below (s₁.setTop (entryFrame m #[(.int p1), (.int p2), (.int p3)] maxLocals)) t := by
      intro t k
      refine cn21 t ?_
      refine o_astoreN X20.here hx (hb hby at_15) rfl (l' := #[.val (.int p1), .val (.int p2), .val (.int p3), .val (.ref mx), .unset, .unset, .unset, .unset, .unset, .unset, .unset, .unset, .unset, .unset, .unset, .unset, .unset]) rfl ?_
      refine o_iloadN X20.here hx (hb hby at_16) rfl ?_
      refine o_i2dS X20.here hx (hb hby at_17) (v := FP.l2d (p1.toInt64)) (i2d_w _) ?_
      refine o_dstore X20.here hx (hb hby at_18) (l' := #[.val (.int p1), .val (.int p2), .val (.int p3), .val (.ref mx), .val (.double (FP.l2d (p1.toInt64))), .second, .unset, .unset, .unset, .unset, .unset, .unset, .unset, .unset, .unset, .unset, .unset]) rfl ?_
      refine o_iloadN X20.here hx (hb hby at_20) rfl ?_
      refine o_i2dS X20.here hx (hb hby at_21) (v := FP.l2d (p2.toInt64)) (i2d_w _) ?_
      refine o_dstore X20.here hx (hb hby at_22) (l' := #[.val (.int p1), .val (.int p2), .val (.int p3), .val (.ref mx), .val (.double (FP.l2d (p1.toInt64))), .second, .val (.double (FP.l2d (p2.toInt64))), .second, .unset, .unset, .unset, .unset, .unset, .unset, .unset, .unset, .unset]) rfl ?_
      refine o_aloadN X20.here hx (hb hby at_24) rfl rfl ?_
      refine o_dload X20.here hx (hb hby at_25) rfl ?_
      exact k
    obtain ⟨cq23, kq23, q23a, q23b, q23c⟩ := isOf hZ e20 pr3
    obtain ⟨_, _, ⟨T23, L23, c23, n23⟩, -, X23, ⟨Lc23, hQ23, l23, y23, z23⟩, st23⟩ := X20.virtualBack hx (y := (⟨"com/example/pareto_loom/paretoloom/model/Goal", "toMinimised", "(D)D"⟩ : MethodName)) (z := (⟨"com/example/pareto_loom/paretoloom/model/Goal", "toMinimised", "(D)D"⟩ : MethodName)) hown (mvT hZ (hw _ (List.mem_of_getElem? (i := 3) rfl))) (mvT hZ (hw _ (List.mem_of_getElem? (i := 4) rfl))) (notFace_of_selects (args := #[]) (mvT hZ (hw _ (List.mem_of_getElem? (i := 6) rfl)))) (mvT hZ (hw _ (List.mem_of_getElem? (i := 6) rfl))) (mvT hZ (hw _ (List.mem_of_getElem? (i := 5) rfl))) (by decide) (backOf (W := 0) (rmB l Z a0 hw [] mx mn (FP.l2d (p1.toInt64)) h0 n0 Z0 pr0 H4) hZ (hw _ (List.mem_of_getElem? (i := 7) rfl)) (hw _ (List.mem_of_getElem? (i := 1) rfl)) (by decide) (by decide)) q23a q23c (g := (mkF m 27 #[.val (.int p1), .val (.int p2), .val (.int p3), .val (.ref mx), .val (.double (FP.l2d (p1.toInt64))), .second, .val (.double (FP.l2d (p2.toInt64))), .second, .unset, .unset, .unset, .unset, .unset, .unset, .unset, .unset, .unset] [(.double (FP.l2d (p1.toInt64))), (.ref mx)])) rfl (by rw [hml]; rfl) (Steps.refl _) (argsL := [(.double (FP.l2d (p1.toInt64)))]) (rest := []) (lenOf pd_oDcD rfl) rfl (by show 2 * 0 + _ ≤ _; exact Nat.le_of_eq rfl) (hb hby at_27) (fun _ _ => ⟨rfl, e20, (by decide : 0 + 0 ≤ _), (by decide : 0 + 0 ≤ _)⟩)
    dsimp only [Pt.U, Pt.locs, Pt.cells, Pt.slots] at X23 l23 y23 z23 st23 hQ23
    subst l23 y23 z23
    obtain ⟨rfl, N23a, eh23⟩ := hQ23
    have N23 := Fr.app N0 N23a
    have e23 : T23.heap = h0 := eh23
    have cn24 : ∀ t, Steps p.tables e below (T23.setTop (mkF m 30 #[.val (.int p1), .val (.int p2), .val (.int p3), .val (.ref mx), .val (.double (FP.l2d (p1.toInt64))), .second, .val (.double (FP.l2d (p2.toInt64))), .second, .unset, .unset, .unset, .unset, .unset, .unset, .unset, .unset, .unset] [(.double (FP.dneg (FP.l2d (p1.toInt64))))])) t → Steps p.tables e below (s₁.setTop (entryFrame m #[(.int p1), (.int p2), (.int p3)] maxLocals)) t := fun t k => cn22 t (st23.trans k)
    have cn25 : ∀ t, Steps p.tables e below (T23.setTop (mkF m 35 #[.val (.int p1), .val (.int p2), .val (.int p3), .val (.ref mx), .val (.double (FP.l2d (p1.toInt64))), .second, .val (.double (FP.l2d (p2.toInt64))), .second, .val (.double (FP.dneg (FP.l2d (p1.toInt64)))), .second, .unset, .unset, .unset, .unset, .unset, .unset, .unset] [(.double (FP.l2d (p2.toInt64))), (.ref mx)])) t → Steps p.tables e below (s₁.setTop (entryFrame m #[(.int p1), (.int p2), (.int p3)] maxLocals)) t := by
      intro t k
      refine cn24 t ?_
      refine o_dstore X23.here hx (hb hby at_30) (l' := #[.val (.int p1), .val (.int p2), .val (.int p3), .val (.ref mx), .val (.double (FP.l2d (p1.toInt64))), .second, .val (.double (FP.l2d (p2.toInt64))), .second, .val (.double (FP.dneg (FP.l2d (p1.toInt64)))), .second, .unset, .unset, .unset, .unset, .unset, .unset, .unset]) rfl ?_
      refine o_aloadN X23.here hx (hb hby at_32) rfl rfl ?_
      refine o_dload X23.here hx (hb hby at_33) rfl ?_
      exact k
    obtain ⟨cq26, kq26, q26a, q26b, q26c⟩ := isOf hZ e23 pr3
    obtain ⟨_, _, ⟨T26, L26, c26, n26⟩, -, X26, ⟨Lc26, hQ26, l26, y26, z26⟩, st26⟩ := X23.virtualBack hx (y := (⟨"com/example/pareto_loom/paretoloom/model/Goal", "toMinimised", "(D)D"⟩ : MethodName)) (z := (⟨"com/example/pareto_loom/paretoloom/model/Goal", "toMinimised", "(D)D"⟩ : MethodName)) hown (mvT hZ (hw _ (List.mem_of_getElem? (i := 3) rfl))) (mvT hZ (hw _ (List.mem_of_getElem? (i := 4) rfl))) (notFace_of_selects (args := #[]) (mvT hZ (hw _ (List.mem_of_getElem? (i := 6) rfl)))) (mvT hZ (hw _ (List.mem_of_getElem? (i := 6) rfl))) (mvT hZ (hw _ (List.mem_of_getElem? (i := 5) rfl))) (by decide) (backOf (W := 0) (rmB l Z a0 hw [] mx mn (FP.l2d (p2.toInt64)) h0 n0 Z0 pr0 H4) hZ (hw _ (List.mem_of_getElem? (i := 7) rfl)) (hw _ (List.mem_of_getElem? (i := 1) rfl)) (by decide) (by decide)) q26a q26c (g := (mkF m 35 #[.val (.int p1), .val (.int p2), .val (.int p3), .val (.ref mx), .val (.double (FP.l2d (p1.toInt64))), .second, .val (.double (FP.l2d (p2.toInt64))), .second, .val (.double (FP.dneg (FP.l2d (p1.toInt64)))), .second, .unset, .unset, .unset, .unset, .unset, .unset, .unset] [(.double (FP.l2d (p2.toInt64))), (.ref mx)])) rfl (by rw [hml]; rfl) (Steps.refl _) (argsL := [(.double (FP.l2d (p2.toInt64)))]) (rest := []) (lenOf pd_oDcD rfl) rfl (by show 2 * 0 + _ ≤ _; exact Nat.le_of_eq rfl) (hb hby at_35) (fun _ _ => ⟨rfl, e23, (by decide : 0 + 0 ≤ _), (by decide : 0 + 0 ≤ _)⟩)
    dsimp only [Pt.U, Pt.locs, Pt.cells, Pt.slots] at X26 l26 y26 z26 st26 hQ26
    subst l26 y26 z26
    obtain ⟨rfl, N26a, eh26⟩ := hQ26
    have N26 := Fr.app N23 N26a
    have e26 : T26.heap = h0 := eh26
    have cn27 : ∀ t, Steps p.tables e below (T26.setTop (mkF m 38 #[.val (.int p1), .val (.int p2), .val (.int p3), .val (.ref mx), .val (.double (FP.l2d (p1.toInt64))), .second, .val (.double (FP.l2d (p2.toInt64))), .second, .val (.double (FP.dneg (FP.l2d (p1.toInt64)))), .second, .unset, .unset, .unset, .unset, .unset, .unset, .unset] [(.double (FP.dneg (FP.l2d (p2.toInt64))))])) t → Steps p.tables e below (s₁.setTop (entryFrame m #[(.int p1), (.int p2), (.int p3)] maxLocals)) t := fun t k => cn25 t (st26.trans k)
    have cn28 : ∀ t, Steps p.tables e below (T26.setTop (mkF m 43 #[.val (.int p1), .val (.int p2), .val (.int p3), .val (.ref mx), .val (.double (FP.l2d (p1.toInt64))), .second, .val (.double (FP.l2d (p2.toInt64))), .second, .val (.double (FP.dneg (FP.l2d (p1.toInt64)))), .second, .val (.double (FP.dneg (FP.l2d (p2.toInt64)))), .second, .unset, .unset, .unset, .unset, .unset] [(.double (FP.dneg (FP.l2d (p1.toInt64)))), (.ref mx)])) t → Steps p.tables e below (s₁.setTop (entryFrame m #[(.int p1), (.int p2), (.int p3)] maxLocals)) t := by
      intro t k
      refine cn27 t ?_
      refine o_dstore X26.here hx (hb hby at_38) (l' := #[.val (.int p1), .val (.int p2), .val (.int p3), .val (.ref mx), .val (.double (FP.l2d (p1.toInt64))), .second, .val (.double (FP.l2d (p2.toInt64))), .second, .val (.double (FP.dneg (FP.l2d (p1.toInt64)))), .second, .val (.double (FP.dneg (FP.l2d (p2.toInt64)))), .second, .unset, .unset, .unset, .unset, .unset]) rfl ?_
      refine o_aloadN X26.here hx (hb hby at_40) rfl rfl ?_
      refine o_dload X26.here hx (hb hby at_41) rfl ?_
      exact k
    obtain ⟨cq29, kq29, q29a, q29b, q29c⟩ := isOf hZ e26 pr3
    obtain ⟨_, _, ⟨T29, L29, c29, n29⟩, -, X29, ⟨Lc29, hQ29, l29, y29, z29⟩, st29⟩ := X26.virtualBack hx (y := (⟨"com/example/pareto_loom/paretoloom/model/Goal", "toMinimised", "(D)D"⟩ : MethodName)) (z := (⟨"com/example/pareto_loom/paretoloom/model/Goal", "toMinimised", "(D)D"⟩ : MethodName)) hown (mvT hZ (hw _ (List.mem_of_getElem? (i := 3) rfl))) (mvT hZ (hw _ (List.mem_of_getElem? (i := 4) rfl))) (notFace_of_selects (args := #[]) (mvT hZ (hw _ (List.mem_of_getElem? (i := 6) rfl)))) (mvT hZ (hw _ (List.mem_of_getElem? (i := 6) rfl))) (mvT hZ (hw _ (List.mem_of_getElem? (i := 5) rfl))) (by decide) (backOf (W := 0) (rmB l Z a0 hw [] mx mn (FP.dneg (FP.l2d (p1.toInt64))) h0 n0 Z0 pr0 H4) hZ (hw _ (List.mem_of_getElem? (i := 7) rfl)) (hw _ (List.mem_of_getElem? (i := 1) rfl)) (by decide) (by decide)) q29a q29c (g := (mkF m 43 #[.val (.int p1), .val (.int p2), .val (.int p3), .val (.ref mx), .val (.double (FP.l2d (p1.toInt64))), .second, .val (.double (FP.l2d (p2.toInt64))), .second, .val (.double (FP.dneg (FP.l2d (p1.toInt64)))), .second, .val (.double (FP.dneg (FP.l2d (p2.toInt64)))), .second, .unset, .unset, .unset, .unset, .unset] [(.double (FP.dneg (FP.l2d (p1.toInt64)))), (.ref mx)])) rfl (by rw [hml]; rfl) (Steps.refl _) (argsL := [(.double (FP.dneg (FP.l2d (p1.toInt64))))]) (rest := []) (lenOf pd_oDcD rfl) rfl (by show 2 * 0 + _ ≤ _; exact Nat.le_of_eq rfl) (hb hby at_43) (fun _ _ => ⟨rfl, e26, (by decide : 0 + 0 ≤ _), (by decide : 0 + 0 ≤ _)⟩)
    dsimp only [Pt.U, Pt.locs, Pt.cells, Pt.slots] at X29 l29 y29 z29 st29 hQ29
    subst l29 y29 z29
    obtain ⟨rfl, N29a, eh29⟩ := hQ29
    have N29 := Fr.app N26 N29a
    have e29 : T29.heap = h0 := eh29
    have cn30 : ∀ t, Steps p.tables e below (T29.setTop (mkF m 46 #[.val (.int p1), .val (.int p2), .val (.int p3), .val (.ref mx), .val (.double (FP.l2d (p1.toInt64))), .second, .val (.double (FP.l2d (p2.toInt64))), .second, .val (.double (FP.dneg (FP.l2d (p1.toInt64)))), .second, .val (.double (FP.dneg (FP.l2d (p2.toInt64)))), .second, .unset, .unset, .unset, .unset, .unset] [(.double (FP.dneg (FP.dneg (FP.l2d (p1.toInt64)))))])) t → Steps p.tables e below (s₁.setTop (entryFrame m #[(.int p1), (.int p2), (.int p3)] maxLocals)) t := fun t k => cn28 t (st29.trans k)
    have cn31 : ∀ t, Steps p.tables e below (T29.setTop (mkF m 64 #[.val (.int p1), .val (.int p2), .val (.int p3), .val (.ref mx), .val (.double (FP.l2d (p1.toInt64))), .second, .val (.double (FP.l2d (p2.toInt64))), .second, .val (.double (FP.dneg (FP.l2d (p1.toInt64)))), .second, .val (.double (FP.dneg (FP.l2d (p2.toInt64)))), .second, .val (.double (FP.l2d (p1.toInt64))), .second, .val (.int (1 : Int32)), .unset, .unset] [(.ref mx)])) t → Steps p.tables e below (s₁.setTop (entryFrame m #[(.int p1), (.int p2), (.int p3)] maxLocals)) t := by
      intro t k
      refine cn30 t ?_
      rw [(own_dnn _)]
      refine o_dstore X29.here hx (hb hby at_46) (l' := #[.val (.int p1), .val (.int p2), .val (.int p3), .val (.ref mx), .val (.double (FP.l2d (p1.toInt64))), .second, .val (.double (FP.l2d (p2.toInt64))), .second, .val (.double (FP.dneg (FP.l2d (p1.toInt64)))), .second, .val (.double (FP.dneg (FP.l2d (p2.toInt64)))), .second, .val (.double (FP.l2d (p1.toInt64))), .second, .unset, .unset, .unset]) rfl ?_
      refine o_dload X29.here hx (hb hby at_48) rfl ?_
      refine o_dload X29.here hx (hb hby at_50) rfl ?_
      refine o_dcmpS X29.here hx (hb hby at_52) (v := XT.cmpL (p1.toInt64) (p1.toInt64)) (dcmpV_w (own_bd_b53 (own_bd_i p1) (by decide)) (own_bd_b53 (own_bd_i p1) (by decide)) _) ?_
      show Steps p.tables e below (T29.setTop (mkF m 53 #[.val (.int p1), .val (.int p2), .val (.int p3), .val (.ref mx), .val (.double (FP.l2d (p1.toInt64))), .second, .val (.double (FP.l2d (p2.toInt64))), .second, .val (.double (FP.dneg (FP.l2d (p1.toInt64)))), .second, .val (.double (FP.dneg (FP.l2d (p2.toInt64)))), .second, .val (.double (FP.l2d (p1.toInt64))), .second, .unset, .unset, .unset] [(.int (XT.cmpL (p1.toInt64) (p1.toInt64)))])) _
      refine o_ifNo X29.here hx (hb hby at_53) (XT.ll_ne_f rfl) ?_
      refine o_iconstV X29.here hx (1 : Int32) (hb hby at_56) rfl ?_
      show Steps p.tables e below (T29.setTop (mkF m 57 #[.val (.int p1), .val (.int p2), .val (.int p3), .val (.ref mx), .val (.double (FP.l2d (p1.toInt64))), .second, .val (.double (FP.l2d (p2.toInt64))), .second, .val (.double (FP.dneg (FP.l2d (p1.toInt64)))), .second, .val (.double (FP.dneg (FP.l2d (p2.toInt64)))), .second, .val (.double (FP.l2d (p1.toInt64))), .second, .unset, .unset, .unset] [(.int (1 : Int32))])) _
      refine o_goto X29.here hx (pc' := 61) (hb hby at_57) (by decide) (by decide) ?_
      refine o_istore X29.here hx (hb hby at_61) (l' := #[.val (.int p1), .val (.int p2), .val (.int p3), .val (.ref mx), .val (.double (FP.l2d (p1.toInt64))), .second, .val (.double (FP.l2d (p2.toInt64))), .second, .val (.double (FP.dneg (FP.l2d (p1.toInt64)))), .second, .val (.double (FP.dneg (FP.l2d (p2.toInt64)))), .second, .val (.double (FP.l2d (p1.toInt64))), .second, .val (.int (1 : Int32)), .unset, .unset]) rfl ?_
      refine o_aloadN X29.here hx (hb hby at_63) rfl rfl ?_
      exact k
    obtain ⟨T32, X32, e32, st32⟩ := getS2 X29 hx hZ (host := "") hown (Or.inl (hw _ (List.mem_of_getElem? (i := 0) rfl))) Via.refl e29 pr0 (g := (mkF m 64 #[.val (.int p1), .val (.int p2), .val (.int p3), .val (.ref mx), .val (.double (FP.l2d (p1.toInt64))), .second, .val (.double (FP.l2d (p2.toInt64))), .second, .val (.double (FP.dneg (FP.l2d (p1.toInt64)))), .second, .val (.double (FP.dneg (FP.l2d (p2.toInt64)))), .second, .val (.double (FP.l2d (p1.toInt64))), .second, .val (.int (1 : Int32)), .unset, .unset] [(.ref mx)])) rfl (hb hby at_64)
    have cn33 : ∀ t, Steps p.tables e below (T32.setTop (mkF m 67 #[.val (.int p1), .val (.int p2), .val (.int p3), .val (.ref mx), .val (.double (FP.l2d (p1.toInt64))), .second, .val (.double (FP.l2d (p2.toInt64))), .second, .val (.double (FP.dneg (FP.l2d (p1.toInt64)))), .second, .val (.double (FP.dneg (FP.l2d (p2.toInt64)))), .second, .val (.double (FP.l2d (p1.toInt64))), .second, .val (.int (1 : Int32)), .unset, .unset] [(.ref mn), (.ref mx)])) t → Steps p.tables e below (s₁.setTop (entryFrame m #[(.int p1), (.int p2), (.int p3)] maxLocals)) t := fun t k => cn31 t (st32 _ k)
    have cn34 : ∀ t, Steps p.tables e below (T32.setTop (mkF m 102 #[.val (.int p1), .val (.int p2), .val (.int p3), .val (.ref mx), .val (.double (FP.l2d (p1.toInt64))), .second, .val (.double (FP.l2d (p2.toInt64))), .second, .val (.double (FP.dneg (FP.l2d (p1.toInt64)))), .second, .val (.double (FP.dneg (FP.l2d (p2.toInt64)))), .second, .val (.double (FP.l2d (p1.toInt64))), .second, .val (.int (1 : Int32)), .unset, .unset] [(.int (XT.cmpL (p1.toInt64) (p2.toInt64)))])) t → Steps p.tables e below (s₁.setTop (entryFrame m #[(.int p1), (.int p2), (.int p3)] maxLocals)) t := by
      intro t k
      refine cn33 t ?_
      refine o_acmpYes X32.here hx (pc' := 97) (hb hby at_67) rfl rfl (XT.aa_ne_t (fun q => H4 (Value.ref.inj q))) (by decide) (by decide) ?_
      refine o_dload X32.here hx (hb hby at_97) rfl ?_
      refine o_dload X32.here hx (hb hby at_99) rfl ?_
      refine o_dcmpS X32.here hx (hb hby at_101) (v := XT.cmpL (p1.toInt64) (p2.toInt64)) (dcmpV_w (own_bd_b53 (own_bd_i p1) (by decide)) (own_bd_b53 (own_bd_i p2) (by decide)) _) ?_
      exact k
    by_cases h102_35 : (p1.toInt64) < (p2.toInt64)
    · -- pc 102 not taken
      have cn36 : ∀ t, Steps p.tables e below (T32.setTop (mkF m 209 #[.val (.int p1), .val (.int p2), .val (.int p3), .val (.ref mx), .val (.double (FP.l2d (p1.toInt64))), .second, .val (.double (FP.l2d (p2.toInt64))), .second, .val (.double (FP.dneg (FP.l2d (p1.toInt64)))), .second, .val (.double (FP.dneg (FP.l2d (p2.toInt64)))), .second, .val (.double (FP.l2d (p1.toInt64))), .second, .val (.int (1 : Int32)), .val (.int (1 : Int32)), .val (.int (1 : Int32))] [(.int (1 : Int32))])) t → Steps p.tables e below (s₁.setTop (entryFrame m #[(.int p1), (.int p2), (.int p3)] maxLocals)) t := by
        intro t k
        refine cn34 t ?_
        refine o_ifNo X32.here hx (hb hby at_102) (XT.ll_ge_f h102_35) ?_
        refine o_iconstV X32.here hx (1 : Int32) (hb hby at_105) rfl ?_
        show Steps p.tables e below (T32.setTop (mkF m 106 #[.val (.int p1), .val (.int p2), .val (.int p3), .val (.ref mx), .val (.double (FP.l2d (p1.toInt64))), .second, .val (.double (FP.l2d (p2.toInt64))), .second, .val (.double (FP.dneg (FP.l2d (p1.toInt64)))), .second, .val (.double (FP.dneg (FP.l2d (p2.toInt64)))), .second, .val (.double (FP.l2d (p1.toInt64))), .second, .val (.int (1 : Int32)), .unset, .unset] [(.int (1 : Int32))])) _
        refine o_goto X32.here hx (pc' := 110) (hb hby at_106) (by decide) (by decide) ?_
        refine o_dload X32.here hx (hb hby at_110) rfl ?_
        refine o_dload X32.here hx (hb hby at_112) rfl ?_
        refine o_dcmpS X32.here hx (hb hby at_114) (v := XT.cmpL (p1.toInt64) (p2.toInt64)) (own_dcmp_neg (own_bd_b53 (own_bd_i p2) (by decide)) (own_bd_b53 (own_bd_i p1) (by decide)) _) ?_
        show Steps p.tables e below (T32.setTop (mkF m 115 #[.val (.int p1), .val (.int p2), .val (.int p3), .val (.ref mx), .val (.double (FP.l2d (p1.toInt64))), .second, .val (.double (FP.l2d (p2.toInt64))), .second, .val (.double (FP.dneg (FP.l2d (p1.toInt64)))), .second, .val (.double (FP.dneg (FP.l2d (p2.toInt64)))), .second, .val (.double (FP.l2d (p1.toInt64))), .second, .val (.int (1 : Int32)), .unset, .unset] [(.int (XT.cmpL (p1.toInt64) (p2.toInt64))), (.int (1 : Int32))])) _
        refine o_ifNo X32.here hx (hb hby at_115) (XT.ll_ge_f h102_35) ?_
        refine o_iconstV X32.here hx (1 : Int32) (hb hby at_118) rfl ?_
        show Steps p.tables e below (T32.setTop (mkF m 119 #[.val (.int p1), .val (.int p2), .val (.int p3), .val (.ref mx), .val (.double (FP.l2d (p1.toInt64))), .second, .val (.double (FP.l2d (p2.toInt64))), .second, .val (.double (FP.dneg (FP.l2d (p1.toInt64)))), .second, .val (.double (FP.dneg (FP.l2d (p2.toInt64)))), .second, .val (.double (FP.l2d (p1.toInt64))), .second, .val (.int (1 : Int32)), .unset, .unset] [(.int (1 : Int32)), (.int (1 : Int32))])) _
        refine o_goto X32.here hx (pc' := 123) (hb hby at_119) (by decide) (by decide) ?_
        show Steps p.tables e below (T32.setTop (mkF m 123 #[.val (.int p1), .val (.int p2), .val (.int p3), .val (.ref mx), .val (.double (FP.l2d (p1.toInt64))), .second, .val (.double (FP.l2d (p2.toInt64))), .second, .val (.double (FP.dneg (FP.l2d (p1.toInt64)))), .second, .val (.double (FP.dneg (FP.l2d (p2.toInt64)))), .second, .val (.double (FP.l2d (p1.toInt64))), .second, .val (.int (1 : Int32)), .unset, .unset] [(.int (1 : Int32)), (.int (1 : Int32))])) _
        refine o_icmpNo X32.here hx (hb hby at_123) (XT.ii_ne_f rfl) ?_
        refine o_dload X32.here hx (hb hby at_126) rfl ?_
        refine o_dload X32.here hx (hb hby at_128) rfl ?_
        refine o_dcmpS X32.here hx (hb hby at_130) (v := XT.cmpL (p2.toInt64) (p1.toInt64)) (dcmpV_w (own_bd_b53 (own_bd_i p2) (by decide)) (own_bd_b53 (own_bd_i p1) (by decide)) _) ?_
        show Steps p.tables e below (T32.setTop (mkF m 131 #[.val (.int p1), .val (.int p2), .val (.int p3), .val (.ref mx), .val (.double (FP.l2d (p1.toInt64))), .second, .val (.double (FP.l2d (p2.toInt64))), .second, .val (.double (FP.dneg (FP.l2d (p1.toInt64)))), .second, .val (.double (FP.dneg (FP.l2d (p2.toInt64)))), .second, .val (.double (FP.l2d (p1.toInt64))), .second, .val (.int (1 : Int32)), .unset, .unset] [(.int (XT.cmpL (p2.toInt64) (p1.toInt64)))])) _
        refine o_ifYes X32.here hx (pc' := 138) (hb hby at_131) (XT.ll_ge_t (own_asymm h102_35)) (by decide) (by decide) ?_
        refine o_iconstV X32.here hx (0 : Int32) (hb hby at_138) rfl ?_
        refine o_dload X32.here hx (hb hby at_139) rfl ?_
        refine o_dload X32.here hx (hb hby at_141) rfl ?_
        refine o_dcmpS X32.here hx (hb hby at_143) (v := XT.cmpL (p2.toInt64) (p1.toInt64)) (own_dcmp_neg (own_bd_b53 (own_bd_i p1) (by decide)) (own_bd_b53 (own_bd_i p2) (by decide)) _) ?_
        show Steps p.tables e below (T32.setTop (mkF m 144 #[.val (.int p1), .val (.int p2), .val (.int p3), .val (.ref mx), .val (.double (FP.l2d (p1.toInt64))), .second, .val (.double (FP.l2d (p2.toInt64))), .second, .val (.double (FP.dneg (FP.l2d (p1.toInt64)))), .second, .val (.double (FP.dneg (FP.l2d (p2.toInt64)))), .second, .val (.double (FP.l2d (p1.toInt64))), .second, .val (.int (1 : Int32)), .unset, .unset] [(.int (XT.cmpL (p2.toInt64) (p1.toInt64))), (.int (0 : Int32))])) _
        refine o_ifYes X32.here hx (pc' := 151) (hb hby at_144) (XT.ll_ge_t (own_asymm h102_35)) (by decide) (by decide) ?_
        refine o_iconstV X32.here hx (0 : Int32) (hb hby at_151) rfl ?_
        show Steps p.tables e below (T32.setTop (mkF m 152 #[.val (.int p1), .val (.int p2), .val (.int p3), .val (.ref mx), .val (.double (FP.l2d (p1.toInt64))), .second, .val (.double (FP.l2d (p2.toInt64))), .second, .val (.double (FP.dneg (FP.l2d (p1.toInt64)))), .second, .val (.double (FP.dneg (FP.l2d (p2.toInt64)))), .second, .val (.double (FP.l2d (p1.toInt64))), .second, .val (.int (1 : Int32)), .unset, .unset] [(.int (0 : Int32)), (.int (0 : Int32))])) _
        refine o_icmpNo X32.here hx (hb hby at_152) (XT.ii_ne_f rfl) ?_
        refine o_iconstV X32.here hx (1 : Int32) (hb hby at_155) rfl ?_
        show Steps p.tables e below (T32.setTop (mkF m 156 #[.val (.int p1), .val (.int p2), .val (.int p3), .val (.ref mx), .val (.double (FP.l2d (p1.toInt64))), .second, .val (.double (FP.l2d (p2.toInt64))), .second, .val (.double (FP.dneg (FP.l2d (p1.toInt64)))), .second, .val (.double (FP.dneg (FP.l2d (p2.toInt64)))), .second, .val (.double (FP.l2d (p1.toInt64))), .second, .val (.int (1 : Int32)), .unset, .unset] [(.int (1 : Int32))])) _
        refine o_goto X32.here hx (pc' := 160) (hb hby at_156) (by decide) (by decide) ?_
        refine o_istore X32.here hx (hb hby at_160) (l' := #[.val (.int p1), .val (.int p2), .val (.int p3), .val (.ref mx), .val (.double (FP.l2d (p1.toInt64))), .second, .val (.double (FP.l2d (p2.toInt64))), .second, .val (.double (FP.dneg (FP.l2d (p1.toInt64)))), .second, .val (.double (FP.dneg (FP.l2d (p2.toInt64)))), .second, .val (.double (FP.l2d (p1.toInt64))), .second, .val (.int (1 : Int32)), .val (.int (1 : Int32)), .unset]) rfl ?_
        refine o_dload X32.here hx (hb hby at_162) rfl ?_
        refine o_dload X32.here hx (hb hby at_164) rfl ?_
        refine o_daddS X32.here hx (hb hby at_166) (nn_w (own_dadd_neg (own_bd_b53 (own_bd_i p1) (by decide)))) (v := FP.l2d (0 : Int64)) (own_dadd_neg (own_bd_b53 (own_bd_i p1) (by decide))) ?_
        refine o_dconst0 X32.here hx (hb hby at_167) (v := FP.l2d (0 : Int64)) own_dconst0 ?_
        refine o_dcmpS X32.here hx (hb hby at_168) (v := XT.cmpL (0 : Int64) (0 : Int64)) (dcmpV_w (own_bd_b53 (own_bd_lit0) (by decide)) (own_bd_b53 (own_bd_lit0) (by decide)) _) ?_
        show Steps p.tables e below (T32.setTop (mkF m 169 #[.val (.int p1), .val (.int p2), .val (.int p3), .val (.ref mx), .val (.double (FP.l2d (p1.toInt64))), .second, .val (.double (FP.l2d (p2.toInt64))), .second, .val (.double (FP.dneg (FP.l2d (p1.toInt64)))), .second, .val (.double (FP.dneg (FP.l2d (p2.toInt64)))), .second, .val (.double (FP.l2d (p1.toInt64))), .second, .val (.int (1 : Int32)), .val (.int (1 : Int32)), .unset] [(.int (XT.cmpL (0 : Int64) (0 : Int64)))])) _
        refine o_ifNo X32.here hx (hb hby at_169) (XT.ll_ne_f rfl) ?_
        refine o_dload X32.here hx (hb hby at_172) rfl ?_
        refine o_dload X32.here hx (hb hby at_174) rfl ?_
        refine o_daddS X32.here hx (hb hby at_176) (nn_w (own_dadd_neg (own_bd_b53 (own_bd_i p2) (by decide)))) (v := FP.l2d (0 : Int64)) (own_dadd_neg (own_bd_b53 (own_bd_i p2) (by decide))) ?_
        refine o_dconst0 X32.here hx (hb hby at_177) (v := FP.l2d (0 : Int64)) own_dconst0 ?_
        refine o_dcmpS X32.here hx (hb hby at_178) (v := XT.cmpL (0 : Int64) (0 : Int64)) (dcmpV_w (own_bd_b53 (own_bd_lit0) (by decide)) (own_bd_b53 (own_bd_lit0) (by decide)) _) ?_
        show Steps p.tables e below (T32.setTop (mkF m 179 #[.val (.int p1), .val (.int p2), .val (.int p3), .val (.ref mx), .val (.double (FP.l2d (p1.toInt64))), .second, .val (.double (FP.l2d (p2.toInt64))), .second, .val (.double (FP.dneg (FP.l2d (p1.toInt64)))), .second, .val (.double (FP.dneg (FP.l2d (p2.toInt64)))), .second, .val (.double (FP.l2d (p1.toInt64))), .second, .val (.int (1 : Int32)), .val (.int (1 : Int32)), .unset] [(.int (XT.cmpL (0 : Int64) (0 : Int64)))])) _
        refine o_ifNo X32.here hx (hb hby at_179) (XT.ll_ne_f rfl) ?_
        refine o_iconstV X32.here hx (1 : Int32) (hb hby at_182) rfl ?_
        show Steps p.tables e below (T32.setTop (mkF m 183 #[.val (.int p1), .val (.int p2), .val (.int p3), .val (.ref mx), .val (.double (FP.l2d (p1.toInt64))), .second, .val (.double (FP.l2d (p2.toInt64))), .second, .val (.double (FP.dneg (FP.l2d (p1.toInt64)))), .second, .val (.double (FP.dneg (FP.l2d (p2.toInt64)))), .second, .val (.double (FP.l2d (p1.toInt64))), .second, .val (.int (1 : Int32)), .val (.int (1 : Int32)), .unset] [(.int (1 : Int32))])) _
        refine o_goto X32.here hx (pc' := 187) (hb hby at_183) (by decide) (by decide) ?_
        refine o_istore X32.here hx (hb hby at_187) (l' := #[.val (.int p1), .val (.int p2), .val (.int p3), .val (.ref mx), .val (.double (FP.l2d (p1.toInt64))), .second, .val (.double (FP.l2d (p2.toInt64))), .second, .val (.double (FP.dneg (FP.l2d (p1.toInt64)))), .second, .val (.double (FP.dneg (FP.l2d (p2.toInt64)))), .second, .val (.double (FP.l2d (p1.toInt64))), .second, .val (.int (1 : Int32)), .val (.int (1 : Int32)), .val (.int (1 : Int32))]) rfl ?_
        refine o_iload X32.here hx (hb hby at_189) rfl ?_
        show Steps p.tables e below (T32.setTop (mkF m 191 #[.val (.int p1), .val (.int p2), .val (.int p3), .val (.ref mx), .val (.double (FP.l2d (p1.toInt64))), .second, .val (.double (FP.l2d (p2.toInt64))), .second, .val (.double (FP.dneg (FP.l2d (p1.toInt64)))), .second, .val (.double (FP.dneg (FP.l2d (p2.toInt64)))), .second, .val (.double (FP.l2d (p1.toInt64))), .second, .val (.int (1 : Int32)), .val (.int (1 : Int32)), .val (.int (1 : Int32))] [(.int (1 : Int32))])) _
        refine o_ifNo X32.here hx (hb hby at_191) (by decide) ?_
        refine o_iload X32.here hx (hb hby at_194) rfl ?_
        show Steps p.tables e below (T32.setTop (mkF m 196 #[.val (.int p1), .val (.int p2), .val (.int p3), .val (.ref mx), .val (.double (FP.l2d (p1.toInt64))), .second, .val (.double (FP.l2d (p2.toInt64))), .second, .val (.double (FP.dneg (FP.l2d (p1.toInt64)))), .second, .val (.double (FP.dneg (FP.l2d (p2.toInt64)))), .second, .val (.double (FP.l2d (p1.toInt64))), .second, .val (.int (1 : Int32)), .val (.int (1 : Int32)), .val (.int (1 : Int32))] [(.int (1 : Int32))])) _
        refine o_ifNo X32.here hx (hb hby at_196) (by decide) ?_
        refine o_iload X32.here hx (hb hby at_199) rfl ?_
        show Steps p.tables e below (T32.setTop (mkF m 201 #[.val (.int p1), .val (.int p2), .val (.int p3), .val (.ref mx), .val (.double (FP.l2d (p1.toInt64))), .second, .val (.double (FP.l2d (p2.toInt64))), .second, .val (.double (FP.dneg (FP.l2d (p1.toInt64)))), .second, .val (.double (FP.dneg (FP.l2d (p2.toInt64)))), .second, .val (.double (FP.l2d (p1.toInt64))), .second, .val (.int (1 : Int32)), .val (.int (1 : Int32)), .val (.int (1 : Int32))] [(.int (1 : Int32))])) _
        refine o_ifNo X32.here hx (hb hby at_201) (by decide) ?_
        refine o_iconstV X32.here hx (1 : Int32) (hb hby at_204) rfl ?_
        show Steps p.tables e below (T32.setTop (mkF m 205 #[.val (.int p1), .val (.int p2), .val (.int p3), .val (.ref mx), .val (.double (FP.l2d (p1.toInt64))), .second, .val (.double (FP.l2d (p2.toInt64))), .second, .val (.double (FP.dneg (FP.l2d (p1.toInt64)))), .second, .val (.double (FP.dneg (FP.l2d (p2.toInt64)))), .second, .val (.double (FP.l2d (p1.toInt64))), .second, .val (.int (1 : Int32)), .val (.int (1 : Int32)), .val (.int (1 : Int32))] [(.int (1 : Int32))])) _
        refine o_goto X32.here hx (pc' := 209) (hb hby at_205) (by decide) (by decide) ?_
        exact k
      obtain ⟨fs, hr, hrun, hended, hW, hsame⟩ := X32.leave (v := some (.int (1 : Int32))) (fun h => by rw [Bd.returns] at h; cases h)
      refine ⟨_, _, cn36 _ ?_, hrun, hended, _, _, rfl, ?_, ⟨_, rfl⟩, hW, hsame.mono (by decide) (by decide)⟩
      · exact retN X32 hx (t := .boolean) Bd.returns (by simp) (hb hby at_209) hr
      · show Q0 Z p1 p2 p3 mn mx h0 n0 _ T32.heap _
        rw [e32]
        exact ⟨rfl, N29⟩
    · -- pc 102 taken
      have cn37 : ∀ t, Steps p.tables e below (T32.setTop (mkF m 131 #[.val (.int p1), .val (.int p2), .val (.int p3), .val (.ref mx), .val (.double (FP.l2d (p1.toInt64))), .second, .val (.double (FP.l2d (p2.toInt64))), .second, .val (.double (FP.dneg (FP.l2d (p1.toInt64)))), .second, .val (.double (FP.dneg (FP.l2d (p2.toInt64)))), .second, .val (.double (FP.l2d (p1.toInt64))), .second, .val (.int (1 : Int32)), .unset, .unset] [(.int (XT.cmpL (p2.toInt64) (p1.toInt64)))])) t → Steps p.tables e below (s₁.setTop (entryFrame m #[(.int p1), (.int p2), (.int p3)] maxLocals)) t := by
        intro t k
        refine cn34 t ?_
        refine o_ifYes X32.here hx (pc' := 109) (hb hby at_102) (XT.ll_ge_t h102_35) (by decide) (by decide) ?_
        refine o_iconstV X32.here hx (0 : Int32) (hb hby at_109) rfl ?_
        refine o_dload X32.here hx (hb hby at_110) rfl ?_
        refine o_dload X32.here hx (hb hby at_112) rfl ?_
        refine o_dcmpS X32.here hx (hb hby at_114) (v := XT.cmpL (p1.toInt64) (p2.toInt64)) (own_dcmp_neg (own_bd_b53 (own_bd_i p2) (by decide)) (own_bd_b53 (own_bd_i p1) (by decide)) _) ?_
        show Steps p.tables e below (T32.setTop (mkF m 115 #[.val (.int p1), .val (.int p2), .val (.int p3), .val (.ref mx), .val (.double (FP.l2d (p1.toInt64))), .second, .val (.double (FP.l2d (p2.toInt64))), .second, .val (.double (FP.dneg (FP.l2d (p1.toInt64)))), .second, .val (.double (FP.dneg (FP.l2d (p2.toInt64)))), .second, .val (.double (FP.l2d (p1.toInt64))), .second, .val (.int (1 : Int32)), .unset, .unset] [(.int (XT.cmpL (p1.toInt64) (p2.toInt64))), (.int (0 : Int32))])) _
        refine o_ifYes X32.here hx (pc' := 122) (hb hby at_115) (XT.ll_ge_t h102_35) (by decide) (by decide) ?_
        refine o_iconstV X32.here hx (0 : Int32) (hb hby at_122) rfl ?_
        show Steps p.tables e below (T32.setTop (mkF m 123 #[.val (.int p1), .val (.int p2), .val (.int p3), .val (.ref mx), .val (.double (FP.l2d (p1.toInt64))), .second, .val (.double (FP.l2d (p2.toInt64))), .second, .val (.double (FP.dneg (FP.l2d (p1.toInt64)))), .second, .val (.double (FP.dneg (FP.l2d (p2.toInt64)))), .second, .val (.double (FP.l2d (p1.toInt64))), .second, .val (.int (1 : Int32)), .unset, .unset] [(.int (0 : Int32)), (.int (0 : Int32))])) _
        refine o_icmpNo X32.here hx (hb hby at_123) (XT.ii_ne_f rfl) ?_
        refine o_dload X32.here hx (hb hby at_126) rfl ?_
        refine o_dload X32.here hx (hb hby at_128) rfl ?_
        refine o_dcmpS X32.here hx (hb hby at_130) (v := XT.cmpL (p2.toInt64) (p1.toInt64)) (dcmpV_w (own_bd_b53 (own_bd_i p2) (by decide)) (own_bd_b53 (own_bd_i p1) (by decide)) _) ?_
        exact k
      by_cases h131_38 : (p2.toInt64) < (p1.toInt64)
      · -- pc 131 not taken
        have cn39 : ∀ t, Steps p.tables e below (T32.setTop (mkF m 209 #[.val (.int p1), .val (.int p2), .val (.int p3), .val (.ref mx), .val (.double (FP.l2d (p1.toInt64))), .second, .val (.double (FP.l2d (p2.toInt64))), .second, .val (.double (FP.dneg (FP.l2d (p1.toInt64)))), .second, .val (.double (FP.dneg (FP.l2d (p2.toInt64)))), .second, .val (.double (FP.l2d (p1.toInt64))), .second, .val (.int (1 : Int32)), .val (.int (1 : Int32)), .val (.int (1 : Int32))] [(.int (1 : Int32))])) t → Steps p.tables e below (s₁.setTop (entryFrame m #[(.int p1), (.int p2), (.int p3)] maxLocals)) t := by
          intro t k
          refine cn37 t ?_
          refine o_ifNo X32.here hx (hb hby at_131) (XT.ll_ge_f h131_38) ?_
          refine o_iconstV X32.here hx (1 : Int32) (hb hby at_134) rfl ?_
          show Steps p.tables e below (T32.setTop (mkF m 135 #[.val (.int p1), .val (.int p2), .val (.int p3), .val (.ref mx), .val (.double (FP.l2d (p1.toInt64))), .second, .val (.double (FP.l2d (p2.toInt64))), .second, .val (.double (FP.dneg (FP.l2d (p1.toInt64)))), .second, .val (.double (FP.dneg (FP.l2d (p2.toInt64)))), .second, .val (.double (FP.l2d (p1.toInt64))), .second, .val (.int (1 : Int32)), .unset, .unset] [(.int (1 : Int32))])) _
          refine o_goto X32.here hx (pc' := 139) (hb hby at_135) (by decide) (by decide) ?_
          refine o_dload X32.here hx (hb hby at_139) rfl ?_
          refine o_dload X32.here hx (hb hby at_141) rfl ?_
          refine o_dcmpS X32.here hx (hb hby at_143) (v := XT.cmpL (p2.toInt64) (p1.toInt64)) (own_dcmp_neg (own_bd_b53 (own_bd_i p1) (by decide)) (own_bd_b53 (own_bd_i p2) (by decide)) _) ?_
          show Steps p.tables e below (T32.setTop (mkF m 144 #[.val (.int p1), .val (.int p2), .val (.int p3), .val (.ref mx), .val (.double (FP.l2d (p1.toInt64))), .second, .val (.double (FP.l2d (p2.toInt64))), .second, .val (.double (FP.dneg (FP.l2d (p1.toInt64)))), .second, .val (.double (FP.dneg (FP.l2d (p2.toInt64)))), .second, .val (.double (FP.l2d (p1.toInt64))), .second, .val (.int (1 : Int32)), .unset, .unset] [(.int (XT.cmpL (p2.toInt64) (p1.toInt64))), (.int (1 : Int32))])) _
          refine o_ifNo X32.here hx (hb hby at_144) (XT.ll_ge_f h131_38) ?_
          refine o_iconstV X32.here hx (1 : Int32) (hb hby at_147) rfl ?_
          show Steps p.tables e below (T32.setTop (mkF m 148 #[.val (.int p1), .val (.int p2), .val (.int p3), .val (.ref mx), .val (.double (FP.l2d (p1.toInt64))), .second, .val (.double (FP.l2d (p2.toInt64))), .second, .val (.double (FP.dneg (FP.l2d (p1.toInt64)))), .second, .val (.double (FP.dneg (FP.l2d (p2.toInt64)))), .second, .val (.double (FP.l2d (p1.toInt64))), .second, .val (.int (1 : Int32)), .unset, .unset] [(.int (1 : Int32)), (.int (1 : Int32))])) _
          refine o_goto X32.here hx (pc' := 152) (hb hby at_148) (by decide) (by decide) ?_
          show Steps p.tables e below (T32.setTop (mkF m 152 #[.val (.int p1), .val (.int p2), .val (.int p3), .val (.ref mx), .val (.double (FP.l2d (p1.toInt64))), .second, .val (.double (FP.l2d (p2.toInt64))), .second, .val (.double (FP.dneg (FP.l2d (p1.toInt64)))), .second, .val (.double (FP.dneg (FP.l2d (p2.toInt64)))), .second, .val (.double (FP.l2d (p1.toInt64))), .second, .val (.int (1 : Int32)), .unset, .unset] [(.int (1 : Int32)), (.int (1 : Int32))])) _
          refine o_icmpNo X32.here hx (hb hby at_152) (XT.ii_ne_f rfl) ?_
          refine o_iconstV X32.here hx (1 : Int32) (hb hby at_155) rfl ?_
          show Steps p.tables e below (T32.setTop (mkF m 156 #[.val (.int p1), .val (.int p2), .val (.int p3), .val (.ref mx), .val (.double (FP.l2d (p1.toInt64))), .second, .val (.double (FP.l2d (p2.toInt64))), .second, .val (.double (FP.dneg (FP.l2d (p1.toInt64)))), .second, .val (.double (FP.dneg (FP.l2d (p2.toInt64)))), .second, .val (.double (FP.l2d (p1.toInt64))), .second, .val (.int (1 : Int32)), .unset, .unset] [(.int (1 : Int32))])) _
          refine o_goto X32.here hx (pc' := 160) (hb hby at_156) (by decide) (by decide) ?_
          refine o_istore X32.here hx (hb hby at_160) (l' := #[.val (.int p1), .val (.int p2), .val (.int p3), .val (.ref mx), .val (.double (FP.l2d (p1.toInt64))), .second, .val (.double (FP.l2d (p2.toInt64))), .second, .val (.double (FP.dneg (FP.l2d (p1.toInt64)))), .second, .val (.double (FP.dneg (FP.l2d (p2.toInt64)))), .second, .val (.double (FP.l2d (p1.toInt64))), .second, .val (.int (1 : Int32)), .val (.int (1 : Int32)), .unset]) rfl ?_
          refine o_dload X32.here hx (hb hby at_162) rfl ?_
          refine o_dload X32.here hx (hb hby at_164) rfl ?_
          refine o_daddS X32.here hx (hb hby at_166) (nn_w (own_dadd_neg (own_bd_b53 (own_bd_i p1) (by decide)))) (v := FP.l2d (0 : Int64)) (own_dadd_neg (own_bd_b53 (own_bd_i p1) (by decide))) ?_
          refine o_dconst0 X32.here hx (hb hby at_167) (v := FP.l2d (0 : Int64)) own_dconst0 ?_
          refine o_dcmpS X32.here hx (hb hby at_168) (v := XT.cmpL (0 : Int64) (0 : Int64)) (dcmpV_w (own_bd_b53 (own_bd_lit0) (by decide)) (own_bd_b53 (own_bd_lit0) (by decide)) _) ?_
          show Steps p.tables e below (T32.setTop (mkF m 169 #[.val (.int p1), .val (.int p2), .val (.int p3), .val (.ref mx), .val (.double (FP.l2d (p1.toInt64))), .second, .val (.double (FP.l2d (p2.toInt64))), .second, .val (.double (FP.dneg (FP.l2d (p1.toInt64)))), .second, .val (.double (FP.dneg (FP.l2d (p2.toInt64)))), .second, .val (.double (FP.l2d (p1.toInt64))), .second, .val (.int (1 : Int32)), .val (.int (1 : Int32)), .unset] [(.int (XT.cmpL (0 : Int64) (0 : Int64)))])) _
          refine o_ifNo X32.here hx (hb hby at_169) (XT.ll_ne_f rfl) ?_
          refine o_dload X32.here hx (hb hby at_172) rfl ?_
          refine o_dload X32.here hx (hb hby at_174) rfl ?_
          refine o_daddS X32.here hx (hb hby at_176) (nn_w (own_dadd_neg (own_bd_b53 (own_bd_i p2) (by decide)))) (v := FP.l2d (0 : Int64)) (own_dadd_neg (own_bd_b53 (own_bd_i p2) (by decide))) ?_
          refine o_dconst0 X32.here hx (hb hby at_177) (v := FP.l2d (0 : Int64)) own_dconst0 ?_
          refine o_dcmpS X32.here hx (hb hby at_178) (v := XT.cmpL (0 : Int64) (0 : Int64)) (dcmpV_w (own_bd_b53 (own_bd_lit0) (by decide)) (own_bd_b53 (own_bd_lit0) (by decide)) _) ?_
          show Steps p.tables e below (T32.setTop (mkF m 179 #[.val (.int p1), .val (.int p2), .val (.int p3), .val (.ref mx), .val (.double (FP.l2d (p1.toInt64))), .second, .val (.double (FP.l2d (p2.toInt64))), .second, .val (.double (FP.dneg (FP.l2d (p1.toInt64)))), .second, .val (.double (FP.dneg (FP.l2d (p2.toInt64)))), .second, .val (.double (FP.l2d (p1.toInt64))), .second, .val (.int (1 : Int32)), .val (.int (1 : Int32)), .unset] [(.int (XT.cmpL (0 : Int64) (0 : Int64)))])) _
          refine o_ifNo X32.here hx (hb hby at_179) (XT.ll_ne_f rfl) ?_
          refine o_iconstV X32.here hx (1 : Int32) (hb hby at_182) rfl ?_
          show Steps p.tables e below (T32.setTop (mkF m 183 #[.val (.int p1), .val (.int p2), .val (.int p3), .val (.ref mx), .val (.double (FP.l2d (p1.toInt64))), .second, .val (.double (FP.l2d (p2.toInt64))), .second, .val (.double (FP.dneg (FP.l2d (p1.toInt64)))), .second, .val (.double (FP.dneg (FP.l2d (p2.toInt64)))), .second, .val (.double (FP.l2d (p1.toInt64))), .second, .val (.int (1 : Int32)), .val (.int (1 : Int32)), .unset] [(.int (1 : Int32))])) _
          refine o_goto X32.here hx (pc' := 187) (hb hby at_183) (by decide) (by decide) ?_
          refine o_istore X32.here hx (hb hby at_187) (l' := #[.val (.int p1), .val (.int p2), .val (.int p3), .val (.ref mx), .val (.double (FP.l2d (p1.toInt64))), .second, .val (.double (FP.l2d (p2.toInt64))), .second, .val (.double (FP.dneg (FP.l2d (p1.toInt64)))), .second, .val (.double (FP.dneg (FP.l2d (p2.toInt64)))), .second, .val (.double (FP.l2d (p1.toInt64))), .second, .val (.int (1 : Int32)), .val (.int (1 : Int32)), .val (.int (1 : Int32))]) rfl ?_
          refine o_iload X32.here hx (hb hby at_189) rfl ?_
          show Steps p.tables e below (T32.setTop (mkF m 191 #[.val (.int p1), .val (.int p2), .val (.int p3), .val (.ref mx), .val (.double (FP.l2d (p1.toInt64))), .second, .val (.double (FP.l2d (p2.toInt64))), .second, .val (.double (FP.dneg (FP.l2d (p1.toInt64)))), .second, .val (.double (FP.dneg (FP.l2d (p2.toInt64)))), .second, .val (.double (FP.l2d (p1.toInt64))), .second, .val (.int (1 : Int32)), .val (.int (1 : Int32)), .val (.int (1 : Int32))] [(.int (1 : Int32))])) _
          refine o_ifNo X32.here hx (hb hby at_191) (by decide) ?_
          refine o_iload X32.here hx (hb hby at_194) rfl ?_
          show Steps p.tables e below (T32.setTop (mkF m 196 #[.val (.int p1), .val (.int p2), .val (.int p3), .val (.ref mx), .val (.double (FP.l2d (p1.toInt64))), .second, .val (.double (FP.l2d (p2.toInt64))), .second, .val (.double (FP.dneg (FP.l2d (p1.toInt64)))), .second, .val (.double (FP.dneg (FP.l2d (p2.toInt64)))), .second, .val (.double (FP.l2d (p1.toInt64))), .second, .val (.int (1 : Int32)), .val (.int (1 : Int32)), .val (.int (1 : Int32))] [(.int (1 : Int32))])) _
          refine o_ifNo X32.here hx (hb hby at_196) (by decide) ?_
          refine o_iload X32.here hx (hb hby at_199) rfl ?_
          show Steps p.tables e below (T32.setTop (mkF m 201 #[.val (.int p1), .val (.int p2), .val (.int p3), .val (.ref mx), .val (.double (FP.l2d (p1.toInt64))), .second, .val (.double (FP.l2d (p2.toInt64))), .second, .val (.double (FP.dneg (FP.l2d (p1.toInt64)))), .second, .val (.double (FP.dneg (FP.l2d (p2.toInt64)))), .second, .val (.double (FP.l2d (p1.toInt64))), .second, .val (.int (1 : Int32)), .val (.int (1 : Int32)), .val (.int (1 : Int32))] [(.int (1 : Int32))])) _
          refine o_ifNo X32.here hx (hb hby at_201) (by decide) ?_
          refine o_iconstV X32.here hx (1 : Int32) (hb hby at_204) rfl ?_
          show Steps p.tables e below (T32.setTop (mkF m 205 #[.val (.int p1), .val (.int p2), .val (.int p3), .val (.ref mx), .val (.double (FP.l2d (p1.toInt64))), .second, .val (.double (FP.l2d (p2.toInt64))), .second, .val (.double (FP.dneg (FP.l2d (p1.toInt64)))), .second, .val (.double (FP.dneg (FP.l2d (p2.toInt64)))), .second, .val (.double (FP.l2d (p1.toInt64))), .second, .val (.int (1 : Int32)), .val (.int (1 : Int32)), .val (.int (1 : Int32))] [(.int (1 : Int32))])) _
          refine o_goto X32.here hx (pc' := 209) (hb hby at_205) (by decide) (by decide) ?_
          exact k
        obtain ⟨fs, hr, hrun, hended, hW, hsame⟩ := X32.leave (v := some (.int (1 : Int32))) (fun h => by rw [Bd.returns] at h; cases h)
        refine ⟨_, _, cn39 _ ?_, hrun, hended, _, _, rfl, ?_, ⟨_, rfl⟩, hW, hsame.mono (by decide) (by decide)⟩
        · exact retN X32 hx (t := .boolean) Bd.returns (by simp) (hb hby at_209) hr
        · show Q0 Z p1 p2 p3 mn mx h0 n0 _ T32.heap _
          rw [e32]
          exact ⟨rfl, N29⟩
      · -- pc 131 taken
        have cn40 : ∀ t, Steps p.tables e below (T32.setTop (mkF m 209 #[.val (.int p1), .val (.int p2), .val (.int p3), .val (.ref mx), .val (.double (FP.l2d (p1.toInt64))), .second, .val (.double (FP.l2d (p2.toInt64))), .second, .val (.double (FP.dneg (FP.l2d (p1.toInt64)))), .second, .val (.double (FP.dneg (FP.l2d (p2.toInt64)))), .second, .val (.double (FP.l2d (p1.toInt64))), .second, .val (.int (1 : Int32)), .val (.int (1 : Int32)), .val (.int (1 : Int32))] [(.int (1 : Int32))])) t → Steps p.tables e below (s₁.setTop (entryFrame m #[(.int p1), (.int p2), (.int p3)] maxLocals)) t := by
          intro t k
          refine cn37 t ?_
          refine o_ifYes X32.here hx (pc' := 138) (hb hby at_131) (XT.ll_ge_t h131_38) (by decide) (by decide) ?_
          refine o_iconstV X32.here hx (0 : Int32) (hb hby at_138) rfl ?_
          refine o_dload X32.here hx (hb hby at_139) rfl ?_
          refine o_dload X32.here hx (hb hby at_141) rfl ?_
          refine o_dcmpS X32.here hx (hb hby at_143) (v := XT.cmpL (p2.toInt64) (p1.toInt64)) (own_dcmp_neg (own_bd_b53 (own_bd_i p1) (by decide)) (own_bd_b53 (own_bd_i p2) (by decide)) _) ?_
          show Steps p.tables e below (T32.setTop (mkF m 144 #[.val (.int p1), .val (.int p2), .val (.int p3), .val (.ref mx), .val (.double (FP.l2d (p1.toInt64))), .second, .val (.double (FP.l2d (p2.toInt64))), .second, .val (.double (FP.dneg (FP.l2d (p1.toInt64)))), .second, .val (.double (FP.dneg (FP.l2d (p2.toInt64)))), .second, .val (.double (FP.l2d (p1.toInt64))), .second, .val (.int (1 : Int32)), .unset, .unset] [(.int (XT.cmpL (p2.toInt64) (p1.toInt64))), (.int (0 : Int32))])) _
          refine o_ifYes X32.here hx (pc' := 151) (hb hby at_144) (XT.ll_ge_t h131_38) (by decide) (by decide) ?_
          refine o_iconstV X32.here hx (0 : Int32) (hb hby at_151) rfl ?_
          show Steps p.tables e below (T32.setTop (mkF m 152 #[.val (.int p1), .val (.int p2), .val (.int p3), .val (.ref mx), .val (.double (FP.l2d (p1.toInt64))), .second, .val (.double (FP.l2d (p2.toInt64))), .second, .val (.double (FP.dneg (FP.l2d (p1.toInt64)))), .second, .val (.double (FP.dneg (FP.l2d (p2.toInt64)))), .second, .val (.double (FP.l2d (p1.toInt64))), .second, .val (.int (1 : Int32)), .unset, .unset] [(.int (0 : Int32)), (.int (0 : Int32))])) _
          refine o_icmpNo X32.here hx (hb hby at_152) (XT.ii_ne_f rfl) ?_
          refine o_iconstV X32.here hx (1 : Int32) (hb hby at_155) rfl ?_
          show Steps p.tables e below (T32.setTop (mkF m 156 #[.val (.int p1), .val (.int p2), .val (.int p3), .val (.ref mx), .val (.double (FP.l2d (p1.toInt64))), .second, .val (.double (FP.l2d (p2.toInt64))), .second, .val (.double (FP.dneg (FP.l2d (p1.toInt64)))), .second, .val (.double (FP.dneg (FP.l2d (p2.toInt64)))), .second, .val (.double (FP.l2d (p1.toInt64))), .second, .val (.int (1 : Int32)), .unset, .unset] [(.int (1 : Int32))])) _
          refine o_goto X32.here hx (pc' := 160) (hb hby at_156) (by decide) (by decide) ?_
          refine o_istore X32.here hx (hb hby at_160) (l' := #[.val (.int p1), .val (.int p2), .val (.int p3), .val (.ref mx), .val (.double (FP.l2d (p1.toInt64))), .second, .val (.double (FP.l2d (p2.toInt64))), .second, .val (.double (FP.dneg (FP.l2d (p1.toInt64)))), .second, .val (.double (FP.dneg (FP.l2d (p2.toInt64)))), .second, .val (.double (FP.l2d (p1.toInt64))), .second, .val (.int (1 : Int32)), .val (.int (1 : Int32)), .unset]) rfl ?_
          refine o_dload X32.here hx (hb hby at_162) rfl ?_
          refine o_dload X32.here hx (hb hby at_164) rfl ?_
          refine o_daddS X32.here hx (hb hby at_166) (nn_w (own_dadd_neg (own_bd_b53 (own_bd_i p1) (by decide)))) (v := FP.l2d (0 : Int64)) (own_dadd_neg (own_bd_b53 (own_bd_i p1) (by decide))) ?_
          refine o_dconst0 X32.here hx (hb hby at_167) (v := FP.l2d (0 : Int64)) own_dconst0 ?_
          refine o_dcmpS X32.here hx (hb hby at_168) (v := XT.cmpL (0 : Int64) (0 : Int64)) (dcmpV_w (own_bd_b53 (own_bd_lit0) (by decide)) (own_bd_b53 (own_bd_lit0) (by decide)) _) ?_
          show Steps p.tables e below (T32.setTop (mkF m 169 #[.val (.int p1), .val (.int p2), .val (.int p3), .val (.ref mx), .val (.double (FP.l2d (p1.toInt64))), .second, .val (.double (FP.l2d (p2.toInt64))), .second, .val (.double (FP.dneg (FP.l2d (p1.toInt64)))), .second, .val (.double (FP.dneg (FP.l2d (p2.toInt64)))), .second, .val (.double (FP.l2d (p1.toInt64))), .second, .val (.int (1 : Int32)), .val (.int (1 : Int32)), .unset] [(.int (XT.cmpL (0 : Int64) (0 : Int64)))])) _
          refine o_ifNo X32.here hx (hb hby at_169) (XT.ll_ne_f rfl) ?_
          refine o_dload X32.here hx (hb hby at_172) rfl ?_
          refine o_dload X32.here hx (hb hby at_174) rfl ?_
          refine o_daddS X32.here hx (hb hby at_176) (nn_w (own_dadd_neg (own_bd_b53 (own_bd_i p2) (by decide)))) (v := FP.l2d (0 : Int64)) (own_dadd_neg (own_bd_b53 (own_bd_i p2) (by decide))) ?_
          refine o_dconst0 X32.here hx (hb hby at_177) (v := FP.l2d (0 : Int64)) own_dconst0 ?_
          refine o_dcmpS X32.here hx (hb hby at_178) (v := XT.cmpL (0 : Int64) (0 : Int64)) (dcmpV_w (own_bd_b53 (own_bd_lit0) (by decide)) (own_bd_b53 (own_bd_lit0) (by decide)) _) ?_
          show Steps p.tables e below (T32.setTop (mkF m 179 #[.val (.int p1), .val (.int p2), .val (.int p3), .val (.ref mx), .val (.double (FP.l2d (p1.toInt64))), .second, .val (.double (FP.l2d (p2.toInt64))), .second, .val (.double (FP.dneg (FP.l2d (p1.toInt64)))), .second, .val (.double (FP.dneg (FP.l2d (p2.toInt64)))), .second, .val (.double (FP.l2d (p1.toInt64))), .second, .val (.int (1 : Int32)), .val (.int (1 : Int32)), .unset] [(.int (XT.cmpL (0 : Int64) (0 : Int64)))])) _
          refine o_ifNo X32.here hx (hb hby at_179) (XT.ll_ne_f rfl) ?_
          refine o_iconstV X32.here hx (1 : Int32) (hb hby at_182) rfl ?_
          show Steps p.tables e below (T32.setTop (mkF m 183 #[.val (.int p1), .val (.int p2), .val (.int p3), .val (.ref mx), .val (.double (FP.l2d (p1.toInt64))), .second, .val (.double (FP.l2d (p2.toInt64))), .second, .val (.double (FP.dneg (FP.l2d (p1.toInt64)))), .second, .val (.double (FP.dneg (FP.l2d (p2.toInt64)))), .second, .val (.double (FP.l2d (p1.toInt64))), .second, .val (.int (1 : Int32)), .val (.int (1 : Int32)), .unset] [(.int (1 : Int32))])) _
          refine o_goto X32.here hx (pc' := 187) (hb hby at_183) (by decide) (by decide) ?_
          refine o_istore X32.here hx (hb hby at_187) (l' := #[.val (.int p1), .val (.int p2), .val (.int p3), .val (.ref mx), .val (.double (FP.l2d (p1.toInt64))), .second, .val (.double (FP.l2d (p2.toInt64))), .second, .val (.double (FP.dneg (FP.l2d (p1.toInt64)))), .second, .val (.double (FP.dneg (FP.l2d (p2.toInt64)))), .second, .val (.double (FP.l2d (p1.toInt64))), .second, .val (.int (1 : Int32)), .val (.int (1 : Int32)), .val (.int (1 : Int32))]) rfl ?_
          refine o_iload X32.here hx (hb hby at_189) rfl ?_
          show Steps p.tables e below (T32.setTop (mkF m 191 #[.val (.int p1), .val (.int p2), .val (.int p3), .val (.ref mx), .val (.double (FP.l2d (p1.toInt64))), .second, .val (.double (FP.l2d (p2.toInt64))), .second, .val (.double (FP.dneg (FP.l2d (p1.toInt64)))), .second, .val (.double (FP.dneg (FP.l2d (p2.toInt64)))), .second, .val (.double (FP.l2d (p1.toInt64))), .second, .val (.int (1 : Int32)), .val (.int (1 : Int32)), .val (.int (1 : Int32))] [(.int (1 : Int32))])) _
          refine o_ifNo X32.here hx (hb hby at_191) (by decide) ?_
          refine o_iload X32.here hx (hb hby at_194) rfl ?_
          show Steps p.tables e below (T32.setTop (mkF m 196 #[.val (.int p1), .val (.int p2), .val (.int p3), .val (.ref mx), .val (.double (FP.l2d (p1.toInt64))), .second, .val (.double (FP.l2d (p2.toInt64))), .second, .val (.double (FP.dneg (FP.l2d (p1.toInt64)))), .second, .val (.double (FP.dneg (FP.l2d (p2.toInt64)))), .second, .val (.double (FP.l2d (p1.toInt64))), .second, .val (.int (1 : Int32)), .val (.int (1 : Int32)), .val (.int (1 : Int32))] [(.int (1 : Int32))])) _
          refine o_ifNo X32.here hx (hb hby at_196) (by decide) ?_
          refine o_iload X32.here hx (hb hby at_199) rfl ?_
          show Steps p.tables e below (T32.setTop (mkF m 201 #[.val (.int p1), .val (.int p2), .val (.int p3), .val (.ref mx), .val (.double (FP.l2d (p1.toInt64))), .second, .val (.double (FP.l2d (p2.toInt64))), .second, .val (.double (FP.dneg (FP.l2d (p1.toInt64)))), .second, .val (.double (FP.dneg (FP.l2d (p2.toInt64)))), .second, .val (.double (FP.l2d (p1.toInt64))), .second, .val (.int (1 : Int32)), .val (.int (1 : Int32)), .val (.int (1 : Int32))] [(.int (1 : Int32))])) _
          refine o_ifNo X32.here hx (hb hby at_201) (by decide) ?_
          refine o_iconstV X32.here hx (1 : Int32) (hb hby at_204) rfl ?_
          show Steps p.tables e below (T32.setTop (mkF m 205 #[.val (.int p1), .val (.int p2), .val (.int p3), .val (.ref mx), .val (.double (FP.l2d (p1.toInt64))), .second, .val (.double (FP.l2d (p2.toInt64))), .second, .val (.double (FP.dneg (FP.l2d (p1.toInt64)))), .second, .val (.double (FP.dneg (FP.l2d (p2.toInt64)))), .second, .val (.double (FP.l2d (p1.toInt64))), .second, .val (.int (1 : Int32)), .val (.int (1 : Int32)), .val (.int (1 : Int32))] [(.int (1 : Int32))])) _
          refine o_goto X32.here hx (pc' := 209) (hb hby at_205) (by decide) (by decide) ?_
          exact k
        obtain ⟨fs, hr, hrun, hended, hW, hsame⟩ := X32.leave (v := some (.int (1 : Int32))) (fun h => by rw [Bd.returns] at h; cases h)
        refine ⟨_, _, cn40 _ ?_, hrun, hended, _, _, rfl, ?_, ⟨_, rfl⟩, hW, hsame.mono (by decide) (by decide)⟩
        · exact retN X32 hx (t := .boolean) Bd.returns (by simp) (hb hby at_209) hr
        · show Q0 Z p1 p2 p3 mn mx h0 n0 _ T32.heap _
          rw [e32]
          exact ⟨rfl, N29⟩


theorem own_start {args : Array Value} {s : State} (hw : ∀ d ∈ tables_1, d.before args s = true) (hn : narrow_1.value args s none s [] = some true) :
    ∃ mn mx, Sta s s.heap "com/example/pareto_loom/paretoloom/model/Goal" "MIN" "Lcom/example/pareto_loom/paretoloom/model/Goal;" (.ref mn) ∧ Sta s s.heap "com/example/pareto_loom/paretoloom/model/Goal" "MAX" "Lcom/example/pareto_loom/paretoloom/model/Goal;" (.ref mx) ∧ Exa s s.heap mn "com/example/pareto_loom/paretoloom/model/Goal" ∧ Exa s s.heap mx "com/example/pareto_loom/paretoloom/model/Goal" ∧ ¬ mx = mn := by
  obtain ⟨n1, r1⟩ := and_e hn
  obtain ⟨n2, r2⟩ := and_e r1
  obtain ⟨n3, n4⟩ := and_e r2
  obtain ⟨mn, e1⟩ := exa_v n1
  obtain ⟨mx, e2⟩ := exa_v n2
  have hi := hw _ (List.mem_of_getElem? (i := 1) rfl)
  refine ⟨mn, mx, Sta.start e1 (Or.inr ⟨hi, hw _ (List.mem_of_getElem? (i := 2) rfl)⟩), Sta.start e2 (Or.inr ⟨hi, hw _ (List.mem_of_getElem? (i := 10) rfl)⟩), Exa.start e1 n1, Exa.start e2 n2, ?_⟩
  rintro rfl
  obtain ⟨x1, y1, f1, g1, -, k1⟩ := cmp_v (Or.inl n3)
  obtain ⟨x2, y2, f2, g2, -, k2⟩ := cmp_v (Or.inl n4)
  rw [fld_at e2] at f1
  rw [fld_at e1] at f2
  cases f1.symm.trans f2
  have q1 : y1 = .int 1 := by simpa [Term.eval] using g1.symm
  have q2 : y2 = .int 0 := by simpa [Term.eval] using g2.symm
  subst q1 q2
  obtain ⟨z, rfl⟩ := k1
  have b1 : z = 1 := gotT (Cond.eq_ints ((fld_at e2).trans f1) (Term.int_eval 1)) n3
  have b2 : z = 0 := gotT (Cond.eq_ints ((fld_at e1).trans f2) (Term.int_eval 0)) n4
  rw [b1] at b2
  exact absurd b2 (by decide)

set_option maxRecDepth 65536 in
set_option maxHeartbeats 40000000 in
theorem comes_1 {Post : Tables → Env → Array Value → State → Outcome → State → Prop} (hpost : ∀ tb e args s v u, (limb_1_1.after args s (.returned v) u = true ∧ limb_1_2.after args s (.returned v) u = true ∧ True) → FrameEnd s (.returned v) u (Jvm.fieldLocs frame_1_writes args s ++ Jvm.arrayLocs frame_1_arrays args s ++ Jvm.staticLocs frame_1_statics s) 0 0 → Post tb e args s (.returned v) u) :
    ArmFor flags0 classFile x code maxLocals ret World_1 tables_1 room_1 Calls_1 rest_1 Pre_1 Post := by
  intro l hfl _ _ p e ha hc hk s m args below hf hA hF happ hP
  obtain ⟨hcalls, hrest, hpre⟩ := hP
  obtain ⟨-, -, -, hnamed, -, -, -, hat⟩ := (Spec.applies_iff hf).mp happ
  obtain ⟨hg, hn⟩ := and_e (Cond.before_iff.mp (show (Jvm.Cond.and given_1 narrow_1).before args s = true from hpre))
  obtain ⟨hcount, hr0⟩ := and_e hg
  obtain ⟨g0, hr1⟩ := and_e hr0
  obtain ⟨g1, hr2⟩ := and_e hr1
  have g2 := hr2
  obtain ⟨w0, w1, w2, rfl⟩ : ∃ w0 w1 w2 : Value, args = #[w0, w1, w2] := by
    have hs : args.size = 3 := by simpa [Cond.value, given_1] using hcount
    obtain ⟨L⟩ := args
    match L, hs with
    | [w0, w1, w2], _ => exact ⟨w0, w1, w2, rfl⟩
  have hw := fun d (hd : d ∈ tables_1) => atoms_spec (ws := Jvm.Cond.code x code maxLocals ret :: tables_1) hat d (List.mem_cons_of_mem _ hd)
  have hfit : Fit s := fun {y c} hc i hi => by
    obtain ⟨ha, rfl⟩ := Array.getElem?_eq_some_iff.mp hc
    have q := List.all_eq_true.mp ((Array.all_eq_true_iff_forall_mem.mp hF) _ (Array.getElem_mem ha)) i (List.mem_range.mpr hi)
    simpa [Array.getElem?_eq_getElem hi] using q
  obtain ⟨i0, e0⟩ := is_v g0
  obtain rfl : w0 = (.int i0) := Option.some.inj e0
  obtain ⟨i1, e1⟩ := is_v g1
  obtain rfl : w1 = (.int i1) := Option.some.inj e1
  obtain ⟨i2, e2⟩ := is_v g2
  obtain rfl : w2 = (.int i2) := Option.some.inj e2
  obtain ⟨mn, mx, hs1, hs2, hs3, hs4, hs5⟩ := own_start hw hn
  obtain ⟨n, o, h1, h2, h3, _, L, rfl, ⟨rfl, N⟩, hq⟩ := rm0 l s _ hw tables_1 i0 i1 i2 mn mx s.heap s.heap.size (Nat.le_refl _) hs1 hs2 hs3 hs4 hs5 p e ha hc hk s m _ below hf ((Spec.applies_iff_loose hf).mp happ).1 ⟨rfl, State.Warmed39.refl s, rfl⟩ trivial
  refine ⟨n, _, h1, h2, h3, hpost _ _ _ _ _ _ ⟨Cond.after_iff.mpr rfl, Cond.after_iff.mpr (eq_i res_at (Term.int_eval (1)) rfl), trivial⟩ ⟨hq.1, hq.2.1, (hq.2.2.sift fun y hy => Or.inr (N y hy)).mono (by decide) (by decide)⟩⟩
theorem main_1_1 : Claimed_1_1 := comes_1 fun _ _ _ _ _ _ h hF => ⟨h.1, hF⟩
theorem main_1_2 : Claimed_1_2 := comes_1 fun _ _ _ _ _ _ h hF => ⟨h.2.1, hF⟩
end Jvm.Pilot.@@N@@
namespace Jvm.Pilot.@@N@@
open Jvm Jvm.ClassFile Sem Op Lib Jvm.Free Jvm.Stand Jvm.Pilot.@@N@@.Jvm.D
/-! MADE BY PROGRAM (witnessworld.py) out of the Statement's table words and the real class files: 13 classes; the members and pool entries that the words name. The judged class is class 1, her method 1. -/
namespace start1
open Jvm.ClassFile
def u (s : String) : CpInfo := .utf8 (stringToUtf16 s)
/-- a pool by its gaps: so many unusable entries, then the entry; so many at the end -/
def gap : Nat → List CpInfo → List CpInfo
  | 0, r => r
  | n + 1, r => .unusable :: gap n r
def poolList (es : List (Nat × CpInfo)) (last : Nat) : List CpInfo := es.foldr (fun e r => gap e.1 (e.2 :: r)) (gap last [])
def pool (es : List (Nat × CpInfo)) (last : Nat) : Array CpInfo := ⟨poolList es last⟩
def fileOf (pool : Array CpInfo) (this : Nat) (attrs : Array Attribute := #[]) (ms : Array MethodInfo := #[]) (fl : Nat := 33) (sup : Nat := 0) (ifs : Array Nat := #[]) (fds : Array FieldInfo := #[]) : ClassFile where
  minorVersion := 0
  majorVersion := 65
  constantPool := pool
  accessFlags := fl
  thisClass := this
  superClass := sup
  interfaces := ifs
  fields := fds
  methods := ms
  attributes := attrs
def plain (name : String) (sup : Option ClassId) : Class where
  name := name
  kind := .ordinary
  loader := none
  accessFlags := 33
  super := sup
  interfaces := #[]
  cf := none
  fields := #[]
  methods := #[]
  instanceTypes := #[]
  staticTypes := #[]
  resolved := #[]
  callSites := []
  init := .initialized
  statics := none
  mirror := none

def pool0 : Array CpInfo := pool [(5, u "<init>"), (0, u "()V"), (1, .class_ 10), (1, u "java/lang/Object")] 113

def k0m0 : Method := { name := "<init>", desc := "()V", sig := { parameters := [], returnType := none }, accessFlags := 1, code := none }
/-- java/lang/Object -/
def k0 : Class := { plain "java/lang/Object" none with
  accessFlags := 33
  interfaces := #[]
  cf := some (fileOf pool0 8 #[] #[{ accessFlags := 1, nameIndex := 5, descriptorIndex := 6, attributes := #[] }] 33 0 #[] #[])
  fields := #[]
  methods := #[k0m0]
  instanceTypes := #[]
  staticTypes := #[]
  resolved := Array.replicate 124 none
  statics := none }

def pool1 : Array CpInfo := pool [(2, .class_ 4), (1, u "java/lang/Object"), (0, u "<init>"), (0, u "()V"), (0, .fieldref 8 9), (0, .class_ 10), (0, .nameAndType 11 12), (0, u "com/example/pareto_loom/paretoloom/model/Goal"), (0, u "MIN"), (0, u "Lcom/example/pareto_loom/paretoloom/model/Goal;"), (0, .fieldref 8 14), (0, .nameAndType 15 12), (0, u "MAX"), (0, .methodref 8 17), (0, .nameAndType 18 19), (0, u "toMinimised"), (0, u "(D)D"), (0, .class_ 21), (0, u "com/example/pareto_loom/paretoloom/model/GoalToMinimisedPinLaw"), (2, u "law"), (0, u "(III)Z")] 3

def k1m0 : Method := { name := "<init>", desc := "()V", sig := { parameters := [], returnType := none }, accessFlags := 1, code := none }
def k1c1 : Code := { maxStack := 5, maxLocals := 17, code := code, exceptionTable := #[], attributes := #[] }
def k1m1 : Method := { name := "law", desc := "(III)Z", sig := { parameters := [.int, .int, .int], returnType := some .boolean }, accessFlags := 9, code := some k1c1 }
/-- com/example/pareto_loom/paretoloom/model/GoalToMinimisedPinLaw -/
def k1 : Class := { plain "com/example/pareto_loom/paretoloom/model/GoalToMinimisedPinLaw" (some 0) with
  accessFlags := 49
  interfaces := #[]
  cf := some (fileOf pool1 20 #[] #[{ accessFlags := 1, nameIndex := 5, descriptorIndex := 6, attributes := #[] }, { accessFlags := 9, nameIndex := 24, descriptorIndex := 25, attributes := #[] }] 49 2 #[] #[])
  fields := #[]
  methods := #[k1m0, k1m1]
  instanceTypes := #[]
  staticTypes := #[]
  resolved := Array.replicate 29 none
  statics := none }

def pool2 : Array CpInfo := pool [(1, .class_ 2), (0, u "java/lang/constant/Constable"), (0, .class_ 4), (0, u "java/lang/Object")] 6

/-- java/lang/constant/Constable -/
def k2 : Class := { plain "java/lang/constant/Constable" (some 0) with
  accessFlags := 1537
  interfaces := #[]
  cf := some (fileOf pool2 1 #[] #[] 1537 3 #[] #[])
  fields := #[]
  methods := #[]
  instanceTypes := #[]
  staticTypes := #[]
  resolved := Array.replicate 11 none
  statics := none }

def pool3 : Array CpInfo := pool [(1, .class_ 2), (0, u "java/lang/Comparable"), (0, .class_ 4), (0, u "java/lang/Object")] 7

/-- java/lang/Comparable -/
def k3 : Class := { plain "java/lang/Comparable" (some 0) with
  accessFlags := 1537
  interfaces := #[]
  cf := some (fileOf pool3 1 #[] #[] 1537 3 #[] #[])
  fields := #[]
  methods := #[]
  instanceTypes := #[]
  staticTypes := #[]
  resolved := Array.replicate 12 none
  statics := none }

def pool4 : Array CpInfo := pool [(1, .class_ 2), (0, u "java/io/Serializable"), (0, .class_ 4), (0, u "java/lang/Object")] 2

/-- java/io/Serializable -/
def k4 : Class := { plain "java/io/Serializable" (some 0) with
  accessFlags := 1537
  interfaces := #[]
  cf := some (fileOf pool4 1 #[] #[] 1537 3 #[] #[])
  fields := #[]
  methods := #[]
  instanceTypes := #[]
  staticTypes := #[]
  resolved := Array.replicate 7 none
  statics := none }

def pool5 : Array CpInfo := pool [(2, .class_ 4), (1, u "java/lang/Enum"), (0, u "name"), (0, u "Ljava/lang/String;"), (2, u "ordinal"), (0, u "I"), (1, .class_ 14), (1, u "java/lang/Object"), (4, u "hash"), (86, .class_ 108), (1, u "java/lang/Enum$EnumDesc"), (2, .class_ 112), (0, u "java/lang/constant/Constable"), (0, .class_ 114), (0, u "java/lang/Comparable"), (0, .class_ 116), (0, u "java/io/Serializable")] 87

/-- java/lang/Enum -/
def k5 : Class := { plain "java/lang/Enum" (some 0) with
  accessFlags := 1057
  interfaces := #[2, 3, 4]
  cf := some (fileOf pool5 2 #[.nestMembers #[106]] #[] 1057 12 #[111, 113, 115] #[{ accessFlags := 18, nameIndex := 5, descriptorIndex := 6, attributes := #[] }, { accessFlags := 18, nameIndex := 9, descriptorIndex := 10, attributes := #[] }, { accessFlags := 2, nameIndex := 19, descriptorIndex := 10, attributes := #[] }])
  fields := #[{ name := "name", type := (.object "java/lang/String"), accessFlags := 18, slot := 0, constantValue := 0 }, { name := "ordinal", type := .int, accessFlags := 18, slot := 1, constantValue := 0 }, { name := "hash", type := .int, accessFlags := 2, slot := 2, constantValue := 0 }]
  methods := #[]
  instanceTypes := #[(.object "java/lang/String"), .int, .int]
  staticTypes := #[]
  resolved := Array.replicate 204 none
  statics := none }

def pool6 : Array CpInfo := pool [(2, .class_ 4), (1, u "com/example/pareto_loom/paretoloom/model/Labelled"), (25, .class_ 31), (0, u "java/lang/Object")] 13

/-- com/example/pareto_loom/paretoloom/model/Labelled -/
def k6 : Class := { plain "com/example/pareto_loom/paretoloom/model/Labelled" (some 0) with
  accessFlags := 1537
  interfaces := #[]
  cf := some (fileOf pool6 2 #[] #[] 1537 30 #[] #[])
  fields := #[]
  methods := #[]
  instanceTypes := #[]
  staticTypes := #[]
  resolved := Array.replicate 45 none
  statics := none }

def pool7 : Array CpInfo := pool [(1, .class_ 2), (0, u "com/example/pareto_loom/paretoloom/model/Goal"), (0, .fieldref 1 4), (0, .nameAndType 5 6), (0, u "MIN"), (0, u "Lcom/example/pareto_loom/paretoloom/model/Goal;"), (2, u "MAX"), (2, u "$VALUES"), (0, u "[Lcom/example/pareto_loom/paretoloom/model/Goal;"), (6, .class_ 22), (1, u "java/lang/Enum"), (8, u "label"), (0, u "Ljava/lang/String;"), (5, .class_ 40), (1, u "com/example/pareto_loom/paretoloom/model/Labelled"), (31, u "toMinimised"), (0, u "(D)D")] 8

def k7c0 : Code := { maxStack := 2, maxLocals := 3, code := prog_34_method_6_code, exceptionTable := #[], attributes := #[] }
def k7m0 : Method := { name := "toMinimised", desc := "(D)D", sig := { parameters := [.double], returnType := some .double }, accessFlags := 1, code := some k7c0 }
/-- com/example/pareto_loom/paretoloom/model/Goal -/
def k7 : Class := { plain "com/example/pareto_loom/paretoloom/model/Goal" (some 5) with
  accessFlags := 16433
  interfaces := #[6]
  cf := some (fileOf pool7 1 #[] #[{ accessFlags := 1, nameIndex := 72, descriptorIndex := 73, attributes := #[] }] 16433 20 #[38] #[{ accessFlags := 16409, nameIndex := 5, descriptorIndex := 6, attributes := #[] }, { accessFlags := 16409, nameIndex := 9, descriptorIndex := 6, attributes := #[] }, { accessFlags := 18, nameIndex := 31, descriptorIndex := 32, attributes := #[] }, { accessFlags := 4122, nameIndex := 12, descriptorIndex := 13, attributes := #[] }])
  fields := #[{ name := "MIN", type := (.object "com/example/pareto_loom/paretoloom/model/Goal"), accessFlags := 16409, slot := 0, constantValue := 0 }, { name := "MAX", type := (.object "com/example/pareto_loom/paretoloom/model/Goal"), accessFlags := 16409, slot := 1, constantValue := 0 }, { name := "label", type := (.object "java/lang/String"), accessFlags := 18, slot := 3, constantValue := 0 }, { name := "$VALUES", type := (.array (.object "com/example/pareto_loom/paretoloom/model/Goal")), accessFlags := 4122, slot := 2, constantValue := 0 }]
  methods := #[k7m0]
  instanceTypes := #[(.object "java/lang/String"), .int, .int, (.object "java/lang/String")]
  staticTypes := #[(.object "com/example/pareto_loom/paretoloom/model/Goal"), (.object "com/example/pareto_loom/paretoloom/model/Goal"), (.array (.object "com/example/pareto_loom/paretoloom/model/Goal"))]
  resolved := Array.replicate 82 none
  statics := some 0 }

def pool8 : Array CpInfo := pool [(1, u "java/lang/Cloneable"), (0, .class_ 1), (0, u "java/lang/Object"), (0, .class_ 3)] 3

/-- java/lang/Cloneable -/
def k8 : Class := { plain "java/lang/Cloneable" (some 0) with
  accessFlags := 1537
  interfaces := #[]
  cf := some (fileOf pool8 2 #[] #[] 1537 4 #[] #[])
  fields := #[]
  methods := #[]
  instanceTypes := #[]
  staticTypes := #[]
  resolved := Array.replicate 8 none
  statics := none }

/-- the primitive byte -/
def k9 : Class := { plain "byte" none with kind := .primitive 'B', accessFlags := 0x411 }
/-- [B -/
def k10 : Class := { plain "[B" (some 0) with kind := .array 9 .byte, interfaces := #[8, 4], accessFlags := 1041 }

/-- the primitive int -/
def k11 : Class := { plain "int" none with kind := .primitive 'I', accessFlags := 0x411 }
/-- [I -/
def k12 : Class := { plain "[I" (some 0) with kind := .array 11 .int, interfaces := #[8, 4], accessFlags := 1041 }

def heap : Heap := #[{ cls := 7, slots := #[.ref 1, .ref 2, .null], vm := .statics 7 },
  { cls := 7, slots := #[.null, .int 0, .int 0, .null], vm := .none },
  { cls := 7, slots := #[.null, .int 1, .int 0, .null], vm := .none }]
def classes : Array Class := #[k0, k1, k2, k3, k4, k5, k6, k7, k8, k9, k10, k11, k12]
def interned : List (Array UInt16 × Addr) := []
def slotsUsed : Nat := 11
def theMethod : MethodId := ⟨1, 1⟩
def args0 : Array Value := #[.int 5, .int 3, .int 7]
def aboutOver (below : List Frame) : State where
  vm := { classes := classes, interned := interned.toArray }
  heap := heap
  slotsUsed := slotsUsed
  threads := #[{ frames := .invoking theMethod args0 :: below }]
def below0 : List Frame := [.native { method := ⟨0, 0⟩, args := #[] }]
def about1 : State := aboutOver below0
def p0 : Program := .bare "" "" ""
def e0 : Env := launch0.env 0 0 0
theorem w_frames : about1.frames = Frame.invoking theMethod args0 :: below0 := rfl
set_option maxRecDepth 65536 in
theorem w_args : argsFit about1.vm theMethod args0 = true := by decide +kernel
set_option maxRecDepth 65536 in
theorem w_heap : heapFits about1 = true := by decide +kernel
set_option maxRecDepth 65536 in
theorem w_runnable : about1.curStatus? = some .runnable := by decide +kernel
set_option maxRecDepth 65536 in
theorem w_alone : about1.alone = true := by decide +kernel
set_option maxRecDepth 65536 in
theorem w_named : about1.methodNamed? x = some theMethod := by decide +kernel
set_option maxRecDepth 65536 in
theorem w_hears : about1.hears theMethod below0 = true := by decide +kernel
set_option maxRecDepth 65536 in
theorem w_ripe : about1.ripe theMethod args0 below0 = true := by decide +kernel
theorem w_running : about1.status = .running := rfl
set_option maxRecDepth 65536 in
theorem w_room : about1.hasRoom e0.platform room_1 = true :=
  launch0.hasRoom_least _ room_1 (by decide +kernel) (by decide +kernel) (by decide +kernel) (by decide +kernel) (by decide +kernel) (by decide +kernel)
theorem allAtoms_all (ts : List Jvm.Cond) (a : Array Jvm.Value) (st : Jvm.State) : (allAtoms ts).before a st = ts.all (fun c => c.before a st) := by
  induction ts with
  | nil => rfl
  | cons c t ih =>
    show (Jvm.Cond.and c (allAtoms t)).before a st = _
    rw [Jvm.Cond.before_and, ih, List.all_cons]
def words1 : List Jvm.Cond := Jvm.Cond.code x code maxLocals ret :: tables_1
/-- a 'code' word, met by the world's own term for the bytes: nothing is compared byte by byte -/
theorem code_word {y : MethodName} {bytes : ByteArray} {mx : Nat} {rt : Option FieldType} {a : Array Value} {s : State} {m : MethodId} {meth : Method} {c : Code} (h1 : s.methodNamed? y = some m) (h2 : s.vm.method? m = some meth) (h3 : meth.code = some c) (h4 : c.code = bytes)
    (h5 : (c.maxLocals == mx && c.exceptionTable.isEmpty && decide (c.maxStack ≤ mostOperands) && decide (meth.sig.returnType = rt) && !meth.locks && decide (parseMethodDescriptor y.desc = some meth.sig)) = true) : (Jvm.Cond.code y bytes mx rt).before a s = true := by
  simp only [Bool.and_eq_true, beq_iff_eq, Bool.not_eq_true', decide_eq_true_eq] at h5
  obtain ⟨⟨⟨⟨⟨g1, g2⟩, g3⟩, g4⟩, g5⟩, g6⟩ := h5
  simp [Cond.before, Cond.holds, Cond.value, h1, h2, h3, h4, g1, g2, g3, g4, g5, g6]
def isCode : Jvm.Cond → Bool
  | .code _ _ _ _ => true
  | _ => false
theorem all_split {L : List Jvm.Cond} {P : Jvm.Cond → Bool} (h1 : L.all (fun c => isCode c || P c) = true) (h2 : ∀ c ∈ L.filter isCode, P c = true) : L.all P = true := by
  refine List.all_eq_true.mpr fun c hc => ?_
  have h := List.all_eq_true.mp h1 c hc
  rcases Bool.eq_false_or_eq_true (isCode c) with hi | hi
  · exact h2 c (List.mem_filter.mpr ⟨hc, hi⟩)
  · simpa [hi] using h
set_option maxRecDepth 65536 in
theorem w_c0 : (Jvm.Cond.code x code maxLocals ret).before args0 about1 = true := code_word (m := ⟨1, 1⟩) (meth := k1m1) (c := k1c1) (by decide +kernel) rfl rfl rfl (by decide +kernel)
set_option maxRecDepth 65536 in
theorem w_c1 : (Jvm.Cond.code ({ cls := "com/example/pareto_loom/paretoloom/model/Goal", name := "toMinimised", desc := "(D)D" } : Jvm.MethodName) prog_34_method_6_code (3 : Nat) (Option.some Jvm.ClassFile.FieldType.double)).before args0 about1 = true := code_word (m := ⟨7, 0⟩) (meth := k7m0) (c := k7c0) (by decide +kernel) rfl rfl rfl (by decide +kernel)
def codes1 : List Jvm.Cond := [Jvm.Cond.code x code maxLocals ret, Jvm.Cond.code ({ cls := "com/example/pareto_loom/paretoloom/model/Goal", name := "toMinimised", desc := "(D)D" } : Jvm.MethodName) prog_34_method_6_code (3 : Nat) (Option.some Jvm.ClassFile.FieldType.double)]
set_option maxRecDepth 65536 in
theorem codes_eq : words1.filter isCode = codes1 := rfl
theorem w_codes : ∀ c ∈ words1.filter isCode, c.before args0 about1 = true := by
  rw [codes_eq]
  intro c hc
  simp only [codes1, List.mem_cons, List.not_mem_nil, or_false] at hc
  rcases hc with rfl | rfl
  · exact w_c0
  · exact w_c1
set_option maxRecDepth 65536 in
theorem w_t1 : words1.all (fun c => isCode c || c.before args0 about1) = true := by decide +kernel
theorem w_tables : (allAtoms (Jvm.Cond.code x code maxLocals ret :: tables_1)).before args0 about1 = true := by
  rw [allAtoms_all]
  show words1.all (fun c => c.before args0 about1) = true
  refine all_split ?_ w_codes
  rw [w_t1]
set_option maxRecDepth 65536 in
theorem w_case : (Jvm.Cond.and given_1 narrow_1).before args0 about1 = true := by decide +kernel
theorem w_applies : (headSpec (Jvm.Cond.code x code maxLocals ret :: tables_1) room_1).applies x e0.platform about1 = true :=
  (Spec.applies_iff w_frames).mpr ⟨w_running, w_runnable, w_alone, w_named, w_hears, w_ripe, w_room, w_tables⟩
theorem atStart : AtStart classFile x code maxLocals ret World_1 tables_1 room_1 Calls_1 rest_1 Pre_1 launch0 p0 e0 about1 theMethod args0 below0 :=
  ⟨lists_1, trivial, launch0.admits_env _ _ _, launch0.least_env, fairChoices_fair.cas, fairChoices_fair.clock, w_frames, w_args, w_heap, w_applies, trivial, trivial, w_case⟩
end start1
theorem witness_1 : WitnessClaimed_1 := ⟨start1.p0, start1.e0, start1.about1, start1.theMethod, start1.args0, start1.below0, start1.atStart⟩
end Jvm.Pilot.@@N@@
