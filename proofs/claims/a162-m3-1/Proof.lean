import JvmDerived
import JvmDerived.Pilot.@@N@@Statement
import JvmDerived.Pilot.@@N@@Code
set_option linter.unusedVariables false
set_option linter.unusedSimpArgs false
namespace Jvm.RoadKit
open Sem ClassFile Op Lib Jvm.Stand Jvm.Free Jvm.LawKit
section New
variable {p : Program} {l : Launch} {e : Env} {R : Room} {s : State} {m : MethodId} {args : Array Value} {below : List Frame} {meth : Method} {c : Code} {T : State} {locs : List Loc} {cells slots : Nat}
theorem retI (X : Stand p l e R s m args below meth c T locs cells slots) (hx : p.tables.exec = Jvm.exec) {pc : Nat} {Ls : Array Slot} {z : Int32} {rest : List Value} (hret : meth.sig.returnType = some .int) (hd : decode c.code pc = .ok (.ireturn, 1)) {fs : List Frame}
    (hl : ∀ (f : JFrame) (acts : List Action), f.method = m → f.locked = none → f.entered = [] → (doReturn e (T.setTop f) acts (some (.int z))).1 = T.setFrames fs) : Steps p.tables e below (T.setTop (mkF m pc Ls (.int z :: rest))) (T.setFrames fs) := by
  have hm' : T.vm.method? m = some meth := X.method'
  have hn : narrow .int (.int z) = .int z := rfl
  show Steps p.tables e below (T.setTop { method := m, pc := pc, locals := Ls, stack := _ :: rest, locked := none }) _
  jvm_step X.here [X.here.top, hx, hd, hm', hret, hn]
  first | (intro acts; rw [hl _ acts rfl rfl rfl]) | rw [hl _ _ rfl rfl rfl]
  exact Steps.refl _
theorem own_retJ (X : Stand p l e R s m args below meth c T locs cells slots) (hx : p.tables.exec = Jvm.exec) {pc : Nat} {Ls : Array Slot} {z : Int64} {rest : List Value} (hret : meth.sig.returnType = some .long) (hd : decode c.code pc = .ok (.lreturn, 1)) {fs : List Frame}
    (hl : ∀ (f : JFrame) (acts : List Action), f.method = m → f.locked = none → f.entered = [] → (doReturn e (T.setTop f) acts (some (.long z))).1 = T.setFrames fs) : Steps p.tables e below (T.setTop (mkF m pc Ls (.long z :: rest))) (T.setFrames fs) := by
  have hm' : T.vm.method? m = some meth := X.method'
  show Steps p.tables e below (T.setTop { method := m, pc := pc, locals := Ls, stack := _ :: rest, locked := none }) _
  jvm_step X.here [X.here.top, hx, hd, hm', hret, narrow]
  first | (intro acts; rw [hl _ acts rfl rfl rfl]) | rw [hl _ _ rfl rfl rfl]
  exact Steps.refl _
theorem own_retD (X : Stand p l e R s m args below meth c T locs cells slots) (hx : p.tables.exec = Jvm.exec) {pc : Nat} {Ls : Array Slot} {z : UInt64} {rest : List Value} (hret : meth.sig.returnType = some .double) (hd : decode c.code pc = .ok (.dreturn, 1)) {fs : List Frame}
    (hl : ∀ (f : JFrame) (acts : List Action), f.method = m → f.locked = none → f.entered = [] → (doReturn e (T.setTop f) acts (some (.double z))).1 = T.setFrames fs) : Steps p.tables e below (T.setTop (mkF m pc Ls (.double z :: rest))) (T.setFrames fs) := by
  have hm' : T.vm.method? m = some meth := X.method'
  show Steps p.tables e below (T.setTop { method := m, pc := pc, locals := Ls, stack := _ :: rest, locked := none }) _
  jvm_step X.here [X.here.top, hx, hd, hm', hret, narrow]
  first | (intro acts; rw [hl _ acts rfl rfl rfl]) | rw [hl _ _ rfl rfl rfl]
  exact Steps.refl _
theorem own_retR (X : Stand p l e R s m args below meth c T locs cells slots) (hx : p.tables.exec = Jvm.exec) {pc : Nat} {Ls : Array Slot} {z : Addr} {rest : List Value} {ty : FieldType} (hret : meth.sig.returnType = some ty) (hty : ty.isReference = true) (hd : decode c.code pc = .ok (.areturn, 1)) {fs : List Frame}
    (hl : ∀ (f : JFrame) (acts : List Action), f.method = m → f.locked = none → f.entered = [] → (doReturn e (T.setTop f) acts (some (.ref z))).1 = T.setFrames fs) : Steps p.tables e below (T.setTop (mkF m pc Ls (.ref z :: rest))) (T.setFrames fs) := by
  have hm' : T.vm.method? m = some meth := X.method'
  show Steps p.tables e below (T.setTop { method := m, pc := pc, locals := Ls, stack := _ :: rest, locked := none }) _
  jvm_step X.here [X.here.top, hx, hd, hm', hret, hty, Value.isRef]
  first | (intro acts; rw [hl _ acts rfl rfl rfl]) | rw [hl _ _ rfl rfl rfl]
  exact Steps.refl _
theorem own_selp {Z : State} {a0 : Array Value} {y : MethodName} {n : Nat} (hy : y.cls ≠ "java/lang/invoke/MethodHandle" ∧ y.cls ≠ "java/lang/invoke/VarHandle") (h1 : (Cond.instantiable y.cls n).before a0 Z = true) (h2 : (Cond.privateMethod y).before a0 Z = true) (h3 : (Cond.instanceMethod y).before a0 Z = true) : (Cond.selects y.cls y y).before a0 Z = true := by
  obtain ⟨c, k, hc, hk, -, hf, -⟩ := Cond.instantiable_spec h1
  exact selects_self_of_private hc hk (Bool.or_eq_false_iff.mp hf).1 (Cond.privateMethod_at h2) h3 hy
theorem own_nm0 {a : Addr} : a ∉ ([] : List Addr) := List.not_mem_nil
theorem own_nmc {a w : Addr} {ws : List Addr} (h : a ≠ w) (r : a ∉ ws) : a ∉ w :: ws := fun q => (List.mem_cons.mp q).elim h r
theorem own_wm0 {P : Addr → Prop} : ∀ x ∈ ([] : List Addr), P x := fun _ q => nomatch q
theorem own_wmc {P : Addr → Prop} {w : Addr} {ws : List Addr} (h : P w) (r : ∀ x ∈ ws, P x) : ∀ x ∈ w :: ws, P x := fun x q => (List.mem_cons.mp q).elim (fun z => z ▸ h) (r x)
end New
end Jvm.RoadKit
namespace Jvm.OwnFP
open Jvm.FP Jvm.Free.Fl Sem ClassFile Op
/-- the double's value in units of 2 ^ -1074 -/
def zv (x : UInt64) : Int := Core.zval Core.b64 (Core.val64 x)
def zm (x : UInt64) : Nat := Core.zmag Core.b64 (Core.val64 x)
theorem nn {x : UInt64} (h : NoNaN64 x) : Core.val64 x ≠ .nan := (Core.notNaN_iff x).mp (noNaN64_no.mp h)
theorem nnF {x : UInt64} (h : Fin64 x) : NoNaN64 x := h.noNaN
theorem cv {x y : UInt64} (hx : NoNaN64 x) (hy : NoNaN64 y) (o : CmpOp) : cmpValue (FP.dcmp x y) o = if zv x < zv y then -1 else if zv x = zv y then 0 else 1 := by
  have h : FP.dcmp x y = some (compare (zv x) (zv y)) := Core.dcmp_zval (nn hx) (nn hy)
  rw [h, Core.compare_ite]
  by_cases h1 : zv x < zv y
  · rw [if_pos h1, if_pos h1]; cases o <;> rfl
  · rw [if_neg h1, if_neg h1]
    by_cases h2 : zv x = zv y
    · rw [if_pos h2, if_pos h2]; cases o <;> rfl
    · rw [if_neg h2, if_neg h2]; cases o <;> rfl
theorem cv_lt {x y : UInt64} (hx : NoNaN64 x) (hy : NoNaN64 y) (h : zv x < zv y) (o : CmpOp) : cmpValue (FP.dcmp x y) o = -1 := by rw [cv hx hy, if_pos h]
theorem cv_eq {x y : UInt64} (hx : NoNaN64 x) (hy : NoNaN64 y) (h : zv x = zv y) (o : CmpOp) : cmpValue (FP.dcmp x y) o = 0 := by rw [cv hx hy, if_neg (by omega), if_pos h]
theorem cv_gt {x y : UInt64} (hx : NoNaN64 x) (hy : NoNaN64 y) (h : zv y < zv x) (o : CmpOp) : cmpValue (FP.dcmp x y) o = 1 := by rw [cv hx hy, if_neg (by omega), if_neg (by omega)]
theorem cv_ge {x y : UInt64} (hx : NoNaN64 x) (hy : NoNaN64 y) (h : zv y ≤ zv x) (o : CmpOp) : ¬ cmpValue (FP.dcmp x y) o < 0 := by
  rw [cv hx hy, if_neg (by omega)]; split <;> decide
theorem cv_le {x y : UInt64} (hx : NoNaN64 x) (hy : NoNaN64 y) (h : zv x ≤ zv y) (o : CmpOp) : ¬ 0 < cmpValue (FP.dcmp x y) o := by
  rw [cv hx hy]; split
  · decide
  · rw [if_pos (by omega)]; decide
theorem sh {x : UInt64} (h : Fin64 x) : ∃ s c q, Core.val64 x = .fin s c q := fin64_core.mp h
theorem zv_dint {i : Int} {x : UInt64} (h : Core.DInt i x) : zv x = i * (Core.one64 : Int) := Core.DInt_zval h
theorem zv_zero : zv 0 = 0 := Core.zval64_zero
theorem fin_zero : Fin64 0 := by unfold Fin64; decide
theorem fin_one : Fin64 4607182418800017408 := by unfold Fin64; decide
theorem one_pos : (0 : Int) < (Core.one64 : Int) := by have := Core.one64_pos; omega
theorem zv_sgn (x : UInt64) : zv x = Core.signed (Core.sgn (Core.val64 x)) (zm x) := rfl
theorem zm_abs (x : UInt64) : (zv x).natAbs = zm x := by rw [zv_sgn, Core.natAbs_signed]
theorem add_le {x y v : UInt64} (hx : Fin64 x) (hy : Fin64 y) (hv : NoNaN64 v) (h : zv x + zv y ≤ zv v) : zv (FP.dadd x y) ≤ zv v := by
  show Core.zval Core.b64 (Core.val64 (Core.dadd x y)) ≤ _
  rw [Core.val64_dadd]
  exact Core.sum_le Core.good_b64 (sh hx) (sh hy) (Core.val64_fits x) (Core.val64_fits y) (Core.val64_fits v) (nn hv) h
theorem add_ge {x y v : UInt64} (hx : Fin64 x) (hy : Fin64 y) (hv : NoNaN64 v) (h : zv v ≤ zv x + zv y) : zv v ≤ zv (FP.dadd x y) := by
  show _ ≤ Core.zval Core.b64 (Core.val64 (Core.dadd x y))
  rw [Core.val64_dadd]
  exact Core.sum_ge Core.good_b64 (sh hx) (sh hy) (Core.val64_fits x) (Core.val64_fits y) (Core.val64_fits v) (nn hv) h
theorem shn {x : UInt64} (h : Fin64 x) : ∃ s c q, Core.negate (Core.val64 x) = .fin s c q := by
  obtain ⟨s, c, q, e⟩ := sh h; exact ⟨!s, c, q, by rw [e]; rfl⟩
theorem sub_le {x y v : UInt64} (hx : Fin64 x) (hy : Fin64 y) (hv : NoNaN64 v) (h : zv x - zv y ≤ zv v) : zv (FP.dsub x y) ≤ zv v := by
  show Core.zval Core.b64 (Core.val64 (Core.dsub x y)) ≤ _
  rw [Core.val64_dsub]
  exact Core.sum_le Core.good_b64 (sh hx) (shn hy) (Core.val64_fits x) (Core.negate_fits (Core.val64_fits y)) (Core.val64_fits v) (nn hv) (by rw [Core.zval_negate]; exact h)
theorem sub_ge {x y v : UInt64} (hx : Fin64 x) (hy : Fin64 y) (hv : NoNaN64 v) (h : zv v ≤ zv x - zv y) : zv v ≤ zv (FP.dsub x y) := by
  show _ ≤ Core.zval Core.b64 (Core.val64 (Core.dsub x y))
  rw [Core.val64_dsub]
  exact Core.sum_ge Core.good_b64 (sh hx) (shn hy) (Core.val64_fits x) (Core.negate_fits (Core.val64_fits y)) (Core.val64_fits v) (nn hv) (by rw [Core.zval_negate]; exact h)
/-- no NaN and no greater than something finite: finite -/
theorem fin_of {x v : UInt64} (hx : NoNaN64 x) (hv : Fin64 v) (h : zm x ≤ zm v) : Fin64 x := by
  refine fin64_core.mpr ?_
  have h1 : Core.zmag Core.b64 (Core.val64 v) < _ := (fin64_core.mp hv).zval_lt
  have h2 := nn hx
  unfold zm at h
  cases e : Core.val64 x with
  | nan => exact absurd e h2
  | inf s => rw [e] at h; exact absurd (Nat.lt_of_le_of_lt h h1) (Nat.lt_irrefl _)
  | fin s c q => exact ⟨s, c, q, e⟩
/-- 2 ^ -k in those units -/
def U (k : Nat) : Int := ((2 ^ (1074 - k) : Nat) : Int)
theorem U_pos (k : Nat) : 0 < U k := by unfold U; have := Nat.two_pow_pos (1074 - k); omega
theorem U_zero : U 0 = (Core.one64 : Int) := rfl
theorem U_add {k j : Nat} (h : k + j ≤ 1074) : U k = ((2 ^ j : Nat) : Int) * U (k + j) := by
  unfold U
  rw [← Int.natCast_mul, ← Nat.pow_add, show j + (1074 - (k + j)) = 1074 - k by omega]
/-- x is i / 2 ^ k, exactly -/
def Is (x : UInt64) (i : Int) (k : Nat) : Prop := Fin64 x ∧ zv x = i * U k
theorem signed_abs (i : Int) : Core.signed (decide (i < 0)) i.natAbs = i := by
  unfold Core.signed
  by_cases h : i < 0
  · simp [h]; omega
  · simp [h]; omega
theorem repr (i : Int) (k : Nat) (hk : k ≤ 1074) (hi : i.natAbs < 2 ^ 53) : ∃ v : UInt64, Is v i k := by
  obtain ⟨c', q', h1, h2⟩ := Core.round_exact Core.good_b64 (decide (i < 0)) (c := i.natAbs) (q := -(k : Int)) hi (by rw [Core.qmin_b64]; omega) (by show _ ≤ (971 : Int); omega)
  have hf : Core.fits Core.b64 (.fin (decide (i < 0)) c' q') := h1 ▸ Core.round_fits Core.good_b64 _
  have hv := Core.val64_of64 hf
  refine ⟨Core.of64 (.fin (decide (i < 0)) c' q'), fin64_core.mpr ⟨_, _, _, hv⟩, ?_⟩
  unfold zv Core.zval
  rw [hv]
  show Core.signed (decide (i < 0)) (Core.inUnits c' q' Core.b64.qmin) = _
  rw [h2]
  unfold Core.inUnits
  rw [Core.signed_mul, signed_abs, Core.qmin_b64]
  unfold U
  rw [show (-(k : Int) - -1074).toNat = 1074 - k by omega]
theorem is_dint {i : Int} {x : UInt64} (h : Core.DInt i x) (hf : Fin64 x) : Is x i 0 := ⟨hf, by rw [zv_dint h, U_zero]⟩
theorem is_i2d (v : Int32) : Is (FP.i2d v) v.toInt 0 := is_dint (Core.i2d_int v) (i2d_fin v)
theorem is_l2d {v : Int64} (h : v.toInt.natAbs ≤ 2 ^ 53) : Is (FP.l2d v) v.toInt 0 := is_dint (Core.l2d_int h) (l2d_fin v)
theorem is_zero (k : Nat) : Is 0 0 k := ⟨fin_zero, by rw [zv_zero, Int.zero_mul]⟩
theorem is_one : Is 4607182418800017408 1 0 := is_dint Core.dint_one fin_one
theorem Is.nn {x : UInt64} {i : Int} {k : Nat} (h : Is x i k) : NoNaN64 x := h.1.noNaN
theorem Is.up {x : UInt64} {i : Int} {k : Nat} (h : Is x i k) (j : Nat) (hj : k + j ≤ 1074) : Is x (i * ((2 ^ j : Nat) : Int)) (k + j) := ⟨h.1, by rw [h.2, U_add hj, Int.mul_assoc]⟩
theorem is_val {x v : UInt64} {i : Int} {k : Nat} (hn : NoNaN64 x) (hv : Is v i k) (h : zv x = zv v) : Is x i k := ⟨fin_of hn hv.1 (by rw [← zm_abs, ← zm_abs, h]; exact Nat.le_refl _), h.trans hv.2⟩
theorem Is.add {x y : UInt64} {i j : Int} {k : Nat} (hx : Is x i k) (hy : Is y j k) (hk : k ≤ 1074) (h : (i + j).natAbs < 2 ^ 53) : Is (FP.dadd x y) (i + j) k := by
  obtain ⟨v, hv⟩ := repr (i + j) k hk h
  have e : zv x + zv y = zv v := by rw [hx.2, hy.2, hv.2, Int.add_mul]
  exact is_val (dadd_out hx.nn hy.1) hv (Int.le_antisymm (add_le hx.1 hy.1 hv.nn (by omega)) (add_ge hx.1 hy.1 hv.nn (by omega)))
theorem Is.sub {x y : UInt64} {i j : Int} {k : Nat} (hx : Is x i k) (hy : Is y j k) (hk : k ≤ 1074) (h : (i - j).natAbs < 2 ^ 53) : Is (FP.dsub x y) (i - j) k := by
  obtain ⟨v, hv⟩ := repr (i - j) k hk h
  have e : zv x - zv y = zv v := by rw [hx.2, hy.2, hv.2, Int.sub_mul]
  exact is_val (dsub_out hx.nn hy.1) hv (Int.le_antisymm (sub_le hx.1 hy.1 hv.nn (by omega)) (sub_ge hx.1 hy.1 hv.nn (by omega)))
theorem Is.lt_iff {x y : UInt64} {i j : Int} {k : Nat} (hx : Is x i k) (hy : Is y j k) : zv x < zv y ↔ i < j := by
  rw [hx.2, hy.2]; exact Int.mul_lt_mul_right (U_pos k)
theorem Is.eq_iff {x y : UInt64} {i j : Int} {k : Nat} (hx : Is x i k) (hy : Is y j k) : zv x = zv y ↔ i = j := by
  rw [hx.2, hy.2]; exact ⟨fun h => Int.eq_of_mul_eq_mul_right (Int.ne_of_gt (U_pos k)) h, fun h => by rw [h]⟩
theorem Is.cmp {x y : UInt64} {i j : Int} {k : Nat} (hx : Is x i k) (hy : Is y j k) (o : CmpOp) : cmpValue (FP.dcmp x y) o = if i < j then -1 else if i = j then 0 else 1 := by
  rw [cv hx.nn hy.nn]
  simp only [hx.lt_iff hy, hx.eq_iff hy]
/-- a quotient: her magnitude lies on the same side of any double as the true one; her sign is the signs' product -/
theorem div_shape {x y : UInt64} (hx : Fin64 x) (hy : Fin64 y) (hz : zm y ≠ 0) : ∃ (s t : Bool) (c d : Nat) (q r : Int), Core.val64 x = .fin s c q ∧ Core.val64 y = .fin t d r ∧ 0 < d ∧ Core.val64 (FP.ddiv x y) = Core.roundRatio Core.b64 (s != t) c d (q - r) := by
  obtain ⟨s, c, q, e1⟩ := sh hx
  obtain ⟨t, d, r, e2⟩ := sh hy
  have hd : d ≠ 0 := fun h => hz (by unfold zm; rw [e2]; show Core.inUnits d r _ = 0; rw [h]; simp [Core.inUnits])
  refine ⟨s, t, c, d, q, r, e1, e2, by omega, ?_⟩
  have := Core.val64_ddiv x y
  rw [e1, e2] at this
  show Core.val64 (Core.ddiv x y) = _
  rw [this]
  simp [Core.quotient, hd]
theorem units2 (c : Nat) (q r : Int) (hq : -1074 ≤ q) (hr : -1074 ≤ r) : Core.inUnits c (q - r) (-1074 - (r + 1074)) = Core.inUnits c q (-1074) * Core.one64 := by
  unfold Core.inUnits Core.one64
  rw [Nat.mul_assoc, ← Nat.pow_add]
  congr 2
  omega
theorem div_le {x y v : UInt64} (hx : Fin64 x) (hy : Fin64 y) (hz : zm y ≠ 0) (hv : NoNaN64 v) (h : zm x * Core.one64 ≤ zm v * zm y) : zm (FP.ddiv x y) ≤ zm v := by
  obtain ⟨s, t, c, d, q, r, e1, e2, hd, e3⟩ := div_shape hx hy hz
  have f1 := Core.val64_fits x; have f2 := Core.val64_fits y
  rw [e1] at f1; rw [e2] at f2
  have q1 := f1.2.1; have r1 := f2.2.1
  rw [Core.qmin_b64] at q1 r1
  unfold zm at h ⊢
  rw [e3]
  rw [e1, e2] at h
  refine Core.zmag_roundRatio_le Core.good_b64 hd (Core.val64_fits v) (nn hv) (e0 := -1074 - (r + 1074)) (by rw [Core.qmin_b64]; omega) (by omega) ?_
  rw [units2 c q r q1 r1, Core.qmin_b64, show (-1074 - (-1074 - (r + 1074))).toNat = (r + 1074).toNat by omega]
  change Core.inUnits c q Core.b64.qmin * _ ≤ _ * Core.inUnits d r Core.b64.qmin at h
  rw [Core.qmin_b64] at h
  refine Nat.le_trans h (Nat.le_of_eq ?_)
  unfold Core.inUnits
  rw [show (r - -1074).toNat = (r + 1074).toNat by omega]
  ac_rfl
theorem div_ge {x y v : UInt64} (hx : Fin64 x) (hy : Fin64 y) (hz : zm y ≠ 0) (h : zm v * zm y ≤ zm x * Core.one64) : zm v ≤ zm (FP.ddiv x y) := by
  obtain ⟨s, t, c, d, q, r, e1, e2, hd, e3⟩ := div_shape hx hy hz
  have f1 := Core.val64_fits x; have f2 := Core.val64_fits y
  rw [e1] at f1; rw [e2] at f2
  have q1 := f1.2.1; have r1 := f2.2.1
  rw [Core.qmin_b64] at q1 r1
  unfold zm at h ⊢
  rw [e3]
  rw [e1, e2] at h
  refine Core.zmag_roundRatio_ge Core.good_b64 hd (Core.val64_fits v) (e0 := -1074 - (r + 1074)) (by rw [Core.qmin_b64]; omega) (by omega) ?_
  rw [units2 c q r q1 r1, Core.qmin_b64, show (-1074 - (-1074 - (r + 1074))).toNat = (r + 1074).toNat by omega]
  change _ * Core.inUnits d r Core.b64.qmin ≤ Core.inUnits c q Core.b64.qmin * _ at h
  rw [Core.qmin_b64] at h
  refine Nat.le_trans (Nat.le_of_eq ?_) h
  unfold Core.inUnits
  rw [show (r - -1074).toNat = (r + 1074).toNat by omega]
  ac_rfl
theorem div_sgn {x y : UInt64} (hx : Fin64 x) (hy : Fin64 y) (hz : zm y ≠ 0) : Core.sgn (Core.val64 (FP.ddiv x y)) = (Core.sgn (Core.val64 x) != Core.sgn (Core.val64 y)) := by
  obtain ⟨s, t, c, d, q, r, e1, e2, hd, e3⟩ := div_shape hx hy hz
  rw [e3, Core.sgn_roundRatio, e1, e2]; rfl
theorem nz_of {y : UInt64} (hy : Fin64 y) (hz : zm y ≠ 0) : Nz64 y := by
  refine nz64_core.mpr fun ⟨s, q, e⟩ => hz ?_
  unfold zm; rw [e]; simp [Core.zmag, Core.inUnits]
theorem div_nn {x y : UInt64} (hx : Fin64 x) (hy : Fin64 y) (hz : zm y ≠ 0) : NoNaN64 (FP.ddiv x y) := ddiv_out hx.noNaN hy (nz_of hy hz)
theorem sgn_pos {x : UInt64} (h : 0 < zv x) : Core.sgn (Core.val64 x) = false := by
  rw [zv_sgn] at h
  cases e : Core.sgn (Core.val64 x)
  · rfl
  · rw [e] at h; simp [Core.signed] at h; omega
theorem zv_of_pos {x : UInt64} (h : Core.sgn (Core.val64 x) = false) : zv x = (zm x : Int) := by rw [zv_sgn, h]; rfl
theorem Is.zm {x : UInt64} {i : Int} {k : Nat} (h : Is x i k) : (OwnFP.zm x : Int) = (i.natAbs : Int) * U k := by
  rw [← zm_abs, h.2, Int.natAbs_mul, Int.natCast_mul, Int.natAbs_of_nonneg (Int.le_of_lt (U_pos k))]
/-- i / 2 ^ j is exact -/
theorem Is.div2 {x y : UInt64} {i : Int} {j : Nat} (hx : Is x i 0) (hy : Is y ((2 ^ j : Nat) : Int) 0) (hj : j ≤ 1074) (hi : i.natAbs < 2 ^ 53) : Is (FP.ddiv x y) i j := by
  obtain ⟨v, hv⟩ := repr i j hj hi
  have p2 := Nat.two_pow_pos j
  have hyz : (OwnFP.zm y : Int) = ((2 ^ j : Nat) : Int) * U 0 := by rw [hy.zm]; simp
  have hz : OwnFP.zm y ≠ 0 := fun h => by
    rw [h] at hyz
    have := Int.mul_pos (Int.natCast_pos.mpr p2) (U_pos 0)
    omega
  have e : OwnFP.zm x * Core.one64 = OwnFP.zm v * OwnFP.zm y := by
    have : ((OwnFP.zm x * Core.one64 : Nat) : Int) = ((OwnFP.zm v * OwnFP.zm y : Nat) : Int) := by
      rw [Int.natCast_mul, Int.natCast_mul, hx.zm, hv.zm, hyz, ← U_zero, U_add (k := 0) (j := j) (by omega), Nat.zero_add]
      ac_rfl
    exact Int.ofNat.inj this
  have em : OwnFP.zm (FP.ddiv x y) = OwnFP.zm v := Nat.le_antisymm (div_le hx.1 hy.1 hz hv.nn (Nat.le_of_eq e)) (div_ge hx.1 hy.1 hz (Nat.le_of_eq e.symm))
  have sy : Core.sgn (Core.val64 y) = false := sgn_pos (by rw [hy.2]; exact Int.mul_pos (Int.natCast_pos.mpr p2) (U_pos 0))
  refine ⟨fin_of (div_nn hx.1 hy.1 hz) hv.1 (Nat.le_of_eq em), ?_⟩
  rw [zv_sgn, div_sgn hx.1 hy.1 hz, sy, em]
  by_cases h0 : i = 0
  · have : OwnFP.zm v = 0 := by have := hv.zm; rw [h0] at this; simp at this; exact this
    rw [this, h0]; simp [Core.signed_zero]
  · have ex : Core.signed (Core.sgn (Core.val64 x)) (OwnFP.zm x) = i * U 0 := hx.2
    have hz2 := hv.zm
    have hzx := hx.zm
    have u0 := U_pos 0; have uj := U_pos j
    cases e : Core.sgn (Core.val64 x)
    · rw [e] at ex
      have : 0 < i := by
        have h1 : (0 : Int) ≤ i * U 0 := by rw [← ex]; simp [Core.signed]
        have h2 : 0 ≤ i := Int.not_lt.mp fun q => by have := Int.mul_neg_of_neg_of_pos q u0; omega
        omega
      show ((OwnFP.zm v : Nat) : Int) = _
      rw [hz2, show ((i.natAbs : Nat) : Int) = i by omega]
    · rw [e] at ex
      have : i < 0 := by
        have h1 : i * U 0 ≤ 0 := by rw [← ex]; simp [Core.signed]
        have h2 : i ≤ 0 := Int.not_lt.mp fun q => by have := Int.mul_pos q u0; omega
        omega
      show -((OwnFP.zm v : Nat) : Int) = _
      rw [hz2, show ((i.natAbs : Nat) : Int) = -i by omega, Int.neg_mul, Int.neg_neg]
theorem abs_le_max {x : UInt64} (h : Fin64 x) : ¬ (0 : Int32) < cmpValue (FP.dcmp (x &&& 0x7fffffffffffffff) (9218868437227405311 : UInt64)) .g := by
  rcases (Core.le_max (noNaN64_no.mp h.noNaN)).mpr (fin64_core.mp h) with q | q
  · rw [show FP.dcmp (x &&& 0x7fffffffffffffff) (9218868437227405311 : UInt64) = some .lt from q]; decide
  · rw [show FP.dcmp (x &&& 0x7fffffffffffffff) (9218868437227405311 : UInt64) = some .eq from q]; decide
/-- equal numbers over one divisor: equal numbers -/
theorem div_congr {x x' y : UInt64} (hx : Fin64 x) (hx' : Fin64 x') (h : zv x = zv x') (hy : Fin64 y) (hz : OwnFP.zm y ≠ 0) : zv (FP.ddiv x y) = zv (FP.ddiv x' y) := by
  by_cases h0 : zv x' = 0
  · have e1 : OwnFP.zm x = 0 := by rw [← zm_abs, h, h0]; rfl
    have e2 : OwnFP.zm x' = 0 := by rw [← zm_abs, h0]; rfl
    have z0 : OwnFP.zm 0 = 0 := by rw [← zm_abs, zv_zero]; rfl
    have d1 := div_le (v := 0) hx hy hz fin_zero.noNaN (by rw [e1]; simp)
    have d2 := div_le (v := 0) hx' hy hz fin_zero.noNaN (by rw [e2]; simp)
    rw [z0] at d1 d2
    rw [zv_sgn, zv_sgn, Nat.le_zero.mp d1, Nat.le_zero.mp d2, Core.signed_zero, Core.signed_zero]
  · have : x = x' := by
      refine Core.eq_bits (fun hz' => h0 hz'.zval) ?_
      have q : Core.dcmp x x' = some (compare (zv x) (zv x')) := Core.dcmp_zval (nn hx.noNaN) (nn hx'.noNaN)
      rw [q, h, Core.compare_self_int]
    rw [this]
end Jvm.OwnFP
namespace Jvm.OwnArr
open Sem ClassFile Op Lib Jvm.Stand Jvm.Free Jvm.LawKit Jvm.RoadKit
theorem lt32 {i n : Nat} (h : i < n) (hn : n ≤ 100000) : Int32.ofNat i < Int32.ofNat n := by
  rw [Int32.lt_iff_toInt_lt, Int32.toInt_ofNat_of_lt (by omega), Int32.toInt_ofNat_of_lt (by omega)]
  omega
theorem nlt32 {i n : Nat} (h : n ≤ i) (hn : i ≤ 100000) : ¬ Int32.ofNat i < Int32.ofNat n := by
  rw [Int32.lt_iff_toInt_lt, Int32.toInt_ofNat_of_lt (by omega), Int32.toInt_ofNat_of_lt (by omega)]
  omega
theorem lt32_iff {i n : Nat} (hi : i ≤ 100000) (hn : n ≤ 100000) : Int32.ofNat i < Int32.ofNat n ↔ i < n := by
  rw [Int32.lt_iff_toInt_lt, Int32.toInt_ofNat_of_lt (by omega), Int32.toInt_ofNat_of_lt (by omega)]
  omega
theorem eq32_iff {i n : Nat} (hi : i ≤ 100000) (hn : n ≤ 100000) : Int32.ofNat i = Int32.ofNat n ↔ i = n := by
  rw [← Int32.toInt_inj, Int32.toInt_ofNat_of_lt (by omega), Int32.toInt_ofNat_of_lt (by omega)]
  omega
theorem nn32 {n : Nat} (hn : n ≤ 100000) : ¬ Int32.ofNat n < 0 := by
  rw [Int32.lt_iff_toInt_lt, Int32.toInt_ofNat_of_lt (by omega), show (0 : Int32).toInt = 0 from rfl]
  omega
theorem n32 {n : Nat} (hn : n ≤ 100000) : (Int32.ofNat n).toNatClampNeg = n := by
  rw [Int32.toNatClampNeg, Int32.toInt_ofNat_of_lt (by omega)]; rfl
theorem one32 (i : Nat) : Int32.ofNat i + (1 : Int32) = Int32.ofNat (i + 1) := (Int32.ofNat_add i 1).symm
/-- an int from 0 on is the Nat of its value -/
theorem of_int {x : Int32} (h : 0 ≤ x.toInt) : x = Int32.ofNat x.toInt.toNat := by
  apply Int32.toInt_inj.mp
  have := x.toInt_lt
  rw [Int32.toInt_ofNat_of_lt (by omega)]
  omega
def vals (f : Nat → Value) (n : Nat) : List Value := (List.range n).map f
theorem vals_len (f : Nat → Value) (n : Nat) : (vals f n).length = n := by simp [vals]
theorem vals_at (f : Nat → Value) {n j : Nat} (h : j < n) (d : Value) : (vals f n).getD j d = f j := by simp [vals, List.getD_eq_getElem?_getD, h]
theorem vals_congr {f g : Nat → Value} {n : Nat} (h : ∀ j, j < n → f j = g j) : vals f n = vals g n := by
  simp only [vals]
  exact List.map_congr_left fun j hj => h j (List.mem_range.mp hj)
theorem vals_set (f : Nat → Value) {n i : Nat} (v : Value) : (vals f n).set i v = vals (fun j => if j = i then v else f j) n := by
  apply List.ext_getElem
  · simp [vals]
  · intro k h1 h2
    simp only [vals, List.getElem_set, List.getElem_map, List.getElem_range]
    by_cases q : i = k
    · rw [if_pos q, if_pos q.symm]
    · rw [if_neg q, if_neg fun z => q z.symm]
theorem vals_const (v : Value) (n : Nat) : vals (fun _ => v) n = List.replicate n v := by
  simp [vals, List.map_const']
end Jvm.OwnArr
namespace Jvm.Pilot.@@N@@
open Jvm Jvm.ClassFile Sem Op Lib Jvm.Free Jvm.Stand Jvm.LawKit Jvm.RoadKit Bundle Jvm.Pilot.@@N@@.Jvm.D
open Jvm.Free.Fl (NoNaN64 Fin64 Nz64)
open Jvm.OwnArr
def own_min (p q : Int32) : Int32 := if q < p then q else p
theorem own_minb {p : Int32} (h : ¬ p < 16) : 16 ≤ (own_min p 4096).toInt ∧ (own_min p 4096).toInt ≤ 4096 := by
  rw [Int32.lt_iff_toInt_lt, show (16 : Int32).toInt = 16 from rfl] at h
  unfold own_min
  split
  · rw [show (4096 : Int32).toInt = 4096 from rfl]; omega
  · rename_i q
    rw [Int32.lt_iff_toInt_lt, show (4096 : Int32).toInt = 4096 from rfl] at q
    omega
theorem own_minn {p : Int32} (h : ¬ p < 16) : ¬ own_min p 4096 < 0 := by
  have := own_minb h
  rw [Int32.lt_iff_toInt_lt, show (0 : Int32).toInt = 0 from rfl]; omega
theorem own_minc {p : Int32} (h : ¬ p < 16) : (own_min p 4096).toNatClampNeg ≤ 4096 := by
  have := own_minb h
  rw [Int32.toNatClampNeg]; omega
theorem own_lt {k : Nat} {p : Int32} (hk : k < 7) (h : ¬ p < 16) : Int32.ofNat k < own_min p 4096 := by
  have := own_minb h
  rw [Int32.lt_iff_toInt_lt, Int32.toInt_ofNat_of_lt (by omega)]; omega
theorem own_ne1 {k : Nat} {p : Int32} (hk : k < 7) (h : ¬ p < 16) : ¬ (Int32.ofNat k = p) := fun q => by
  rw [← q, Int32.lt_iff_toInt_lt, Int32.toInt_ofNat_of_lt (by omega), show (16 : Int32).toInt = 16 from rfl] at h
  omega
theorem own_ne2 {k : Nat} {p : Int32} (hk : k < 7) (h : ¬ p < 16) : ¬ (Int32.ofNat k = own_min p 4096) := fun q => by
  have := own_lt hk h
  rw [← q, Int32.lt_iff_toInt_lt] at this
  omega
theorem own_and7 (x : Int32) : ∃ k : Nat, k ≤ 7 ∧ x &&& (7 : Int32) = Int32.ofNat k := by
  have h := c_and x 7 (by decide)
  rw [show (7 : Int32).toInt = 7 from rfl] at h
  exact ⟨(x &&& (7 : Int32)).toInt.toNat, by omega, of_int h.1⟩
theorem own_16 (x : Int32) : ¬ ((16 : Int32) + (x &&& (15 : Int32)) < 16) := by
  have h := c_and x 15 (by decide)
  rw [show (15 : Int32).toInt = 15 from rfl] at h
  have c := c_iadd 16 (x &&& (15 : Int32))
  have r := rng32 ((16 : Int32) + (x &&& (15 : Int32)))
  rw [show (16 : Int32).toInt = 16 from rfl] at c
  rw [Int32.lt_iff_toInt_lt, show (16 : Int32).toInt = 16 from rfl]
  omega
theorem ef_abc0 (m : MethodId) (a1 : Addr) : entryFrame m #[(.ref a1)] 1 = mkF m 0 #[.val (.ref a1)] [] := by first | (simp [entryFrame, mkF, argsToLocals, Value.category]; done) | rfl
theorem d5_0 : decode jdk_22_method_1_code 0 = .ok (.aload_n 0, 1) := by decide +kernel
theorem d5_1 : decode jdk_22_method_1_code 1 = .ok (.invokespecial 1, 3) := by decide +kernel
theorem d5_4 : decode jdk_22_method_1_code 4 = .ok (.return_, 1) := by decide +kernel
theorem pn_java_util_AbstractCollection : plainName "java/util/AbstractCollection" = true := by first | (simp [plainName, overriddenIn]; done) | decide +kernel
def Qabc0 (Z : State) (a1 : Addr) (h0 : Heap) (n0 : Nat) (v : Option Value) (h : Heap) (L : List Loc) : Prop := v = none ∧ Fr n0 L ∧ h = h0
set_option maxRecDepth 65536 in
set_option maxHeartbeats 40000000 in
theorem rmabc0 (l : Launch) (Z : State) (a0 : Array Value) (hw : ∀ d ∈ tables_1, d.before a0 Z = true) (ws : List Jvm.Cond) (a1 : Addr) (h0 : Heap) (n0 : Nat) (Z0 : n0 ≤ h0.size) :
    MetFree l (⟨"java/util/AbstractCollection", "<init>", "()V"⟩ : MethodName) (head1 (Jvm.Cond.code (⟨"java/util/AbstractCollection", "<init>", "()V"⟩ : MethodName) jdk_22_method_1_code 1 none :: ws) ({ frames := 1, cells := 0, slots := 0, locals := 12 } : Room)) (fun a U => a = #[(.ref a1)] ∧ Z.Warmed39 U.vm ∧ U.heap = h0) (fun _ _ _ _ _ => True) (fun _ U o U' => ∃ v L, o = .returned v ∧ Qabc0 Z a1 h0 n0 v U'.heap L ∧ FrameEnd U o U' L ({ frames := 1, cells := 0, slots := 0, locals := 12 } : Room).cells ({ frames := 1, cells := 0, slots := 0, locals := 12 } : Room).slots) := by
  refine MetFree.of_bodySF (plainFor_of_name pn_java_util_AbstractCollection) hisR ?_
  intro p e s m args below meth c s₁ Bd hml0 hP hK
  obtain ⟨rfl, hZ, hh⟩ := hP
  have hx := Bd.exec
  have hby := Bd.bytes
  have hml : c.maxLocals = 1 := hml0
  have hown : s.vm.findClass "java/util/AbstractCollection" = some m.cls := findClass_of_methodNamed Bd.named
  have hnm := (name_of_methodNamed Bd.named Bd.method).1
  have X0 : Stand p l e ({ frames := 1, cells := 0, slots := 0, locals := 12 } : Room) s m #[(.ref a1)] below meth c s₁ [] 0 0 := Stand.of_body Bd
  have e0 : s₁.heap = h0 := by rw [← hh, Bd.state]; rfl
  have N0 := Fr.nil n0
  have pre0 : ∀ t_, Steps p.tables e below (s₁.setTop (mkF m 0 #[.val (.ref a1)] [])) t_ → Steps p.tables e below (s₁.setTop (entryFrame m #[(.ref a1)] 1)) t_ := fun t_ k => castTop (ef_abc0 m a1) k
  obtain ⟨T101, X101, e101, st101⟩ := initO X0 hx hZ hown (hw _ (List.mem_of_getElem? (i := 27) rfl)) (hw _ (List.mem_of_getElem? (i := 7) rfl)) (hw _ (List.mem_of_getElem? (i := 8) rfl)) e0 (g := (mkF m 1 #[.val (.ref a1)] [(.ref a1)])) rfl (by rw [hml]; rfl) rfl (hb hby d5_1) (by decide) (W := 0) (by show 2 * 0 + _ ≤ _; exact Nat.le_of_eq rfl) (by decide)
  have pre102 : ∀ t_, Steps p.tables e below (T101.setTop (mkF m 4 #[.val (.ref a1)] [])) t_ → Steps p.tables e below (s₁.setTop (entryFrame m #[(.ref a1)] 1)) t_ := fun t_ kt => pre0 t_ (by
      show Steps p.tables e below (s₁.setTop (mkF m 0 #[.val (.ref a1)] [])) _
      refine XS.aloadN X0.here hx rfl (hb hby d5_0) rfl rfl ?_
      show Steps p.tables e below (s₁.setTop (mkF m 1 #[.val (.ref a1)] [(.ref a1)])) _
      refine st101 _ ?_
      exact kt)
  obtain ⟨fs, hr, hrun, hended, hW, hsame⟩ := X101.leave (v := none) (fun _ => rfl)
  refine ⟨_, _, pre102 _ ?_, hrun, hended, _, _, rfl, ?_, ⟨_, rfl⟩, hW, hsame.mono (by decide) (by decide)⟩
  · show Steps p.tables e below (T101.setTop (mkF m 4 #[.val (.ref a1)] [])) _
    exact X101.returnOut hx Bd.returns (hb hby d5_4) hr
  · show Qabc0 Z a1 h0 n0 _ T101.heap _
    rw [e101]
    exact ⟨rfl, N0, rfl⟩
theorem ef_abl0 (m : MethodId) (a1 : Addr) : entryFrame m #[(.ref a1)] 1 = mkF m 0 #[.val (.ref a1)] [] := by first | (simp [entryFrame, mkF, argsToLocals, Value.category]; done) | rfl
theorem d4_0 : decode jdk_39_method_1_code 0 = .ok (.aload_n 0, 1) := by decide +kernel
theorem pd__28_29V : parseMethodDescriptor "()V" = some ⟨[], none⟩ := by decide +kernel
theorem d4_1 : decode jdk_39_method_1_code 1 = .ok (.invokespecial 1, 3) := by decide +kernel
theorem d4_4 : decode jdk_39_method_1_code 4 = .ok (.aload_n 0, 1) := by decide +kernel
theorem d4_5 : decode jdk_39_method_1_code 5 = .ok (.iconst 0, 1) := by decide +kernel
theorem d4_6 : decode jdk_39_method_1_code 6 = .ok (.putfield 7, 3) := by decide +kernel
theorem d4_9 : decode jdk_39_method_1_code 9 = .ok (.return_, 1) := by decide +kernel
theorem pn_java_util_AbstractList : plainName "java/util/AbstractList" = true := by first | (simp [plainName, overriddenIn]; done) | decide +kernel
def Qabl0 (Z : State) (a1 : Addr) (h0 : Heap) (n0 : Nat) (v : Option Value) (h : Heap) (L : List Loc) : Prop := v = none ∧ Fr n0 L ∧ Keep h0 h [a1] ∧ (Fld Z h a1 "java/util/AbstractList" "modCount" "I" (.int (0 : Int32))) ∧ (Fld Z h a1 "java/util/ArrayList" "elementData" "[Ljava/lang/Object;" .null) ∧ (Fld Z h a1 "java/util/ArrayList" "size" "I" (.int (0 : Int32)))
set_option maxRecDepth 65536 in
set_option maxHeartbeats 40000000 in
theorem rmabl0 (l : Launch) (Z : State) (a0 : Array Value) (hw : ∀ d ∈ tables_1, d.before a0 Z = true) (ws : List Jvm.Cond) (a1 : Addr) (h0 : Heap) (n0 : Nat) (Z0 : n0 ≤ h0.size) (P_E_a1 : Exa Z h0 a1 "java/util/ArrayList") (P_F_a1_modCount : Fld Z h0 a1 "java/util/AbstractList" "modCount" "I" (.int (0 : Int32))) (P_F_a1_elementData : Fld Z h0 a1 "java/util/ArrayList" "elementData" "[Ljava/lang/Object;" .null) (P_F_a1_size : Fld Z h0 a1 "java/util/ArrayList" "size" "I" (.int (0 : Int32))) (P_G_a1 : n0 ≤ a1) :
    MetFree l (⟨"java/util/AbstractList", "<init>", "()V"⟩ : MethodName) (head1 (Jvm.Cond.code (⟨"java/util/AbstractList", "<init>", "()V"⟩ : MethodName) jdk_39_method_1_code 1 none :: ws) ({ frames := 2, cells := 0, slots := 0, locals := 24 } : Room)) (fun a U => a = #[(.ref a1)] ∧ Z.Warmed39 U.vm ∧ U.heap = h0) (fun _ _ _ _ _ => True) (fun _ U o U' => ∃ v L, o = .returned v ∧ Qabl0 Z a1 h0 n0 v U'.heap L ∧ FrameEnd U o U' L ({ frames := 2, cells := 0, slots := 0, locals := 24 } : Room).cells ({ frames := 2, cells := 0, slots := 0, locals := 24 } : Room).slots) := by
  refine MetFree.of_bodySF (plainFor_of_name pn_java_util_AbstractList) hisR ?_
  intro p e s m args below meth c s₁ Bd hml0 hP hK
  obtain ⟨rfl, hZ, hh⟩ := hP
  have hx := Bd.exec
  have hby := Bd.bytes
  have hml : c.maxLocals = 1 := hml0
  have hown : s.vm.findClass "java/util/AbstractList" = some m.cls := findClass_of_methodNamed Bd.named
  have hnm := (name_of_methodNamed Bd.named Bd.method).1
  have X0 : Stand p l e ({ frames := 2, cells := 0, slots := 0, locals := 24 } : Room) s m #[(.ref a1)] below meth c s₁ [] 0 0 := Stand.of_body Bd
  have e0 : s₁.heap = h0 := by rw [← hh, Bd.state]; rfl
  have N0 := Fr.nil n0
  have pre0 : ∀ t_, Steps p.tables e below (s₁.setTop (mkF m 0 #[.val (.ref a1)] [])) t_ → Steps p.tables e below (s₁.setTop (entryFrame m #[(.ref a1)] 1)) t_ := fun t_ k => castTop (ef_abl0 m a1) k
  obtain ⟨_, _, ⟨T101, L101, kk101, nn101⟩, -, X101, ⟨Lc101, hQ101, l101, y101, z101⟩, st101⟩ := X0.specialBack hx (y := (⟨"java/util/AbstractCollection", "<init>", "()V"⟩ : MethodName)) rfl hown (mvT hZ (hw _ (List.mem_of_getElem? (i := 21) rfl))) (mvT hZ (hw _ (List.mem_of_getElem? (i := 22) rfl))) (mvT hZ (hw _ (List.mem_of_getElem? (i := 26) rfl))) (by decide) (backOf (W := 0) (rmabc0 l Z a0 hw [] a1 h0 n0 Z0 ) hZ (hw _ (List.mem_of_getElem? (i := 26) rfl)) (hw _ (List.mem_of_getElem? (i := 25) rfl)) (by decide) (by decide)) (g := (mkF m 1 #[.val (.ref a1)] [(.ref a1)])) rfl (by rw [hml]; rfl) (Steps.refl _) (a := a1) (argsL := []) (rest := []) (lenOf pd__28_29V rfl) rfl (by show 2 * 0 + _ ≤ _; exact Nat.le_of_eq rfl) (hb hby d4_1) (fun _ _ => ⟨rfl, e0, (by decide : 0 + 0 ≤ _), (by decide : 0 + 0 ≤ _)⟩)
  dsimp only [Pt.U, Pt.locs, Pt.cells, Pt.slots] at X101 l101 y101 z101 st101 hQ101
  subst l101 y101 z101
  obtain ⟨rfl, N101q, e101⟩ := hQ101
  have N101 := Fr.app N0 N101q
  obtain ⟨T102, h102, X102, e102, W102, st102⟩ := putF X101 hx hZ hown (host := "") (Or.inl (hw _ (List.mem_of_getElem? (i := 28) rfl))) Via.refl e101 P_F_a1_modCount P_E_a1 (Or.inl (hw _ (List.mem_of_getElem? (i := 29) rfl))) (hw _ (List.mem_of_getElem? (i := 10) rfl)) (ty := .int) (by decide) rfl rfl (g := (mkF m 6 #[.val (.ref a1)] [(.int (0 : Int32)), (.ref a1)])) rfl rfl (hb hby d4_6)
  have F102 : Fld Z h102 a1 "java/util/AbstractList" "modCount" "I" (.int (0 : Int32)) := P_F_a1_modCount.same W102
  have z103 : n0 ≤ h102.size := Nat.le_trans Z0 (Keep.of_wr W102).1
  have k104 : Keep h0 h102 [a1] := (Keep.refl h0 [a1]).wr W102 (Or.inl (List.mem_of_getElem? (i := 0) rfl))
  have N102 : Fr n0 _ := Fr.snoc X102 N101 P_G_a1
  have pre105 : ∀ t_, Steps p.tables e below (T102.setTop (mkF m 9 #[.val (.ref a1)] [])) t_ → Steps p.tables e below (s₁.setTop (entryFrame m #[(.ref a1)] 1)) t_ := fun t_ kt => pre0 t_ (by
      show Steps p.tables e below (s₁.setTop (mkF m 0 #[.val (.ref a1)] [])) _
      refine XS.aloadN X0.here hx rfl (hb hby d4_0) rfl rfl ?_
      show Steps p.tables e below (s₁.setTop (mkF m 1 #[.val (.ref a1)] [(.ref a1)])) _
      refine st101.trans ?_
      show Steps p.tables e below (T101.setTop (mkF m 4 #[.val (.ref a1)] [])) _
      refine XS.aloadN X101.here hx rfl (hb hby d4_4) rfl rfl ?_
      show Steps p.tables e below (T101.setTop (mkF m 5 #[.val (.ref a1)] [(.ref a1)])) _
      refine XS.iconst X101.here hx rfl (hb hby d4_5) ?_
      show Steps p.tables e below (T101.setTop (mkF m 6 #[.val (.ref a1)] [(.int (0 : Int32)), (.ref a1)])) _
      refine st102 _ ?_
      exact kt)
  have f106 : Fld Z h102 a1 "java/util/ArrayList" "elementData" "[Ljava/lang/Object;" .null := (P_F_a1_elementData.other W102 (Or.inr (slot_ne (Or.inl (hw _ (List.mem_of_getElem? (i := 32) rfl))) (Or.inl (hw _ (List.mem_of_getElem? (i := 29) rfl))) (by decide) (t := (.array (.object "java/lang/Object"))) (t' := .int) (by decide) (by decide))))
  have f107 : Fld Z h102 a1 "java/util/ArrayList" "size" "I" (.int (0 : Int32)) := (P_F_a1_size.other W102 (Or.inr (slot_ne (Or.inl (hw _ (List.mem_of_getElem? (i := 59) rfl))) (Or.inl (hw _ (List.mem_of_getElem? (i := 29) rfl))) (by decide) (t := .int) (t' := .int) (by decide) (by decide))))
  obtain ⟨fs, hr, hrun, hended, hW, hsame⟩ := X102.leave (v := none) (fun _ => rfl)
  refine ⟨_, _, pre105 _ ?_, hrun, hended, _, _, rfl, ?_, ⟨_, rfl⟩, hW, hsame.mono (by decide) (by decide)⟩
  · show Steps p.tables e below (T102.setTop (mkF m 9 #[.val (.ref a1)] [])) _
    exact X102.returnOut hx Bd.returns (hb hby d4_9) hr
  · show Qabl0 Z a1 h0 n0 _ T102.heap _
    rw [e102]
    exact ⟨rfl, N102, k104, F102, f106, f107⟩
theorem ef_alinit (m : MethodId) (a1 : Addr) : entryFrame m #[(.ref a1)] 1 = mkF m 0 #[.val (.ref a1)] [] := by first | (simp [entryFrame, mkF, argsToLocals, Value.category]; done) | rfl
theorem d3_0 : decode jdk_38_method_2_code 0 = .ok (.aload_n 0, 1) := by decide +kernel
theorem d3_1 : decode jdk_38_method_2_code 1 = .ok (.invokespecial 1, 3) := by decide +kernel
theorem d3_4 : decode jdk_38_method_2_code 4 = .ok (.aload_n 0, 1) := by decide +kernel
theorem d3_5 : decode jdk_38_method_2_code 5 = .ok (.getstatic 39, 3) := by decide +kernel
theorem d3_8 : decode jdk_38_method_2_code 8 = .ok (.putfield 9, 3) := by decide +kernel
theorem d3_11 : decode jdk_38_method_2_code 11 = .ok (.return_, 1) := by decide +kernel
theorem pn_java_util_ArrayList : plainName "java/util/ArrayList" = true := by first | (simp [plainName, overriddenIn]; done) | decide +kernel
def Qalinit (Z : State) (a1 : Addr) (DC : Addr) (h0 : Heap) (n0 : Nat) (v : Option Value) (h : Heap) (L : List Loc) : Prop := v = none ∧ Fr n0 L ∧ Keep h0 h [a1] ∧ (Fld Z h a1 "java/util/AbstractList" "modCount" "I" (.int (0 : Int32))) ∧ (Fld Z h a1 "java/util/ArrayList" "elementData" "[Ljava/lang/Object;" (.ref DC)) ∧ (Fld Z h a1 "java/util/ArrayList" "size" "I" (.int (0 : Int32)))
set_option maxRecDepth 65536 in
set_option maxHeartbeats 40000000 in
theorem rmalinit (l : Launch) (Z : State) (a0 : Array Value) (hw : ∀ d ∈ tables_1, d.before a0 Z = true) (ws : List Jvm.Cond) (a1 : Addr) (DC : Addr) (h0 : Heap) (n0 : Nat) (Z0 : n0 ≤ h0.size) (P_E_a1 : Exa Z h0 a1 "java/util/ArrayList") (P_F_a1_modCount : Fld Z h0 a1 "java/util/AbstractList" "modCount" "I" (.int (0 : Int32))) (P_F_a1_elementData : Fld Z h0 a1 "java/util/ArrayList" "elementData" "[Ljava/lang/Object;" .null) (P_F_a1_size : Fld Z h0 a1 "java/util/ArrayList" "size" "I" (.int (0 : Int32))) (P_G_a1 : n0 ≤ a1) (Od : Sta Z Z.heap "java/util/ArrayList" "DEFAULTCAPACITY_EMPTY_ELEMENTDATA" "[Ljava/lang/Object;" (.ref DC)) (P_O : Old Z n0 h0) :
    MetFree l (⟨"java/util/ArrayList", "<init>", "()V"⟩ : MethodName) (head1 (Jvm.Cond.code (⟨"java/util/ArrayList", "<init>", "()V"⟩ : MethodName) jdk_38_method_2_code 1 none :: ws) ({ frames := 3, cells := 0, slots := 0, locals := 36 } : Room)) (fun a U => a = #[(.ref a1)] ∧ Z.Warmed39 U.vm ∧ U.heap = h0) (fun _ _ _ _ _ => True) (fun _ U o U' => ∃ v L, o = .returned v ∧ Qalinit Z a1 DC h0 n0 v U'.heap L ∧ FrameEnd U o U' L ({ frames := 3, cells := 0, slots := 0, locals := 36 } : Room).cells ({ frames := 3, cells := 0, slots := 0, locals := 36 } : Room).slots) := by
  refine MetFree.of_bodySF (plainFor_of_name pn_java_util_ArrayList) hisR ?_
  intro p e s m args below meth c s₁ Bd hml0 hP hK
  obtain ⟨rfl, hZ, hh⟩ := hP
  have hx := Bd.exec
  have hby := Bd.bytes
  have hml : c.maxLocals = 1 := hml0
  have hown : s.vm.findClass "java/util/ArrayList" = some m.cls := findClass_of_methodNamed Bd.named
  have hnm := (name_of_methodNamed Bd.named Bd.method).1
  have X0 : Stand p l e ({ frames := 3, cells := 0, slots := 0, locals := 36 } : Room) s m #[(.ref a1)] below meth c s₁ [] 0 0 := Stand.of_body Bd
  have e0 : s₁.heap = h0 := by rw [← hh, Bd.state]; rfl
  have N0 := Fr.nil n0
  have pre0 : ∀ t_, Steps p.tables e below (s₁.setTop (mkF m 0 #[.val (.ref a1)] [])) t_ → Steps p.tables e below (s₁.setTop (entryFrame m #[(.ref a1)] 1)) t_ := fun t_ k => castTop (ef_alinit m a1) k
  obtain ⟨_, _, ⟨T101, L101, kk101, nn101⟩, -, X101, ⟨Lc101, hQ101, l101, y101, z101⟩, st101⟩ := X0.specialBack hx (y := (⟨"java/util/AbstractList", "<init>", "()V"⟩ : MethodName)) rfl hown (mvT hZ (hw _ (List.mem_of_getElem? (i := 15) rfl))) (mvT hZ (hw _ (List.mem_of_getElem? (i := 16) rfl))) (mvT hZ (hw _ (List.mem_of_getElem? (i := 20) rfl))) (by decide) (backOf (W := 0) (rmabl0 l Z a0 hw [] a1 h0 n0 Z0 P_E_a1 P_F_a1_modCount P_F_a1_elementData P_F_a1_size P_G_a1) hZ (hw _ (List.mem_of_getElem? (i := 20) rfl)) (hw _ (List.mem_of_getElem? (i := 19) rfl)) (by decide) (by decide)) (g := (mkF m 1 #[.val (.ref a1)] [(.ref a1)])) rfl (by rw [hml]; rfl) (Steps.refl _) (a := a1) (argsL := []) (rest := []) (lenOf pd__28_29V rfl) rfl (by show 2 * 0 + _ ≤ _; exact Nat.le_of_eq rfl) (hb hby d3_1) (fun _ _ => ⟨rfl, e0, (by decide : 0 + 0 ≤ _), (by decide : 0 + 0 ≤ _)⟩)
  dsimp only [Pt.U, Pt.locs, Pt.cells, Pt.slots] at X101 l101 y101 z101 st101 hQ101
  subst l101 y101 z101
  obtain ⟨rfl, N101q, K101, x101_0, x101_1, x101_2⟩ := hQ101
  have N101 := Fr.app N0 N101q
  have z102 : n0 ≤ T101.heap.size := Nat.le_trans Z0 K101.1
  have k103 : Keep h0 T101.heap [a1] := (Keep.refl h0 [a1]).trans K101 (own_wmc (Or.inl (List.mem_of_getElem? (i := 0) rfl)) own_wm0)
  have f104 : Old Z n0 T101.heap := (P_O.keep K101 (allS P_G_a1 all0))
  obtain ⟨T105, X105, e105, st105⟩ := getS2 X101 hx hZ hown (host := "") (Or.inl (hw _ (List.mem_of_getElem? (i := 30) rfl))) Via.refl rfl (Od.ext f104.2) (g := (mkF m 5 #[.val (.ref a1)] [(.ref a1)])) rfl (hb hby d3_5)
  have f106 : Exa Z T101.heap a1 "java/util/ArrayList" := (P_E_a1.keep K101)
  obtain ⟨T107, h107, X107, e107, W107, st107⟩ := putF X105 hx hZ hown (host := "") (Or.inl (hw _ (List.mem_of_getElem? (i := 31) rfl))) Via.refl e105 x101_1 f106 (Or.inl (hw _ (List.mem_of_getElem? (i := 32) rfl))) (hw _ (List.mem_of_getElem? (i := 10) rfl)) (ty := (.array (.object "java/lang/Object"))) (by decide) rfl rfl (g := (mkF m 8 #[.val (.ref a1)] [(.ref DC), (.ref a1)])) rfl rfl (hb hby d3_8)
  have F107 : Fld Z h107 a1 "java/util/ArrayList" "elementData" "[Ljava/lang/Object;" (.ref DC) := x101_1.same W107
  have z108 : n0 ≤ h107.size := Nat.le_trans z102 (Keep.of_wr W107).1
  have k109 : Keep h0 h107 [a1] := k103.wr W107 (Or.inl (List.mem_of_getElem? (i := 0) rfl))
  have N107 : Fr n0 _ := Fr.snoc X107 N101 P_G_a1
  have pre110 : ∀ t_, Steps p.tables e below (T107.setTop (mkF m 11 #[.val (.ref a1)] [])) t_ → Steps p.tables e below (s₁.setTop (entryFrame m #[(.ref a1)] 1)) t_ := fun t_ kt => pre0 t_ (by
      show Steps p.tables e below (s₁.setTop (mkF m 0 #[.val (.ref a1)] [])) _
      refine XS.aloadN X0.here hx rfl (hb hby d3_0) rfl rfl ?_
      show Steps p.tables e below (s₁.setTop (mkF m 1 #[.val (.ref a1)] [(.ref a1)])) _
      refine st101.trans ?_
      show Steps p.tables e below (T101.setTop (mkF m 4 #[.val (.ref a1)] [])) _
      refine XS.aloadN X101.here hx rfl (hb hby d3_4) rfl rfl ?_
      show Steps p.tables e below (T101.setTop (mkF m 5 #[.val (.ref a1)] [(.ref a1)])) _
      refine st105 _ ?_
      show Steps p.tables e below (T105.setTop (mkF m 8 #[.val (.ref a1)] [(.ref DC), (.ref a1)])) _
      refine st107 _ ?_
      exact kt)
  have f111 : Fld Z h107 a1 "java/util/AbstractList" "modCount" "I" (.int (0 : Int32)) := (x101_0.other W107 (Or.inr (slot_ne (Or.inl (hw _ (List.mem_of_getElem? (i := 29) rfl))) (Or.inl (hw _ (List.mem_of_getElem? (i := 32) rfl))) (by decide) (t := .int) (t' := (.array (.object "java/lang/Object"))) (by decide) (by decide))))
  have f112 : Fld Z h107 a1 "java/util/ArrayList" "size" "I" (.int (0 : Int32)) := (x101_2.other W107 (Or.inr (slot_ne (Or.inl (hw _ (List.mem_of_getElem? (i := 59) rfl))) (Or.inl (hw _ (List.mem_of_getElem? (i := 32) rfl))) (by decide) (t := .int) (t' := (.array (.object "java/lang/Object"))) (by decide) (by decide))))
  obtain ⟨fs, hr, hrun, hended, hW, hsame⟩ := X107.leave (v := none) (fun _ => rfl)
  refine ⟨_, _, pre110 _ ?_, hrun, hended, _, _, rfl, ?_, ⟨_, rfl⟩, hW, hsame.mono (by decide) (by decide)⟩
  · show Steps p.tables e below (T107.setTop (mkF m 11 #[.val (.ref a1)] [])) _
    exact X107.returnOut hx Bd.returns (hb hby d3_11) hr
  · show Qalinit Z a1 DC h0 n0 _ T107.heap _
    rw [e107]
    exact ⟨rfl, N107, k109, f111, F107, f112⟩
theorem ef_alsize (m : MethodId) (a1 : Addr) : entryFrame m #[(.ref a1)] 1 = mkF m 0 #[.val (.ref a1)] [] := by first | (simp [entryFrame, mkF, argsToLocals, Value.category]; done) | rfl
theorem d8_0 : decode jdk_38_method_8_code 0 = .ok (.aload_n 0, 1) := by decide +kernel
theorem d8_1 : decode jdk_38_method_8_code 1 = .ok (.getfield 48, 3) := by decide +kernel
theorem d8_4 : decode jdk_38_method_8_code 4 = .ok (.ireturn, 1) := by decide +kernel
def Qalsize (Z : State) (a1 : Addr) (p9 : Int32) (h0 : Heap) (n0 : Nat) (v : Option Value) (h : Heap) (L : List Loc) : Prop := v = some (.int p9) ∧ Fr n0 L ∧ h = h0
set_option maxRecDepth 65536 in
set_option maxHeartbeats 40000000 in
theorem rmalsize (l : Launch) (Z : State) (a0 : Array Value) (hw : ∀ d ∈ tables_1, d.before a0 Z = true) (ws : List Jvm.Cond) (a1 : Addr) (p9 : Int32) (h0 : Heap) (n0 : Nat) (Z0 : n0 ≤ h0.size) (P_E_a1 : Exa Z h0 a1 "java/util/ArrayList") (P_F_a1_size : Fld Z h0 a1 "java/util/ArrayList" "size" "I" (.int p9)) :
    MetFree l (⟨"java/util/ArrayList", "size", "()I"⟩ : MethodName) (head1 (Jvm.Cond.code (⟨"java/util/ArrayList", "size", "()I"⟩ : MethodName) jdk_38_method_8_code 1 (some .int) :: ws) ({ frames := 0, cells := 0, slots := 0, locals := 0 } : Room)) (fun a U => a = #[(.ref a1)] ∧ Z.Warmed39 U.vm ∧ U.heap = h0) (fun _ _ _ _ _ => True) (fun _ U o U' => ∃ v L, o = .returned v ∧ Qalsize Z a1 p9 h0 n0 v U'.heap L ∧ FrameEnd U o U' L ({ frames := 0, cells := 0, slots := 0, locals := 0 } : Room).cells ({ frames := 0, cells := 0, slots := 0, locals := 0 } : Room).slots) := by
  refine MetFree.of_bodySF (plainFor_of_name pn_java_util_ArrayList) hisR ?_
  intro p e s m args below meth c s₁ Bd hml0 hP hK
  obtain ⟨rfl, hZ, hh⟩ := hP
  have hx := Bd.exec
  have hby := Bd.bytes
  have hml : c.maxLocals = 1 := hml0
  have hown : s.vm.findClass "java/util/ArrayList" = some m.cls := findClass_of_methodNamed Bd.named
  have hnm := (name_of_methodNamed Bd.named Bd.method).1
  have X0 : Stand p l e ({ frames := 0, cells := 0, slots := 0, locals := 0 } : Room) s m #[(.ref a1)] below meth c s₁ [] 0 0 := Stand.of_body Bd
  have e0 : s₁.heap = h0 := by rw [← hh, Bd.state]; rfl
  have N0 := Fr.nil n0
  have pre0 : ∀ t_, Steps p.tables e below (s₁.setTop (mkF m 0 #[.val (.ref a1)] [])) t_ → Steps p.tables e below (s₁.setTop (entryFrame m #[(.ref a1)] 1)) t_ := fun t_ k => castTop (ef_alsize m a1) k
  obtain ⟨T101, X101, e101, st101⟩ := getF X0 hx hZ hown (host := "") (Or.inl (hw _ (List.mem_of_getElem? (i := 58) rfl))) Via.refl e0 P_F_a1_size (g := (mkF m 1 #[.val (.ref a1)] [(.ref a1)])) rfl rfl (hb hby d8_1)
  have pre102 : ∀ t_, Steps p.tables e below (T101.setTop (mkF m 4 #[.val (.ref a1)] [(.int p9)])) t_ → Steps p.tables e below (s₁.setTop (entryFrame m #[(.ref a1)] 1)) t_ := fun t_ kt => pre0 t_ (by
      show Steps p.tables e below (s₁.setTop (mkF m 0 #[.val (.ref a1)] [])) _
      refine XS.aloadN X0.here hx rfl (hb hby d8_0) rfl rfl ?_
      show Steps p.tables e below (s₁.setTop (mkF m 1 #[.val (.ref a1)] [(.ref a1)])) _
      refine st101 _ ?_
      exact kt)
  obtain ⟨fs, hr, hrun, hended, hW, hsame⟩ := X101.leave (v := some (.int p9)) (fun h => by rw [Bd.returns] at h; cases h)
  refine ⟨_, _, pre102 _ ?_, hrun, hended, _, _, rfl, ?_, ⟨_, rfl⟩, hW, hsame.mono (by decide) (by decide)⟩
  · show Steps p.tables e below (T101.setTop (mkF m 4 #[.val (.ref a1)] [(.int p9)])) _
    exact retI X101 hx Bd.returns (hb hby d8_4) hr
  · show Qalsize Z a1 p9 h0 n0 _ T101.heap _
    rw [e101]
    exact ⟨rfl, N0, rfl⟩
theorem ef_min (m : MethodId) (p1 : Int32) (p2 : Int32) : entryFrame m #[(.int p1), (.int p2)] 2 = mkF m 0 #[.val (.int p1), .val (.int p2)] [] := by first | (simp [entryFrame, mkF, argsToLocals, Value.category]; done) | rfl
theorem d6_0 : decode jdk_29_method_69_code 0 = .ok (.iload_n 0, 1) := by decide +kernel
theorem d6_1 : decode jdk_29_method_69_code 1 = .ok (.iload_n 1, 1) := by decide +kernel
theorem d6_2 : decode jdk_29_method_69_code 2 = .ok (.if_icmp .gt 7, 3) := by decide +kernel
theorem d6_9 : decode jdk_29_method_69_code 9 = .ok (.iload_n 1, 1) := by decide +kernel
theorem d6_10 : decode jdk_29_method_69_code 10 = .ok (.ireturn, 1) := by decide +kernel
theorem d6_5 : decode jdk_29_method_69_code 5 = .ok (.iload_n 0, 1) := by decide +kernel
theorem d6_6 : decode jdk_29_method_69_code 6 = .ok (.goto 4, 3) := by decide +kernel
def Qmin (Z : State) (p1 : Int32) (p2 : Int32) (h0 : Heap) (n0 : Nat) (v : Option Value) (h : Heap) (L : List Loc) : Prop := v = some (.int (own_min p1 p2)) ∧ Fr n0 L ∧ h = h0
set_option maxRecDepth 65536 in
set_option maxHeartbeats 40000000 in
theorem rmmin (l : Launch) (Z : State) (a0 : Array Value) (hw : ∀ d ∈ tables_1, d.before a0 Z = true) (ws : List Jvm.Cond) (p1 : Int32) (p2 : Int32) (h0 : Heap) (n0 : Nat) (Z0 : n0 ≤ h0.size) :
    MetFree l (⟨"java/lang/Math", "min", "(II)I"⟩ : MethodName) (head1 (Jvm.Cond.code (⟨"java/lang/Math", "min", "(II)I"⟩ : MethodName) jdk_29_method_69_code 2 (some .int) :: ws) ({ frames := 0, cells := 0, slots := 0, locals := 0 } : Room)) (fun a U => a = #[(.int p1), (.int p2)] ∧ Z.Warmed39 U.vm ∧ U.heap = h0) (fun _ _ _ _ _ => True) (fun _ U o U' => ∃ v L, o = .returned v ∧ Qmin Z p1 p2 h0 n0 v U'.heap L ∧ FrameEnd U o U' L ({ frames := 0, cells := 0, slots := 0, locals := 0 } : Room).cells ({ frames := 0, cells := 0, slots := 0, locals := 0 } : Room).slots) := by
  refine MetFree.of_bodySF (Jvm.Free.JP.mathPlain rfl (by decide +kernel)) hisR ?_
  intro p e s m args below meth c s₁ Bd hml0 hP hK
  obtain ⟨rfl, hZ, hh⟩ := hP
  have hx := Bd.exec
  have hby := Bd.bytes
  have hml : c.maxLocals = 2 := hml0
  have hown : s.vm.findClass "java/lang/Math" = some m.cls := findClass_of_methodNamed Bd.named
  have hnm := (name_of_methodNamed Bd.named Bd.method).1
  have X0 : Stand p l e ({ frames := 0, cells := 0, slots := 0, locals := 0 } : Room) s m #[(.int p1), (.int p2)] below meth c s₁ [] 0 0 := Stand.of_body Bd
  have e0 : s₁.heap = h0 := by rw [← hh, Bd.state]; rfl
  have N0 := Fr.nil n0
  have pre0 : ∀ t_, Steps p.tables e below (s₁.setTop (mkF m 0 #[.val (.int p1), .val (.int p2)] [])) t_ → Steps p.tables e below (s₁.setTop (entryFrame m #[(.int p1), (.int p2)] 2)) t_ := fun t_ k => castTop (ef_min m p1 p2) k
  have pre101 : ∀ t_, Steps p.tables e below (s₁.setTop (mkF m 2 #[.val (.int p1), .val (.int p2)] [(.int p2), (.int p1)])) t_ → Steps p.tables e below (s₁.setTop (entryFrame m #[(.int p1), (.int p2)] 2)) t_ := fun t_ kt => pre0 t_ (by
      show Steps p.tables e below (s₁.setTop (mkF m 0 #[.val (.int p1), .val (.int p2)] [])) _
      refine XS.iloadN X0.here hx rfl (hb hby d6_0) rfl ?_
      show Steps p.tables e below (s₁.setTop (mkF m 1 #[.val (.int p1), .val (.int p2)] [(.int p1)])) _
      refine XS.iloadN X0.here hx rfl (hb hby d6_1) rfl ?_
      exact kt)
  by_cases hA : p2 < p1
  · skip
    have pre102 : ∀ t_, Steps p.tables e below (s₁.setTop (mkF m 10 #[.val (.int p1), .val (.int p2)] [(.int p2)])) t_ → Steps p.tables e below (s₁.setTop (entryFrame m #[(.int p1), (.int p2)] 2)) t_ := fun t_ kt => pre101 t_ (by
        show Steps p.tables e below (s₁.setTop (mkF m 2 #[.val (.int p1), .val (.int p2)] [(.int p2), (.int p1)])) _
        refine XS.icmpYes X0.here hx rfl (pc0 := 2) (pc' := 9) rfl (hb hby d6_2) rfl (tlt (hA : p2 < p1)).2.2.1 (by decide) (by decide) ?_
        show Steps p.tables e below (s₁.setTop (mkF m 9 #[.val (.int p1), .val (.int p2)] [])) _
        refine XS.iloadN X0.here hx rfl (hb hby d6_9) rfl ?_
        exact kt)
    obtain ⟨fs, hr, hrun, hended, hW, hsame⟩ := X0.leave (v := some (.int p2)) (fun h => by rw [Bd.returns] at h; cases h)
    refine ⟨_, _, pre102 _ ?_, hrun, hended, _, _, rfl, ?_, ⟨_, rfl⟩, hW, hsame.mono (by decide) (by decide)⟩
    · show Steps p.tables e below (s₁.setTop (mkF m 10 #[.val (.int p1), .val (.int p2)] [(.int p2)])) _
      exact retI X0 hx Bd.returns (hb hby d6_10) hr
    · show Qmin Z p1 p2 h0 n0 _ s₁.heap _
      rw [e0]
      exact ⟨by unfold own_min; rw [if_pos hA], N0, rfl⟩
  · skip
    have pre103 : ∀ t_, Steps p.tables e below (s₁.setTop (mkF m 10 #[.val (.int p1), .val (.int p2)] [(.int p1)])) t_ → Steps p.tables e below (s₁.setTop (entryFrame m #[(.int p1), (.int p2)] 2)) t_ := fun t_ kt => pre101 t_ (by
        show Steps p.tables e below (s₁.setTop (mkF m 2 #[.val (.int p1), .val (.int p2)] [(.int p2), (.int p1)])) _
        refine XS.icmpNo X0.here hx rfl (hb hby d6_2) rfl (flt (hA : ¬ (p2 < p1))).2.2.1 ?_
        show Steps p.tables e below (s₁.setTop (mkF m 5 #[.val (.int p1), .val (.int p2)] [])) _
        refine XS.iloadN X0.here hx rfl (hb hby d6_5) rfl ?_
        show Steps p.tables e below (s₁.setTop (mkF m 6 #[.val (.int p1), .val (.int p2)] [(.int p1)])) _
        refine XS.goto X0.here hx rfl (pc0 := 6) (pc' := 10) rfl (hb hby d6_6) (by decide) (by decide) ?_
        exact kt)
    obtain ⟨fs, hr, hrun, hended, hW, hsame⟩ := X0.leave (v := some (.int p1)) (fun h => by rw [Bd.returns] at h; cases h)
    refine ⟨_, _, pre103 _ ?_, hrun, hended, _, _, rfl, ?_, ⟨_, rfl⟩, hW, hsame.mono (by decide) (by decide)⟩
    · show Steps p.tables e below (s₁.setTop (mkF m 10 #[.val (.int p1), .val (.int p2)] [(.int p1)])) _
      exact retI X0 hx Bd.returns (hb hby d6_10) hr
    · show Qmin Z p1 p2 h0 n0 _ s₁.heap _
      rw [e0]
      exact ⟨by unfold own_min; rw [if_neg hA], N0, rfl⟩
theorem ef_ctor (m : MethodId) (a1 : Addr) (p1 : Int32) : entryFrame m #[(.ref a1), (.int p1)] 2 = mkF m 0 #[.val (.ref a1), .val (.int p1)] [] := by first | (simp [entryFrame, mkF, argsToLocals, Value.category]; done) | rfl
theorem d1_0 : decode prog_4_method_1_code 0 = .ok (.aload_n 0, 1) := by decide +kernel
theorem d1_1 : decode prog_4_method_1_code 1 = .ok (.invokespecial 1, 3) := by decide +kernel
theorem d1_4 : decode prog_4_method_1_code 4 = .ok (.aload_n 0, 1) := by decide +kernel
theorem d1_5 : decode prog_4_method_1_code 5 = .ok (.new 7, 3) := by decide +kernel
theorem d1_8 : decode prog_4_method_1_code 8 = .ok (.dup, 1) := by decide +kernel
theorem d1_9 : decode prog_4_method_1_code 9 = .ok (.invokespecial 9, 3) := by decide +kernel
theorem d1_12 : decode prog_4_method_1_code 12 = .ok (.putfield 10, 3) := by decide +kernel
theorem d1_15 : decode prog_4_method_1_code 15 = .ok (.iload_n 1, 1) := by decide +kernel
theorem d1_16 : decode prog_4_method_1_code 16 = .ok (.bipush 16, 2) := by decide +kernel
theorem d1_18 : decode prog_4_method_1_code 18 = .ok (.if_icmp .ge 17, 3) := by decide +kernel
theorem d1_35 : decode prog_4_method_1_code 35 = .ok (.aload_n 0, 1) := by decide +kernel
theorem d1_36 : decode prog_4_method_1_code 36 = .ok (.iload_n 1, 1) := by decide +kernel
theorem d1_37 : decode prog_4_method_1_code 37 = .ok (.putfield 25, 3) := by decide +kernel
theorem d1_40 : decode prog_4_method_1_code 40 = .ok (.aload_n 0, 1) := by decide +kernel
theorem d1_41 : decode prog_4_method_1_code 41 = .ok (.iload_n 1, 1) := by decide +kernel
theorem d1_42 : decode prog_4_method_1_code 42 = .ok (.sipush 4096, 3) := by decide +kernel
theorem pd__28II_29I : parseMethodDescriptor "(II)I" = some ⟨[.int, .int], some .int⟩ := by decide +kernel
theorem d1_45 : decode prog_4_method_1_code 45 = .ok (.invokestatic 29, 3) := by decide +kernel
theorem d1_48 : decode prog_4_method_1_code 48 = .ok (.newarray .double, 2) := by decide +kernel
theorem d1_50 : decode prog_4_method_1_code 50 = .ok (.putfield 35, 3) := by decide +kernel
theorem d1_53 : decode prog_4_method_1_code 53 = .ok (.return_, 1) := by decide +kernel
theorem pn_com_example_attacca_attacca_DecimatingBuffer : plainName "com/example/attacca/attacca/DecimatingBuffer" = true := by first | (simp [plainName, overriddenIn]; done) | decide +kernel
def Qctor (Z : State) (a1 : Addr) (p1 : Int32) (DC : Addr) (h0 : Heap) (n0 : Nat) (v : Option Value) (h : Heap) (L : List Loc) : Prop := ∃ (l1 : Addr) (v1 : Addr) (kv : ClassId), v = none ∧ Fr n0 L ∧ Keep h0 h [a1] ∧ (h0.size ≤ l1) ∧ (h0.size ≤ v1) ∧ (l1 ≠ v1) ∧ (Fld Z h a1 "com/example/attacca/attacca/DecimatingBuffer" "stages" "Ljava/util/List;" (.ref l1)) ∧ (Fld Z h a1 "com/example/attacca/attacca/DecimatingBuffer" "capacity" "I" (.int p1)) ∧ (Fld Z h a1 "com/example/attacca/attacca/DecimatingBuffer" "values" "[D" (.ref v1)) ∧ (Fld Z h a1 "com/example/attacca/attacca/DecimatingBuffer" "count" "I" (.int (0 : Int32))) ∧ (Exa Z h l1 "java/util/ArrayList") ∧ (Fld Z h l1 "java/util/ArrayList" "size" "I" (.int (0 : Int32))) ∧ (Arv Z h v1 kv .double (own_min p1 (4096 : Int32)) (List.replicate 7 (Value.double 0)) (.double (0 : UInt64)))
set_option maxRecDepth 65536 in
set_option maxHeartbeats 40000000 in
theorem rmctor (l : Launch) (Z : State) (a0 : Array Value) (hw : ∀ d ∈ tables_1, d.before a0 Z = true) (ws : List Jvm.Cond) (a1 : Addr) (p1 : Int32) (DC : Addr) (h0 : Heap) (n0 : Nat) (Z0 : n0 ≤ h0.size) (P_E_a1 : Exa Z h0 a1 "com/example/attacca/attacca/DecimatingBuffer") (P_F_a1_stages : Fld Z h0 a1 "com/example/attacca/attacca/DecimatingBuffer" "stages" "Ljava/util/List;" .null) (P_F_a1_capacity : Fld Z h0 a1 "com/example/attacca/attacca/DecimatingBuffer" "capacity" "I" (.int (0 : Int32))) (P_F_a1_values : Fld Z h0 a1 "com/example/attacca/attacca/DecimatingBuffer" "values" "[D" .null) (P_F_a1_count : Fld Z h0 a1 "com/example/attacca/attacca/DecimatingBuffer" "count" "I" (.int (0 : Int32))) (P_G_a1 : n0 ≤ a1) (hcap : ¬ (p1 < (16 : Int32))) (Od : Sta Z Z.heap "java/util/ArrayList" "DEFAULTCAPACITY_EMPTY_ELEMENTDATA" "[Ljava/lang/Object;" (.ref DC)) (P_O : Old Z n0 h0) :
    MetFree l (⟨"com/example/attacca/attacca/DecimatingBuffer", "<init>", "(I)V"⟩ : MethodName) (head1 (Jvm.Cond.code (⟨"com/example/attacca/attacca/DecimatingBuffer", "<init>", "(I)V"⟩ : MethodName) prog_4_method_1_code 2 none :: ws) ({ frames := 4, cells := 2, slots := 4099, locals := 50 } : Room)) (fun a U => a = #[(.ref a1), (.int p1)] ∧ Z.Warmed39 U.vm ∧ U.heap = h0) (fun _ _ _ _ _ => True) (fun _ U o U' => ∃ v L, o = .returned v ∧ Qctor Z a1 p1 DC h0 n0 v U'.heap L ∧ FrameEnd U o U' L ({ frames := 4, cells := 2, slots := 4099, locals := 50 } : Room).cells ({ frames := 4, cells := 2, slots := 4099, locals := 50 } : Room).slots) := by
  refine MetFree.of_bodySF (plainFor_of_name pn_com_example_attacca_attacca_DecimatingBuffer) hisR ?_
  intro p e s m args below meth c s₁ Bd hml0 hP hK
  obtain ⟨rfl, hZ, hh⟩ := hP
  have hx := Bd.exec
  have hby := Bd.bytes
  have hml : c.maxLocals = 2 := hml0
  have hown : s.vm.findClass "com/example/attacca/attacca/DecimatingBuffer" = some m.cls := findClass_of_methodNamed Bd.named
  have hnm := (name_of_methodNamed Bd.named Bd.method).1
  have X0 : Stand p l e ({ frames := 4, cells := 2, slots := 4099, locals := 50 } : Room) s m #[(.ref a1), (.int p1)] below meth c s₁ [] 0 0 := Stand.of_body Bd
  have e0 : s₁.heap = h0 := by rw [← hh, Bd.state]; rfl
  have N0 := Fr.nil n0
  have pre0 : ∀ t_, Steps p.tables e below (s₁.setTop (mkF m 0 #[.val (.ref a1), .val (.int p1)] [])) t_ → Steps p.tables e below (s₁.setTop (entryFrame m #[(.ref a1), (.int p1)] 2)) t_ := fun t_ k => castTop (ef_ctor m a1 p1) k
  obtain ⟨T101, X101, e101, st101⟩ := initO X0 hx hZ hown (hw _ (List.mem_of_getElem? (i := 6) rfl)) (hw _ (List.mem_of_getElem? (i := 7) rfl)) (hw _ (List.mem_of_getElem? (i := 8) rfl)) e0 (g := (mkF m 1 #[.val (.ref a1), .val (.int p1)] [(.ref a1)])) rfl (by rw [hml]; rfl) rfl (hb hby d1_1) (by decide) (W := 0) (by show 2 * 0 + _ ≤ _; exact Nat.le_of_eq rfl) (by decide)
  obtain ⟨T102, h102, X102, e102, E102, A102, D102, -, st102⟩ := newO X101 hx hZ hown (hw _ (List.mem_of_getElem? (i := 9) rfl)) (hw _ (List.mem_of_getElem? (i := 10) rfl)) (hw _ (List.mem_of_getElem? (i := 11) rfl)) e101 (g := (mkF m 5 #[.val (.ref a1), .val (.int p1)] [(.ref a1)])) rfl (hb hby d1_5) (by decide) (by decide)
  obtain ⟨b102, g102⟩ : ∃ z, z = h0.size := ⟨_, rfl⟩
  rw [← g102] at A102 D102 st102
  have ne103 : a1 ≠ b102 := Nat.ne_of_lt (Nat.lt_of_lt_of_le P_E_a1.lt (Nat.le_of_eq g102.symm))
  have g_b102 : n0 ≤ b102 := Nat.le_trans Z0 (Nat.le_of_eq g102.symm)
  have sz_b102 : h0.size ≤ b102 := Nat.le_trans (Keep.refl h0 [a1]).1 (Nat.le_of_eq g102.symm)
  have z104 : n0 ≤ h102.size := Nat.le_trans Z0 E102.1
  have k105 : Keep h0 h102 [a1] := (Keep.refl h0 [a1]).ext E102
  have F102_29 : Fld Z h102 b102 "java/util/AbstractList" "modCount" "I" (.int (0 : Int32)) := D102 (Or.inl (hw _ (List.mem_of_getElem? (i := 29) rfl))) (ty := .int) (by decide)
  have F102_32 : Fld Z h102 b102 "java/util/ArrayList" "elementData" "[Ljava/lang/Object;" .null := D102 (Or.inl (hw _ (List.mem_of_getElem? (i := 32) rfl))) (ty := (.array (.object "java/lang/Object"))) (by decide)
  have F102_59 : Fld Z h102 b102 "java/util/ArrayList" "size" "I" (.int (0 : Int32)) := D102 (Or.inl (hw _ (List.mem_of_getElem? (i := 59) rfl))) (ty := .int) (by decide)
  have f106 : Old Z n0 h102 := (P_O.ext E102)
  obtain ⟨_, _, ⟨T107, L107, kk107, nn107⟩, -, X107, ⟨Lc107, hQ107, l107, y107, z107⟩, st107⟩ := X102.specialBack hx (y := (⟨"java/util/ArrayList", "<init>", "()V"⟩ : MethodName)) rfl hown (mvT hZ (hw _ (List.mem_of_getElem? (i := 12) rfl))) (mvT hZ (hw _ (List.mem_of_getElem? (i := 13) rfl))) (mvT hZ (hw _ (List.mem_of_getElem? (i := 14) rfl))) (by decide) (backOf (W := 2) (rmalinit l Z a0 hw [] b102 DC h102 n0 z104 A102 F102_29 F102_32 F102_59 g_b102 (Od) f106) hZ (hw _ (List.mem_of_getElem? (i := 14) rfl)) (hw _ (List.mem_of_getElem? (i := 11) rfl)) (by decide) (by decide)) (g := (mkF m 9 #[.val (.ref a1), .val (.int p1)] [(.ref b102), (.ref b102), (.ref a1)])) rfl (by rw [hml]; rfl) (Steps.refl _) (a := b102) (argsL := []) (rest := [(.ref b102), (.ref a1)]) (lenOf pd__28_29V rfl) rfl (by show 2 * 0 + _ ≤ _; exact Nat.le_of_eq rfl) (hb hby d1_9) (fun _ _ => ⟨rfl, e102, (by decide : 1 + 0 ≤ _), (by decide : 3 + 0 ≤ _)⟩)
  dsimp only [Pt.U, Pt.locs, Pt.cells, Pt.slots] at X107 l107 y107 z107 st107 hQ107
  subst l107 y107 z107
  obtain ⟨rfl, N107q, K107, x107_0, x107_1, x107_2⟩ := hQ107
  have N107 := Fr.app N0 N107q
  have z108 : n0 ≤ T107.heap.size := Nat.le_trans z104 K107.1
  have k109 : Keep h0 T107.heap [a1] := k105.trans K107 (own_wmc (Or.inr sz_b102) own_wm0)
  have f110 : Fld Z T107.heap a1 "com/example/attacca/attacca/DecimatingBuffer" "stages" "Ljava/util/List;" .null := ((P_F_a1_stages.ext E102).keep K107 (own_nmc ne103 own_nm0))
  have f111 : Exa Z T107.heap a1 "com/example/attacca/attacca/DecimatingBuffer" := ((P_E_a1.ext E102).keep K107)
  obtain ⟨T112, h112, X112, e112, W112, st112⟩ := putF X107 hx hZ hown (host := "") (Or.inl (hw _ (List.mem_of_getElem? (i := 33) rfl))) Via.refl rfl f110 f111 (Or.inr ⟨(hw _ (List.mem_of_getElem? (i := 34) rfl)), rfl, hnm⟩) (hw _ (List.mem_of_getElem? (i := 1) rfl)) (ty := (.object "java/util/List")) (by decide) rfl rfl (g := (mkF m 12 #[.val (.ref a1), .val (.int p1)] [(.ref b102), (.ref a1)])) rfl rfl (hb hby d1_12)
  have F112 : Fld Z h112 a1 "com/example/attacca/attacca/DecimatingBuffer" "stages" "Ljava/util/List;" (.ref b102) := f110.same W112
  have z113 : n0 ≤ h112.size := Nat.le_trans z108 (Keep.of_wr W112).1
  have k114 : Keep h0 h112 [a1] := k109.wr W112 (Or.inl (List.mem_of_getElem? (i := 0) rfl))
  have N112 : Fr n0 _ := Fr.snoc X112 N107 P_G_a1
  have f115 : Fld Z h112 a1 "com/example/attacca/attacca/DecimatingBuffer" "capacity" "I" (.int (0 : Int32)) := (((P_F_a1_capacity.ext E102).keep K107 (own_nmc ne103 own_nm0)).other W112 (Or.inr (slot_ne (Or.inr (hw _ (List.mem_of_getElem? (i := 36) rfl))) (Or.inr (hw _ (List.mem_of_getElem? (i := 34) rfl))) (by decide) (t := .int) (t' := (.object "java/util/List")) (by decide) (by decide))))
  have f116 : Exa Z h112 a1 "com/example/attacca/attacca/DecimatingBuffer" := (f111.wr W112)
  obtain ⟨T117, h117, X117, e117, W117, st117⟩ := putF X112 hx hZ hown (host := "") (Or.inl (hw _ (List.mem_of_getElem? (i := 35) rfl))) Via.refl e112 f115 f116 (Or.inr ⟨(hw _ (List.mem_of_getElem? (i := 36) rfl)), rfl, hnm⟩) (hw _ (List.mem_of_getElem? (i := 1) rfl)) (ty := .int) (by decide) rfl rfl (g := (mkF m 37 #[.val (.ref a1), .val (.int p1)] [(.int p1), (.ref a1)])) rfl rfl (hb hby d1_37)
  have F117 : Fld Z h117 a1 "com/example/attacca/attacca/DecimatingBuffer" "capacity" "I" (.int p1) := f115.same W117
  have z118 : n0 ≤ h117.size := Nat.le_trans z113 (Keep.of_wr W117).1
  have k119 : Keep h0 h117 [a1] := k114.wr W117 (Or.inl (List.mem_of_getElem? (i := 0) rfl))
  have N117 : Fr n0 _ := Fr.snoc X117 N112 P_G_a1
  obtain ⟨_, _, ⟨T120, L120, kk120, nn120⟩, -, X120, ⟨Lc120, hQ120, l120, y120, z120⟩, st120⟩ := Jvm.LawKit.callS X117 hx (y := (⟨"java/lang/Math", "min", "(II)I"⟩ : MethodName)) hown (mvT hZ (hw _ (List.mem_of_getElem? (i := 37) rfl))) (mvT hZ (hw _ (List.mem_of_getElem? (i := 38) rfl))) (mvT hZ (hw _ (List.mem_of_getElem? (i := 39) rfl))) (mvT hZ (hw _ (List.mem_of_getElem? (i := 40) rfl))) (by decide) (backOf (W := 1) (rmmin l Z a0 hw [] p1 (4096 : Int32) h117 n0 z118 ) hZ (hw _ (List.mem_of_getElem? (i := 40) rfl)) (hw _ (List.mem_of_getElem? (i := 39) rfl)) (by decide) (by decide)) (g := (mkF m 45 #[.val (.ref a1), .val (.int p1)] [(.int (4096 : Int32)), (.int p1), (.ref a1)])) rfl (by rw [hml]; rfl) (argsL := [(.int p1), (.int (4096 : Int32))]) (rest := [(.ref a1)]) (lenOf pd__28II_29I rfl) rfl (by show 2 * 0 + _ ≤ _; exact Nat.le_of_eq rfl) (hb hby d1_45) (fun _ _ => ⟨rfl, e117, (by decide : 1 + 0 ≤ _), (by decide : 3 + 0 ≤ _)⟩)
  dsimp only [Pt.U, Pt.locs, Pt.cells, Pt.slots] at X120 l120 y120 z120 st120 hQ120
  subst l120 y120 z120
  obtain ⟨rfl, N120q, e120⟩ := hQ120
  have N120 := Fr.app N117 N120q
  obtain ⟨T121, h121, k121, X121, e121, E121, A121, st121⟩ := newP X120 hx hZ (hw _ (List.mem_of_getElem? (i := 41) rfl)) e120 (g := (mkF m 48 #[.val (.ref a1), .val (.int p1)] [(.int (own_min p1 (4096 : Int32))), (.ref a1)])) rfl (hb hby d1_48) rfl (own_minn hcap) (cap := 4096) (own_minc hcap) (by decide) (by decide) (by decide)
  obtain ⟨b121, g121⟩ : ∃ z, z = h117.size := ⟨_, rfl⟩
  rw [← g121] at A121 st121
  have f123 : Exa Z h117 a1 "com/example/attacca/attacca/DecimatingBuffer" := (f116.wr W117)
  have ne122 : a1 ≠ b121 := Nat.ne_of_lt (Nat.lt_of_lt_of_le f123.lt (Nat.le_of_eq g121.symm))
  have f125 : Exa Z h117 b102 "java/util/ArrayList" := (((A102.keep K107).wr W112).wr W117)
  have ne124 : b102 ≠ b121 := Nat.ne_of_lt (Nat.lt_of_lt_of_le f125.lt (Nat.le_of_eq g121.symm))
  have g_b121 : n0 ≤ b121 := Nat.le_trans z118 (Nat.le_of_eq g121.symm)
  have sz_b121 : h0.size ≤ b121 := Nat.le_trans k119.1 (Nat.le_of_eq g121.symm)
  have z126 : n0 ≤ h121.size := Nat.le_trans z118 E121.1
  have k127 : Keep h0 h121 [a1] := k119.ext E121
  have V121 : Arv Z h121 b121 k121 .double (own_min p1 (4096 : Int32)) (List.replicate 7 (Value.double 0)) (.double (0 : UInt64)) := (Arv.new A121 (own_minn hcap)).pad (pad_rep [] (.double 0) 7)
  have f128 : Fld Z h121 a1 "com/example/attacca/attacca/DecimatingBuffer" "values" "[D" .null := (((((P_F_a1_values.ext E102).keep K107 (own_nmc ne103 own_nm0)).other W112 (Or.inr (slot_ne (Or.inl (hw _ (List.mem_of_getElem? (i := 43) rfl))) (Or.inr (hw _ (List.mem_of_getElem? (i := 34) rfl))) (by decide) (t := (.array .double)) (t' := (.object "java/util/List")) (by decide) (by decide)))).other W117 (Or.inr (slot_ne (Or.inl (hw _ (List.mem_of_getElem? (i := 43) rfl))) (Or.inr (hw _ (List.mem_of_getElem? (i := 36) rfl))) (by decide) (t := (.array .double)) (t' := .int) (by decide) (by decide)))).ext E121)
  have f129 : Exa Z h121 a1 "com/example/attacca/attacca/DecimatingBuffer" := (f123.ext E121)
  obtain ⟨T130, h130, X130, e130, W130, st130⟩ := putF X121 hx hZ hown (host := "") (Or.inl (hw _ (List.mem_of_getElem? (i := 42) rfl))) Via.refl e121 f128 f129 (Or.inl (hw _ (List.mem_of_getElem? (i := 43) rfl))) (hw _ (List.mem_of_getElem? (i := 1) rfl)) (ty := (.array .double)) (by decide) rfl rfl (g := (mkF m 50 #[.val (.ref a1), .val (.int p1)] [(.ref b121), (.ref a1)])) rfl rfl (hb hby d1_50)
  have F130 : Fld Z h130 a1 "com/example/attacca/attacca/DecimatingBuffer" "values" "[D" (.ref b121) := f128.same W130
  have z131 : n0 ≤ h130.size := Nat.le_trans z126 (Keep.of_wr W130).1
  have k132 : Keep h0 h130 [a1] := k127.wr W130 (Or.inl (List.mem_of_getElem? (i := 0) rfl))
  have N130 : Fr n0 _ := Fr.snoc X130 N120 P_G_a1
  have pre133 : ∀ t_, Steps p.tables e below (T130.setTop (mkF m 53 #[.val (.ref a1), .val (.int p1)] [])) t_ → Steps p.tables e below (s₁.setTop (entryFrame m #[(.ref a1), (.int p1)] 2)) t_ := fun t_ kt => pre0 t_ (by
      show Steps p.tables e below (s₁.setTop (mkF m 0 #[.val (.ref a1), .val (.int p1)] [])) _
      refine XS.aloadN X0.here hx rfl (hb hby d1_0) rfl rfl ?_
      show Steps p.tables e below (s₁.setTop (mkF m 1 #[.val (.ref a1), .val (.int p1)] [(.ref a1)])) _
      refine st101 _ ?_
      show Steps p.tables e below (T101.setTop (mkF m 4 #[.val (.ref a1), .val (.int p1)] [])) _
      refine XS.aloadN X101.here hx rfl (hb hby d1_4) rfl rfl ?_
      show Steps p.tables e below (T101.setTop (mkF m 5 #[.val (.ref a1), .val (.int p1)] [(.ref a1)])) _
      refine st102 _ ?_
      show Steps p.tables e below (T102.setTop (mkF m 8 #[.val (.ref a1), .val (.int p1)] [(.ref b102), (.ref a1)])) _
      refine XS.dup X102.here hx rfl (hb hby d1_8) rfl rfl ?_
      show Steps p.tables e below (T102.setTop (mkF m 9 #[.val (.ref a1), .val (.int p1)] [(.ref b102), (.ref b102), (.ref a1)])) _
      refine st107.trans ?_
      show Steps p.tables e below (T107.setTop (mkF m 12 #[.val (.ref a1), .val (.int p1)] [(.ref b102), (.ref a1)])) _
      refine st112 _ ?_
      show Steps p.tables e below (T112.setTop (mkF m 15 #[.val (.ref a1), .val (.int p1)] [])) _
      refine XS.iloadN X112.here hx rfl (hb hby d1_15) rfl ?_
      show Steps p.tables e below (T112.setTop (mkF m 16 #[.val (.ref a1), .val (.int p1)] [(.int p1)])) _
      refine XS.bipush X112.here hx rfl (hb hby d1_16) ?_
      show Steps p.tables e below (T112.setTop (mkF m 18 #[.val (.ref a1), .val (.int p1)] [(.int (16 : Int32)), (.int p1)])) _
      refine XS.icmpYes X112.here hx rfl (pc0 := 18) (pc' := 35) rfl (hb hby d1_18) rfl (flt (hcap : ¬ (p1 < (16 : Int32)))).2.1 (by decide) (by decide) ?_
      show Steps p.tables e below (T112.setTop (mkF m 35 #[.val (.ref a1), .val (.int p1)] [])) _
      refine XS.aloadN X112.here hx rfl (hb hby d1_35) rfl rfl ?_
      show Steps p.tables e below (T112.setTop (mkF m 36 #[.val (.ref a1), .val (.int p1)] [(.ref a1)])) _
      refine XS.iloadN X112.here hx rfl (hb hby d1_36) rfl ?_
      show Steps p.tables e below (T112.setTop (mkF m 37 #[.val (.ref a1), .val (.int p1)] [(.int p1), (.ref a1)])) _
      refine st117 _ ?_
      show Steps p.tables e below (T117.setTop (mkF m 40 #[.val (.ref a1), .val (.int p1)] [])) _
      refine XS.aloadN X117.here hx rfl (hb hby d1_40) rfl rfl ?_
      show Steps p.tables e below (T117.setTop (mkF m 41 #[.val (.ref a1), .val (.int p1)] [(.ref a1)])) _
      refine XS.iloadN X117.here hx rfl (hb hby d1_41) rfl ?_
      show Steps p.tables e below (T117.setTop (mkF m 42 #[.val (.ref a1), .val (.int p1)] [(.int p1), (.ref a1)])) _
      refine XS.sipush X117.here hx rfl (hb hby d1_42) ?_
      show Steps p.tables e below (T117.setTop (mkF m 45 #[.val (.ref a1), .val (.int p1)] [(.int (4096 : Int32)), (.int p1), (.ref a1)])) _
      refine st120 _ ?_
      show Steps p.tables e below (T120.setTop (mkF m 48 #[.val (.ref a1), .val (.int p1)] [(.int (own_min p1 (4096 : Int32))), (.ref a1)])) _
      refine st121 _ ?_
      show Steps p.tables e below (T121.setTop (mkF m 50 #[.val (.ref a1), .val (.int p1)] [(.ref b121), (.ref a1)])) _
      refine st130 _ ?_
      exact kt)
  have f134 : Fld Z h130 a1 "com/example/attacca/attacca/DecimatingBuffer" "stages" "Ljava/util/List;" (.ref b102) := (((F112.other W117 (Or.inr (slot_ne (Or.inr (hw _ (List.mem_of_getElem? (i := 34) rfl))) (Or.inr (hw _ (List.mem_of_getElem? (i := 36) rfl))) (by decide) (t := (.object "java/util/List")) (t' := .int) (by decide) (by decide)))).ext E121).other W130 (Or.inr (slot_ne (Or.inr (hw _ (List.mem_of_getElem? (i := 34) rfl))) (Or.inl (hw _ (List.mem_of_getElem? (i := 43) rfl))) (by decide) (t := (.object "java/util/List")) (t' := (.array .double)) (by decide) (by decide))))
  have f135 : Fld Z h130 a1 "com/example/attacca/attacca/DecimatingBuffer" "capacity" "I" (.int p1) := ((F117.ext E121).other W130 (Or.inr (slot_ne (Or.inr (hw _ (List.mem_of_getElem? (i := 36) rfl))) (Or.inl (hw _ (List.mem_of_getElem? (i := 43) rfl))) (by decide) (t := .int) (t' := (.array .double)) (by decide) (by decide))))
  have f136 : Fld Z h130 a1 "com/example/attacca/attacca/DecimatingBuffer" "count" "I" (.int (0 : Int32)) := ((((((P_F_a1_count.ext E102).keep K107 (own_nmc ne103 own_nm0)).other W112 (Or.inr (slot_ne (Or.inl (hw _ (List.mem_of_getElem? (i := 70) rfl))) (Or.inr (hw _ (List.mem_of_getElem? (i := 34) rfl))) (by decide) (t := .int) (t' := (.object "java/util/List")) (by decide) (by decide)))).other W117 (Or.inr (slot_ne (Or.inl (hw _ (List.mem_of_getElem? (i := 70) rfl))) (Or.inr (hw _ (List.mem_of_getElem? (i := 36) rfl))) (by decide) (t := .int) (t' := .int) (by decide) (by decide)))).ext E121).other W130 (Or.inr (slot_ne (Or.inl (hw _ (List.mem_of_getElem? (i := 70) rfl))) (Or.inl (hw _ (List.mem_of_getElem? (i := 43) rfl))) (by decide) (t := .int) (t' := (.array .double)) (by decide) (by decide))))
  have f137 : Exa Z h130 b102 "java/util/ArrayList" := ((f125.ext E121).wr W130)
  have f138 : Fld Z h130 b102 "java/util/ArrayList" "size" "I" (.int (0 : Int32)) := ((((x107_2.other W112 (Or.inl (Ne.symm ne103))).other W117 (Or.inl (Ne.symm ne103))).ext E121).other W130 (Or.inl (Ne.symm ne103)))
  have f139 : Arv Z h130 b121 k121 .double (own_min p1 (4096 : Int32)) (List.replicate 7 (Value.double 0)) (.double (0 : UInt64)) := (V121.other W130 (Ne.symm ne122))
  obtain ⟨fs, hr, hrun, hended, hW, hsame⟩ := X130.leave (v := none) (fun _ => rfl)
  refine ⟨_, _, pre133 _ ?_, hrun, hended, _, _, rfl, ?_, ⟨_, rfl⟩, hW, hsame.mono (by decide) (by decide)⟩
  · show Steps p.tables e below (T130.setTop (mkF m 53 #[.val (.ref a1), .val (.int p1)] [])) _
    exact X130.returnOut hx Bd.returns (hb hby d1_53) hr
  · show Qctor Z a1 p1 DC h0 n0 _ T130.heap _
    rw [e130]
    exact ⟨b102, b121, k121, rfl, N130, k132, sz_b102, sz_b121, ne124, f134, f135, F130, f136, f137, f138, f139⟩
theorem ef_stride (m : MethodId) (a1 : Addr) : entryFrame m #[(.ref a1)] 1 = mkF m 0 #[.val (.ref a1)] [] := by first | (simp [entryFrame, mkF, argsToLocals, Value.category]; done) | rfl
theorem d7_0 : decode prog_4_method_6_code 0 = .ok (.lconst 1, 1) := by decide +kernel
theorem d7_1 : decode prog_4_method_6_code 1 = .ok (.aload_n 0, 1) := by decide +kernel
theorem d7_2 : decode prog_4_method_6_code 2 = .ok (.getfield 10, 3) := by decide +kernel
theorem pd__28_29I : parseMethodDescriptor "()I" = some ⟨[], some .int⟩ := by decide +kernel
theorem d7_5 : decode prog_4_method_6_code 5 = .ok (.invokeinterface 43 1, 5) := by decide +kernel
theorem d7_10 : decode prog_4_method_6_code 10 = .ok (.lshl, 1) := by decide +kernel
theorem d7_11 : decode prog_4_method_6_code 11 = .ok (.lreturn, 1) := by decide +kernel
def Qstride (Z : State) (a1 : Addr) (l1 : Addr) (h0 : Heap) (n0 : Nat) (v : Option Value) (h : Heap) (L : List Loc) : Prop := v = some (.long (1 : Int64)) ∧ Fr n0 L ∧ h = h0
set_option maxRecDepth 65536 in
set_option maxHeartbeats 40000000 in
theorem rmstride (l : Launch) (Z : State) (a0 : Array Value) (hw : ∀ d ∈ tables_1, d.before a0 Z = true) (ws : List Jvm.Cond) (a1 : Addr) (l1 : Addr) (h0 : Heap) (n0 : Nat) (Z0 : n0 ≤ h0.size) (P_E_a1 : Exa Z h0 a1 "com/example/attacca/attacca/DecimatingBuffer") (P_F_a1_stages : Fld Z h0 a1 "com/example/attacca/attacca/DecimatingBuffer" "stages" "Ljava/util/List;" (.ref l1)) (P_E_l1 : Exa Z h0 l1 "java/util/ArrayList") (P_F_l1_size : Fld Z h0 l1 "java/util/ArrayList" "size" "I" (.int (0 : Int32))) :
    MetFree l (⟨"com/example/attacca/attacca/DecimatingBuffer", "stride", "()J"⟩ : MethodName) (head1 (Jvm.Cond.code (⟨"com/example/attacca/attacca/DecimatingBuffer", "stride", "()J"⟩ : MethodName) prog_4_method_6_code 1 (some .long) :: ws) ({ frames := 1, cells := 0, slots := 0, locals := 14 } : Room)) (fun a U => a = #[(.ref a1)] ∧ Z.Warmed39 U.vm ∧ U.heap = h0) (fun _ _ _ _ _ => True) (fun _ U o U' => ∃ v L, o = .returned v ∧ Qstride Z a1 l1 h0 n0 v U'.heap L ∧ FrameEnd U o U' L ({ frames := 1, cells := 0, slots := 0, locals := 14 } : Room).cells ({ frames := 1, cells := 0, slots := 0, locals := 14 } : Room).slots) := by
  refine MetFree.of_bodySF (plainFor_of_name pn_com_example_attacca_attacca_DecimatingBuffer) hisR ?_
  intro p e s m args below meth c s₁ Bd hml0 hP hK
  obtain ⟨rfl, hZ, hh⟩ := hP
  have hx := Bd.exec
  have hby := Bd.bytes
  have hml : c.maxLocals = 1 := hml0
  have hown : s.vm.findClass "com/example/attacca/attacca/DecimatingBuffer" = some m.cls := findClass_of_methodNamed Bd.named
  have hnm := (name_of_methodNamed Bd.named Bd.method).1
  have X0 : Stand p l e ({ frames := 1, cells := 0, slots := 0, locals := 14 } : Room) s m #[(.ref a1)] below meth c s₁ [] 0 0 := Stand.of_body Bd
  have e0 : s₁.heap = h0 := by rw [← hh, Bd.state]; rfl
  have N0 := Fr.nil n0
  have pre0 : ∀ t_, Steps p.tables e below (s₁.setTop (mkF m 0 #[.val (.ref a1)] [])) t_ → Steps p.tables e below (s₁.setTop (entryFrame m #[(.ref a1)] 1)) t_ := fun t_ k => castTop (ef_stride m a1) k
  obtain ⟨T101, X101, e101, st101⟩ := getF X0 hx hZ hown (host := "") (Or.inl (hw _ (List.mem_of_getElem? (i := 33) rfl))) Via.refl e0 P_F_a1_stages (g := (mkF m 2 #[.val (.ref a1)] [(.ref a1), (.long (1 : Int64))])) rfl rfl (hb hby d7_2)
  obtain ⟨cq102, kq102, q102a, q102b, q102c⟩ := isOf hZ e101 P_E_l1
  obtain ⟨_, _, ⟨T102, L102, kk102, nn102⟩, -, X102, ⟨Lc102, hQ102, l102, y102, z102⟩, st102⟩ := X101.interfaceBack hx (xi := (⟨"java/util/List", "size", "()I"⟩ : MethodName)) (y := (⟨"java/util/ArrayList", "size", "()I"⟩ : MethodName)) hown (mvT hZ (hw _ (List.mem_of_getElem? (i := 49) rfl))) (mvT hZ (hw _ (List.mem_of_getElem? (i := 50) rfl))) (mvT hZ (hw _ (List.mem_of_getElem? (i := 51) rfl))) (mvT hZ (hw _ (List.mem_of_getElem? (i := 52) rfl))) (mvT hZ (hw _ (List.mem_of_getElem? (i := 53) rfl))) (mvT hZ (hw _ (List.mem_of_getElem? (i := 54) rfl))) (mvT hZ (hw _ (List.mem_of_getElem? (i := 55) rfl))) (mvT hZ (hw _ (List.mem_of_getElem? (i := 56) rfl))) (by decide) (backOf (W := 2) (rmalsize l Z a0 hw [] l1 (0 : Int32) h0 n0 Z0 P_E_l1 P_F_l1_size) hZ (hw _ (List.mem_of_getElem? (i := 57) rfl)) (hw _ (List.mem_of_getElem? (i := 11) rfl)) (by decide) (by decide)) q102a q102b q102c (g := (mkF m 5 #[.val (.ref a1)] [(.ref l1), (.long (1 : Int64))])) rfl (by rw [hml]; rfl) (Steps.refl _) (argsL := []) (rest := [(.long (1 : Int64))]) (lenOf pd__28_29I rfl) rfl (by show 2 * 0 + _ ≤ _; exact Nat.le_of_eq rfl) (hb hby d7_5) (fun _ _ => ⟨rfl, e101, (by decide : 0 + 0 ≤ _), (by decide : 0 + 0 ≤ _)⟩)
  dsimp only [Pt.U, Pt.locs, Pt.cells, Pt.slots] at X102 l102 y102 z102 st102 hQ102
  subst l102 y102 z102
  obtain ⟨rfl, N102q, e102⟩ := hQ102
  have N102 := Fr.app N0 N102q
  have pre103 : ∀ t_, Steps p.tables e below (T102.setTop (mkF m 11 #[.val (.ref a1)] [(.long (1 : Int64))])) t_ → Steps p.tables e below (s₁.setTop (entryFrame m #[(.ref a1)] 1)) t_ := fun t_ kt => pre0 t_ (by
      show Steps p.tables e below (s₁.setTop (mkF m 0 #[.val (.ref a1)] [])) _
      refine XS.lconst X0.here hx rfl (hb hby d7_0) ?_
      show Steps p.tables e below (s₁.setTop (mkF m 1 #[.val (.ref a1)] [(.long (1 : Int64))])) _
      refine XS.aloadN X0.here hx rfl (hb hby d7_1) rfl rfl ?_
      show Steps p.tables e below (s₁.setTop (mkF m 2 #[.val (.ref a1)] [(.ref a1), (.long (1 : Int64))])) _
      refine st101 _ ?_
      show Steps p.tables e below (T101.setTop (mkF m 5 #[.val (.ref a1)] [(.ref l1), (.long (1 : Int64))])) _
      refine st102.trans ?_
      show Steps p.tables e below (T102.setTop (mkF m 10 #[.val (.ref a1)] [(.int (0 : Int32)), (.long (1 : Int64))])) _
      refine XS.lshl X102.here hx rfl (hb hby d7_10) rfl ?_
      show Steps p.tables e below (T102.setTop (mkF m 11 #[.val (.ref a1)] [(.long ((1 : Int64) <<< ((0 : Int32) &&& 0x3f).toInt64))])) _
      rw [(by decide : (1 : Int64) <<< ((0 : Int32) &&& 0x3f).toInt64 = 1)]
      exact kt)
  obtain ⟨fs, hr, hrun, hended, hW, hsame⟩ := X102.leave (v := some (.long (1 : Int64))) (fun h => by rw [Bd.returns] at h; cases h)
  refine ⟨_, _, pre103 _ ?_, hrun, hended, _, _, rfl, ?_, ⟨_, rfl⟩, hW, hsame.mono (by decide) (by decide)⟩
  · show Steps p.tables e below (T102.setTop (mkF m 11 #[.val (.ref a1)] [(.long (1 : Int64))])) _
    exact own_retJ X102 hx Bd.returns (hb hby d7_11) hr
  · show Qstride Z a1 l1 h0 n0 _ T102.heap _
    rw [e102]
    exact ⟨rfl, N102, rfl⟩
theorem ef_end (m : MethodId) (a1 : Addr) : entryFrame m #[(.ref a1)] 3 = mkF m 0 #[.val (.ref a1), .unset, .unset] [] := by first | (simp [entryFrame, mkF, argsToLocals, Value.category]; done) | rfl
theorem d12_0 : decode prog_4_method_3_code 0 = .ok (.iconst 0, 1) := by decide +kernel
theorem d12_1 : decode prog_4_method_3_code 1 = .ok (.istore_n 1, 1) := by decide +kernel
theorem d12_2 : decode prog_4_method_3_code 2 = .ok (.iload_n 1, 1) := by decide +kernel
theorem d12_3 : decode prog_4_method_3_code 3 = .ok (.aload_n 0, 1) := by decide +kernel
theorem d12_4 : decode prog_4_method_3_code 4 = .ok (.getfield 10, 3) := by decide +kernel
theorem d12_7 : decode prog_4_method_3_code 7 = .ok (.invokeinterface 43 1, 5) := by decide +kernel
theorem d12_12 : decode prog_4_method_3_code 12 = .ok (.if_icmp .ge 28, 3) := by decide +kernel
theorem d12_40 : decode prog_4_method_3_code 40 = .ok (.return_, 1) := by decide +kernel
def Qend (Z : State) (a1 : Addr) (l1 : Addr) (h0 : Heap) (n0 : Nat) (v : Option Value) (h : Heap) (L : List Loc) : Prop := v = none ∧ Fr n0 L ∧ h = h0
set_option maxRecDepth 65536 in
set_option maxHeartbeats 40000000 in
theorem rmend (l : Launch) (Z : State) (a0 : Array Value) (hw : ∀ d ∈ tables_1, d.before a0 Z = true) (ws : List Jvm.Cond) (a1 : Addr) (l1 : Addr) (h0 : Heap) (n0 : Nat) (Z0 : n0 ≤ h0.size) (P_E_a1 : Exa Z h0 a1 "com/example/attacca/attacca/DecimatingBuffer") (P_F_a1_stages : Fld Z h0 a1 "com/example/attacca/attacca/DecimatingBuffer" "stages" "Ljava/util/List;" (.ref l1)) (P_E_l1 : Exa Z h0 l1 "java/util/ArrayList") (P_F_l1_size : Fld Z h0 l1 "java/util/ArrayList" "size" "I" (.int (0 : Int32))) :
    MetFree l (⟨"com/example/attacca/attacca/DecimatingBuffer", "end", "()V"⟩ : MethodName) (head1 (Jvm.Cond.code (⟨"com/example/attacca/attacca/DecimatingBuffer", "end", "()V"⟩ : MethodName) prog_4_method_3_code 3 none :: ws) ({ frames := 1, cells := 0, slots := 0, locals := 13 } : Room)) (fun a U => a = #[(.ref a1)] ∧ Z.Warmed39 U.vm ∧ U.heap = h0) (fun _ _ _ _ _ => True) (fun _ U o U' => ∃ v L, o = .returned v ∧ Qend Z a1 l1 h0 n0 v U'.heap L ∧ FrameEnd U o U' L ({ frames := 1, cells := 0, slots := 0, locals := 13 } : Room).cells ({ frames := 1, cells := 0, slots := 0, locals := 13 } : Room).slots) := by
  refine MetFree.of_bodySF (plainFor_of_name pn_com_example_attacca_attacca_DecimatingBuffer) hisR ?_
  intro p e s m args below meth c s₁ Bd hml0 hP hK
  obtain ⟨rfl, hZ, hh⟩ := hP
  have hx := Bd.exec
  have hby := Bd.bytes
  have hml : c.maxLocals = 3 := hml0
  have hown : s.vm.findClass "com/example/attacca/attacca/DecimatingBuffer" = some m.cls := findClass_of_methodNamed Bd.named
  have hnm := (name_of_methodNamed Bd.named Bd.method).1
  have X0 : Stand p l e ({ frames := 1, cells := 0, slots := 0, locals := 13 } : Room) s m #[(.ref a1)] below meth c s₁ [] 0 0 := Stand.of_body Bd
  have e0 : s₁.heap = h0 := by rw [← hh, Bd.state]; rfl
  have N0 := Fr.nil n0
  have pre0 : ∀ t_, Steps p.tables e below (s₁.setTop (mkF m 0 #[.val (.ref a1), .unset, .unset] [])) t_ → Steps p.tables e below (s₁.setTop (entryFrame m #[(.ref a1)] 3)) t_ := fun t_ k => castTop (ef_end m a1) k
  obtain ⟨T101, X101, e101, st101⟩ := getF X0 hx hZ hown (host := "") (Or.inl (hw _ (List.mem_of_getElem? (i := 33) rfl))) Via.refl e0 P_F_a1_stages (g := (mkF m 4 #[.val (.ref a1), .val (.int (0 : Int32)), .unset] [(.ref a1), (.int (0 : Int32))])) rfl rfl (hb hby d12_4)
  obtain ⟨cq102, kq102, q102a, q102b, q102c⟩ := isOf hZ e101 P_E_l1
  obtain ⟨_, _, ⟨T102, L102, kk102, nn102⟩, -, X102, ⟨Lc102, hQ102, l102, y102, z102⟩, st102⟩ := X101.interfaceBack hx (xi := (⟨"java/util/List", "size", "()I"⟩ : MethodName)) (y := (⟨"java/util/ArrayList", "size", "()I"⟩ : MethodName)) hown (mvT hZ (hw _ (List.mem_of_getElem? (i := 49) rfl))) (mvT hZ (hw _ (List.mem_of_getElem? (i := 50) rfl))) (mvT hZ (hw _ (List.mem_of_getElem? (i := 51) rfl))) (mvT hZ (hw _ (List.mem_of_getElem? (i := 52) rfl))) (mvT hZ (hw _ (List.mem_of_getElem? (i := 53) rfl))) (mvT hZ (hw _ (List.mem_of_getElem? (i := 54) rfl))) (mvT hZ (hw _ (List.mem_of_getElem? (i := 55) rfl))) (mvT hZ (hw _ (List.mem_of_getElem? (i := 56) rfl))) (by decide) (backOf (W := 1) (rmalsize l Z a0 hw [] l1 (0 : Int32) h0 n0 Z0 P_E_l1 P_F_l1_size) hZ (hw _ (List.mem_of_getElem? (i := 57) rfl)) (hw _ (List.mem_of_getElem? (i := 11) rfl)) (by decide) (by decide)) q102a q102b q102c (g := (mkF m 7 #[.val (.ref a1), .val (.int (0 : Int32)), .unset] [(.ref l1), (.int (0 : Int32))])) rfl (by rw [hml]; rfl) (Steps.refl _) (argsL := []) (rest := [(.int (0 : Int32))]) (lenOf pd__28_29I rfl) rfl (by show 2 * 0 + _ ≤ _; exact Nat.le_of_eq rfl) (hb hby d12_7) (fun _ _ => ⟨rfl, e101, (by decide : 0 + 0 ≤ _), (by decide : 0 + 0 ≤ _)⟩)
  dsimp only [Pt.U, Pt.locs, Pt.cells, Pt.slots] at X102 l102 y102 z102 st102 hQ102
  subst l102 y102 z102
  obtain ⟨rfl, N102q, e102⟩ := hQ102
  have N102 := Fr.app N0 N102q
  have pre103 : ∀ t_, Steps p.tables e below (T102.setTop (mkF m 40 #[.val (.ref a1), .val (.int (0 : Int32)), .unset] [])) t_ → Steps p.tables e below (s₁.setTop (entryFrame m #[(.ref a1)] 3)) t_ := fun t_ kt => pre0 t_ (by
      show Steps p.tables e below (s₁.setTop (mkF m 0 #[.val (.ref a1), .unset, .unset] [])) _
      refine XS.iconst X0.here hx rfl (hb hby d12_0) ?_
      show Steps p.tables e below (s₁.setTop (mkF m 1 #[.val (.ref a1), .unset, .unset] [(.int (0 : Int32))])) _
      refine XS.istoreN X0.here hx rfl (hb hby d12_1) rfl (l' := #[.val (.ref a1), .val (.int (0 : Int32)), .unset]) rfl ?_
      show Steps p.tables e below (s₁.setTop (mkF m 2 #[.val (.ref a1), .val (.int (0 : Int32)), .unset] [])) _
      refine XS.iloadN X0.here hx rfl (hb hby d12_2) rfl ?_
      show Steps p.tables e below (s₁.setTop (mkF m 3 #[.val (.ref a1), .val (.int (0 : Int32)), .unset] [(.int (0 : Int32))])) _
      refine XS.aloadN X0.here hx rfl (hb hby d12_3) rfl rfl ?_
      show Steps p.tables e below (s₁.setTop (mkF m 4 #[.val (.ref a1), .val (.int (0 : Int32)), .unset] [(.ref a1), (.int (0 : Int32))])) _
      refine st101 _ ?_
      show Steps p.tables e below (T101.setTop (mkF m 7 #[.val (.ref a1), .val (.int (0 : Int32)), .unset] [(.ref l1), (.int (0 : Int32))])) _
      refine st102.trans ?_
      show Steps p.tables e below (T102.setTop (mkF m 12 #[.val (.ref a1), .val (.int (0 : Int32)), .unset] [(.int (0 : Int32)), (.int (0 : Int32))])) _
      refine XS.icmpYes X102.here hx rfl (pc0 := 12) (pc' := 40) rfl (hb hby d12_12) rfl (flt ((by decide) : ¬ ((0 : Int32) < (0 : Int32)))).2.1 (by decide) (by decide) ?_
      exact kt)
  obtain ⟨fs, hr, hrun, hended, hW, hsame⟩ := X102.leave (v := none) (fun _ => rfl)
  refine ⟨_, _, pre103 _ ?_, hrun, hended, _, _, rfl, ?_, ⟨_, rfl⟩, hW, hsame.mono (by decide) (by decide)⟩
  · show Steps p.tables e below (T102.setTop (mkF m 40 #[.val (.ref a1), .val (.int (0 : Int32)), .unset] [])) _
    exact X102.returnOut hx Bd.returns (hb hby d12_40) hr
  · show Qend Z a1 l1 h0 n0 _ T102.heap _
    rw [e102]
    exact ⟨rfl, N102, rfl⟩
theorem ef_count (m : MethodId) (a1 : Addr) : entryFrame m #[(.ref a1)] 1 = mkF m 0 #[.val (.ref a1)] [] := by first | (simp [entryFrame, mkF, argsToLocals, Value.category]; done) | rfl
theorem d11_0 : decode prog_4_method_5_code 0 = .ok (.aload_n 0, 1) := by decide +kernel
theorem d11_1 : decode prog_4_method_5_code 1 = .ok (.getfield 51, 3) := by decide +kernel
theorem d11_4 : decode prog_4_method_5_code 4 = .ok (.ireturn, 1) := by decide +kernel
def Qcount (Z : State) (a1 : Addr) (k : Nat) (h0 : Heap) (n0 : Nat) (v : Option Value) (h : Heap) (L : List Loc) : Prop := v = some (.int (Int32.ofNat k)) ∧ Fr n0 L ∧ h = h0
set_option maxRecDepth 65536 in
set_option maxHeartbeats 40000000 in
theorem rmcount (l : Launch) (Z : State) (a0 : Array Value) (hw : ∀ d ∈ tables_1, d.before a0 Z = true) (ws : List Jvm.Cond) (a1 : Addr) (k : Nat) (h0 : Heap) (n0 : Nat) (Z0 : n0 ≤ h0.size) (P_E_a1 : Exa Z h0 a1 "com/example/attacca/attacca/DecimatingBuffer") (P_F_a1_count : Fld Z h0 a1 "com/example/attacca/attacca/DecimatingBuffer" "count" "I" (.int (Int32.ofNat k))) :
    MetFree l (⟨"com/example/attacca/attacca/DecimatingBuffer", "count", "()I"⟩ : MethodName) (head1 (Jvm.Cond.code (⟨"com/example/attacca/attacca/DecimatingBuffer", "count", "()I"⟩ : MethodName) prog_4_method_5_code 1 (some .int) :: ws) ({ frames := 0, cells := 0, slots := 0, locals := 0 } : Room)) (fun a U => a = #[(.ref a1)] ∧ Z.Warmed39 U.vm ∧ U.heap = h0) (fun _ _ _ _ _ => True) (fun _ U o U' => ∃ v L, o = .returned v ∧ Qcount Z a1 k h0 n0 v U'.heap L ∧ FrameEnd U o U' L ({ frames := 0, cells := 0, slots := 0, locals := 0 } : Room).cells ({ frames := 0, cells := 0, slots := 0, locals := 0 } : Room).slots) := by
  refine MetFree.of_bodySF (plainFor_of_name pn_com_example_attacca_attacca_DecimatingBuffer) hisR ?_
  intro p e s m args below meth c s₁ Bd hml0 hP hK
  obtain ⟨rfl, hZ, hh⟩ := hP
  have hx := Bd.exec
  have hby := Bd.bytes
  have hml : c.maxLocals = 1 := hml0
  have hown : s.vm.findClass "com/example/attacca/attacca/DecimatingBuffer" = some m.cls := findClass_of_methodNamed Bd.named
  have hnm := (name_of_methodNamed Bd.named Bd.method).1
  have X0 : Stand p l e ({ frames := 0, cells := 0, slots := 0, locals := 0 } : Room) s m #[(.ref a1)] below meth c s₁ [] 0 0 := Stand.of_body Bd
  have e0 : s₁.heap = h0 := by rw [← hh, Bd.state]; rfl
  have N0 := Fr.nil n0
  have pre0 : ∀ t_, Steps p.tables e below (s₁.setTop (mkF m 0 #[.val (.ref a1)] [])) t_ → Steps p.tables e below (s₁.setTop (entryFrame m #[(.ref a1)] 1)) t_ := fun t_ k => castTop (ef_count m a1) k
  obtain ⟨T101, X101, e101, st101⟩ := getF X0 hx hZ hown (host := "") (Or.inl (hw _ (List.mem_of_getElem? (i := 69) rfl))) Via.refl e0 P_F_a1_count (g := (mkF m 1 #[.val (.ref a1)] [(.ref a1)])) rfl rfl (hb hby d11_1)
  have pre102 : ∀ t_, Steps p.tables e below (T101.setTop (mkF m 4 #[.val (.ref a1)] [(.int (Int32.ofNat k))])) t_ → Steps p.tables e below (s₁.setTop (entryFrame m #[(.ref a1)] 1)) t_ := fun t_ kt => pre0 t_ (by
      show Steps p.tables e below (s₁.setTop (mkF m 0 #[.val (.ref a1)] [])) _
      refine XS.aloadN X0.here hx rfl (hb hby d11_0) rfl rfl ?_
      show Steps p.tables e below (s₁.setTop (mkF m 1 #[.val (.ref a1)] [(.ref a1)])) _
      refine st101 _ ?_
      exact kt)
  obtain ⟨fs, hr, hrun, hended, hW, hsame⟩ := X101.leave (v := some (.int (Int32.ofNat k))) (fun h => by rw [Bd.returns] at h; cases h)
  refine ⟨_, _, pre102 _ ?_, hrun, hended, _, _, rfl, ?_, ⟨_, rfl⟩, hW, hsame.mono (by decide) (by decide)⟩
  · show Steps p.tables e below (T101.setTop (mkF m 4 #[.val (.ref a1)] [(.int (Int32.ofNat k))])) _
    exact retI X101 hx Bd.returns (hb hby d11_4) hr
  · show Qcount Z a1 k h0 n0 _ T101.heap _
    rw [e101]
    exact ⟨rfl, N0, rfl⟩
theorem ef_pass (m : MethodId) (a1 : Addr) (d1 : UInt64) : entryFrame m #[(.ref a1), (.int (0 : Int32)), (.double d1)] 8 = mkF m 0 #[.val (.ref a1), .val (.int (0 : Int32)), .val (.double d1), .second, .unset, .unset, .unset, .unset] [] := by first | (simp [entryFrame, mkF, argsToLocals, Value.category]; done) | rfl
theorem d10_0 : decode prog_4_method_7_code 0 = .ok (.dload_n 2, 1) := by decide +kernel
theorem d10_1 : decode prog_4_method_7_code 1 = .ok (.dstore 4, 2) := by decide +kernel
theorem d10_3 : decode prog_4_method_7_code 3 = .ok (.iload_n 1, 1) := by decide +kernel
theorem d10_4 : decode prog_4_method_7_code 4 = .ok (.istore 6, 2) := by decide +kernel
theorem d10_6 : decode prog_4_method_7_code 6 = .ok (.iload 6, 2) := by decide +kernel
theorem d10_8 : decode prog_4_method_7_code 8 = .ok (.aload_n 0, 1) := by decide +kernel
theorem d10_9 : decode prog_4_method_7_code 9 = .ok (.getfield 10, 3) := by decide +kernel
theorem d10_12 : decode prog_4_method_7_code 12 = .ok (.invokeinterface 43 1, 5) := by decide +kernel
theorem d10_17 : decode prog_4_method_7_code 17 = .ok (.if_icmp .ge 43, 3) := by decide +kernel
theorem d10_60 : decode prog_4_method_7_code 60 = .ok (.aload_n 0, 1) := by decide +kernel
theorem d10_61 : decode prog_4_method_7_code 61 = .ok (.getfield 51, 3) := by decide +kernel
theorem d10_64 : decode prog_4_method_7_code 64 = .ok (.aload_n 0, 1) := by decide +kernel
theorem d10_65 : decode prog_4_method_7_code 65 = .ok (.getfield 25, 3) := by decide +kernel
theorem d10_68 : decode prog_4_method_7_code 68 = .ok (.if_icmp .ne 27, 3) := by decide +kernel
theorem d10_95 : decode prog_4_method_7_code 95 = .ok (.aload_n 0, 1) := by decide +kernel
theorem d10_96 : decode prog_4_method_7_code 96 = .ok (.getfield 51, 3) := by decide +kernel
theorem d10_99 : decode prog_4_method_7_code 99 = .ok (.aload_n 0, 1) := by decide +kernel
theorem d10_100 : decode prog_4_method_7_code 100 = .ok (.getfield 35, 3) := by decide +kernel
theorem d10_103 : decode prog_4_method_7_code 103 = .ok (.arraylength, 1) := by decide +kernel
theorem d10_104 : decode prog_4_method_7_code 104 = .ok (.if_icmp .ne 28, 3) := by decide +kernel
theorem d10_132 : decode prog_4_method_7_code 132 = .ok (.aload_n 0, 1) := by decide +kernel
theorem d10_133 : decode prog_4_method_7_code 133 = .ok (.getfield 35, 3) := by decide +kernel
theorem d10_136 : decode prog_4_method_7_code 136 = .ok (.aload_n 0, 1) := by decide +kernel
theorem d10_137 : decode prog_4_method_7_code 137 = .ok (.dup, 1) := by decide +kernel
theorem d10_138 : decode prog_4_method_7_code 138 = .ok (.getfield 51, 3) := by decide +kernel
theorem d10_141 : decode prog_4_method_7_code 141 = .ok (.dup_x1, 1) := by decide +kernel
theorem d10_142 : decode prog_4_method_7_code 142 = .ok (.iconst 1, 1) := by decide +kernel
theorem d10_143 : decode prog_4_method_7_code 143 = .ok (.iadd, 1) := by decide +kernel
theorem d10_144 : decode prog_4_method_7_code 144 = .ok (.putfield 51, 3) := by decide +kernel
theorem d10_147 : decode prog_4_method_7_code 147 = .ok (.dload 4, 2) := by decide +kernel
theorem d10_149 : decode prog_4_method_7_code 149 = .ok (.dastore, 1) := by decide +kernel
theorem d10_150 : decode prog_4_method_7_code 150 = .ok (.return_, 1) := by decide +kernel
def Qpass (Z : State) (a1 : Addr) (d1 : UInt64) (l1 : Addr) (v1 : Addr) (kv : ClassId) (p1 : Int32) (vl : List Value) (k : Nat) (h0 : Heap) (n0 : Nat) (v : Option Value) (h : Heap) (L : List Loc) : Prop := v = none ∧ Fr n0 L ∧ Keep h0 h [a1, v1] ∧ (Fld Z h a1 "com/example/attacca/attacca/DecimatingBuffer" "stages" "Ljava/util/List;" (.ref l1)) ∧ (Fld Z h a1 "com/example/attacca/attacca/DecimatingBuffer" "capacity" "I" (.int p1)) ∧ (Fld Z h a1 "com/example/attacca/attacca/DecimatingBuffer" "values" "[D" (.ref v1)) ∧ (Fld Z h a1 "com/example/attacca/attacca/DecimatingBuffer" "count" "I" (.int (Int32.ofNat (k + 1)))) ∧ (Arv Z h v1 kv .double (own_min p1 (4096 : Int32)) (vl.set k (.double d1)) (.double (0 : UInt64)))
set_option maxRecDepth 65536 in
set_option maxHeartbeats 40000000 in
theorem rmpass (l : Launch) (Z : State) (a0 : Array Value) (hw : ∀ d ∈ tables_1, d.before a0 Z = true) (ws : List Jvm.Cond) (a1 : Addr) (d1 : UInt64) (l1 : Addr) (v1 : Addr) (kv : ClassId) (p1 : Int32) (vl : List Value) (k : Nat) (h0 : Heap) (n0 : Nat) (Z0 : n0 ≤ h0.size) (P_E_a1 : Exa Z h0 a1 "com/example/attacca/attacca/DecimatingBuffer") (P_F_a1_stages : Fld Z h0 a1 "com/example/attacca/attacca/DecimatingBuffer" "stages" "Ljava/util/List;" (.ref l1)) (P_F_a1_capacity : Fld Z h0 a1 "com/example/attacca/attacca/DecimatingBuffer" "capacity" "I" (.int p1)) (P_F_a1_values : Fld Z h0 a1 "com/example/attacca/attacca/DecimatingBuffer" "values" "[D" (.ref v1)) (P_F_a1_count : Fld Z h0 a1 "com/example/attacca/attacca/DecimatingBuffer" "count" "I" (.int (Int32.ofNat k))) (P_E_l1 : Exa Z h0 l1 "java/util/ArrayList") (P_F_l1_size : Fld Z h0 l1 "java/util/ArrayList" "size" "I" (.int (0 : Int32))) (P_V_v1 : Arv Z h0 v1 kv .double (own_min p1 (4096 : Int32)) vl (.double (0 : UInt64))) (P_G_a1 : n0 ≤ a1) (P_G_v1 : n0 ≤ v1) (P_ne_a1_v1 : a1 ≠ v1) (P_ne_a1_l1 : a1 ≠ l1) (P_ne_l1_v1 : l1 ≠ v1) (hcap : ¬ (p1 < (16 : Int32))) (hk7 : k < 7) (hvl : vl.length = 7) :
    MetFree l (⟨"com/example/attacca/attacca/DecimatingBuffer", "pass", "(ID)V"⟩ : MethodName) (head1 (Jvm.Cond.code (⟨"com/example/attacca/attacca/DecimatingBuffer", "pass", "(ID)V"⟩ : MethodName) prog_4_method_7_code 8 none :: ws) ({ frames := 1, cells := 0, slots := 0, locals := 13 } : Room)) (fun a U => a = #[(.ref a1), (.int (0 : Int32)), (.double d1)] ∧ Z.Warmed39 U.vm ∧ U.heap = h0) (fun _ _ _ _ _ => True) (fun _ U o U' => ∃ v L, o = .returned v ∧ Qpass Z a1 d1 l1 v1 kv p1 vl k h0 n0 v U'.heap L ∧ FrameEnd U o U' L ({ frames := 1, cells := 0, slots := 0, locals := 13 } : Room).cells ({ frames := 1, cells := 0, slots := 0, locals := 13 } : Room).slots) := by
  refine MetFree.of_bodySF (plainFor_of_name pn_com_example_attacca_attacca_DecimatingBuffer) hisR ?_
  intro p e s m args below meth c s₁ Bd hml0 hP hK
  obtain ⟨rfl, hZ, hh⟩ := hP
  have hx := Bd.exec
  have hby := Bd.bytes
  have hml : c.maxLocals = 8 := hml0
  have hown : s.vm.findClass "com/example/attacca/attacca/DecimatingBuffer" = some m.cls := findClass_of_methodNamed Bd.named
  have hnm := (name_of_methodNamed Bd.named Bd.method).1
  have X0 : Stand p l e ({ frames := 1, cells := 0, slots := 0, locals := 13 } : Room) s m #[(.ref a1), (.int (0 : Int32)), (.double d1)] below meth c s₁ [] 0 0 := Stand.of_body Bd
  have e0 : s₁.heap = h0 := by rw [← hh, Bd.state]; rfl
  have N0 := Fr.nil n0
  have pre0 : ∀ t_, Steps p.tables e below (s₁.setTop (mkF m 0 #[.val (.ref a1), .val (.int (0 : Int32)), .val (.double d1), .second, .unset, .unset, .unset, .unset] [])) t_ → Steps p.tables e below (s₁.setTop (entryFrame m #[(.ref a1), (.int (0 : Int32)), (.double d1)] 8)) t_ := fun t_ k => castTop (ef_pass m a1 d1) k
  obtain ⟨T101, X101, e101, st101⟩ := getF X0 hx hZ hown (host := "") (Or.inl (hw _ (List.mem_of_getElem? (i := 33) rfl))) Via.refl e0 P_F_a1_stages (g := (mkF m 9 #[.val (.ref a1), .val (.int (0 : Int32)), .val (.double d1), .second, .val (.double d1), .second, .val (.int (0 : Int32)), .unset] [(.ref a1), (.int (0 : Int32))])) rfl rfl (hb hby d10_9)
  obtain ⟨cq102, kq102, q102a, q102b, q102c⟩ := isOf hZ e101 P_E_l1
  obtain ⟨_, _, ⟨T102, L102, kk102, nn102⟩, -, X102, ⟨Lc102, hQ102, l102, y102, z102⟩, st102⟩ := X101.interfaceBack hx (xi := (⟨"java/util/List", "size", "()I"⟩ : MethodName)) (y := (⟨"java/util/ArrayList", "size", "()I"⟩ : MethodName)) hown (mvT hZ (hw _ (List.mem_of_getElem? (i := 49) rfl))) (mvT hZ (hw _ (List.mem_of_getElem? (i := 50) rfl))) (mvT hZ (hw _ (List.mem_of_getElem? (i := 51) rfl))) (mvT hZ (hw _ (List.mem_of_getElem? (i := 52) rfl))) (mvT hZ (hw _ (List.mem_of_getElem? (i := 53) rfl))) (mvT hZ (hw _ (List.mem_of_getElem? (i := 54) rfl))) (mvT hZ (hw _ (List.mem_of_getElem? (i := 55) rfl))) (mvT hZ (hw _ (List.mem_of_getElem? (i := 56) rfl))) (by decide) (backOf (W := 1) (rmalsize l Z a0 hw [] l1 (0 : Int32) h0 n0 Z0 P_E_l1 P_F_l1_size) hZ (hw _ (List.mem_of_getElem? (i := 57) rfl)) (hw _ (List.mem_of_getElem? (i := 11) rfl)) (by decide) (by decide)) q102a q102b q102c (g := (mkF m 12 #[.val (.ref a1), .val (.int (0 : Int32)), .val (.double d1), .second, .val (.double d1), .second, .val (.int (0 : Int32)), .unset] [(.ref l1), (.int (0 : Int32))])) rfl (by rw [hml]; rfl) (Steps.refl _) (argsL := []) (rest := [(.int (0 : Int32))]) (lenOf pd__28_29I rfl) rfl (by show 2 * 0 + _ ≤ _; exact Nat.le_of_eq rfl) (hb hby d10_12) (fun _ _ => ⟨rfl, e101, (by decide : 0 + 0 ≤ _), (by decide : 0 + 0 ≤ _)⟩)
  dsimp only [Pt.U, Pt.locs, Pt.cells, Pt.slots] at X102 l102 y102 z102 st102 hQ102
  subst l102 y102 z102
  obtain ⟨rfl, N102q, e102⟩ := hQ102
  have N102 := Fr.app N0 N102q
  obtain ⟨T103, X103, e103, st103⟩ := getF X102 hx hZ hown (host := "") (Or.inl (hw _ (List.mem_of_getElem? (i := 69) rfl))) Via.refl e102 P_F_a1_count (g := (mkF m 61 #[.val (.ref a1), .val (.int (0 : Int32)), .val (.double d1), .second, .val (.double d1), .second, .val (.int (0 : Int32)), .unset] [(.ref a1)])) rfl rfl (hb hby d10_61)
  obtain ⟨T104, X104, e104, st104⟩ := getF X103 hx hZ hown (host := "") (Or.inl (hw _ (List.mem_of_getElem? (i := 35) rfl))) Via.refl e103 P_F_a1_capacity (g := (mkF m 65 #[.val (.ref a1), .val (.int (0 : Int32)), .val (.double d1), .second, .val (.double d1), .second, .val (.int (0 : Int32)), .unset] [(.ref a1), (.int (Int32.ofNat k))])) rfl rfl (hb hby d10_65)
  obtain ⟨T105, X105, e105, st105⟩ := getF X104 hx hZ hown (host := "") (Or.inl (hw _ (List.mem_of_getElem? (i := 69) rfl))) Via.refl e104 P_F_a1_count (g := (mkF m 96 #[.val (.ref a1), .val (.int (0 : Int32)), .val (.double d1), .second, .val (.double d1), .second, .val (.int (0 : Int32)), .unset] [(.ref a1)])) rfl rfl (hb hby d10_96)
  obtain ⟨T106, X106, e106, st106⟩ := getF X105 hx hZ hown (host := "") (Or.inl (hw _ (List.mem_of_getElem? (i := 42) rfl))) Via.refl e105 P_F_a1_values (g := (mkF m 100 #[.val (.ref a1), .val (.int (0 : Int32)), .val (.double d1), .second, .val (.double d1), .second, .val (.int (0 : Int32)), .unset] [(.ref a1), (.int (Int32.ofNat k))])) rfl rfl (hb hby d10_100)
  obtain ⟨cl107, Ar107, Q107, S107, M107, H107, G107⟩ := id P_V_v1
  obtain ⟨T108, X108, e108, st108⟩ := getF X106 hx hZ hown (host := "") (Or.inl (hw _ (List.mem_of_getElem? (i := 42) rfl))) Via.refl e106 P_F_a1_values (g := (mkF m 133 #[.val (.ref a1), .val (.int (0 : Int32)), .val (.double d1), .second, .val (.double d1), .second, .val (.int (0 : Int32)), .unset] [(.ref a1)])) rfl rfl (hb hby d10_133)
  obtain ⟨T109, X109, e109, st109⟩ := getF X108 hx hZ hown (host := "") (Or.inl (hw _ (List.mem_of_getElem? (i := 69) rfl))) Via.refl e108 P_F_a1_count (g := (mkF m 138 #[.val (.ref a1), .val (.int (0 : Int32)), .val (.double d1), .second, .val (.double d1), .second, .val (.int (0 : Int32)), .unset] [(.ref a1), (.ref a1), (.ref v1)])) rfl rfl (hb hby d10_138)
  obtain ⟨T110, h110, X110, e110, W110, st110⟩ := putF X109 hx hZ hown (host := "") (Or.inl (hw _ (List.mem_of_getElem? (i := 69) rfl))) Via.refl e109 P_F_a1_count P_E_a1 (Or.inl (hw _ (List.mem_of_getElem? (i := 70) rfl))) (hw _ (List.mem_of_getElem? (i := 1) rfl)) (ty := .int) (by decide) rfl rfl (g := (mkF m 144 #[.val (.ref a1), .val (.int (0 : Int32)), .val (.double d1), .second, .val (.double d1), .second, .val (.int (0 : Int32)), .unset] [(.int (Int32.ofNat (k + 1))), (.ref a1), (.int (Int32.ofNat k)), (.ref v1)])) rfl rfl (hb hby d10_144)
  have F110 : Fld Z h110 a1 "com/example/attacca/attacca/DecimatingBuffer" "count" "I" (.int (Int32.ofNat (k + 1))) := P_F_a1_count.same W110
  have z111 : n0 ≤ h110.size := Nat.le_trans Z0 (Keep.of_wr W110).1
  have k112 : Keep h0 h110 [a1, v1] := (Keep.refl h0 [a1, v1]).wr W110 (Or.inl (List.mem_of_getElem? (i := 0) rfl))
  have N110 : Fr n0 _ := Fr.snoc X110 N102 P_G_a1
  have f113 : Arv Z h110 v1 kv .double (own_min p1 (4096 : Int32)) vl (.double (0 : UInt64)) := (P_V_v1.other W110 (Ne.symm P_ne_a1_v1))
  obtain ⟨cl114, Ar114, Q114, S114, M114, H114, G114⟩ := id f113
  have in115 : ¬ ((Int32.ofNat k) < 0 ∨ cl114.slots.size ≤ ((Int32.ofNat k)).toNatClampNeg) := inb_of S114 ⟨nn32 (by omega), own_lt hk7 hcap⟩
  obtain ⟨T116, h116, X116, e116, W116, st116⟩ := stD X110 hx hZ e110 Ar114 (j := (Int32.ofNat k)) in115 (g := (mkF m 149 #[.val (.ref a1), .val (.int (0 : Int32)), .val (.double d1), .second, .val (.double d1), .second, .val (.int (0 : Int32)), .unset] [(.double d1), (.int (Int32.ofNat k)), (.ref v1)])) rfl rfl (hb hby d10_149)
  have z117 : n0 ≤ h116.size := Nat.le_trans z111 (Keep.of_wr W116).1
  have k118 : Keep h0 h116 [a1, v1] := k112.wr W116 (Or.inl (List.mem_of_getElem? (i := 1) rfl))
  have V116 : Arv Z h116 v1 kv .double (own_min p1 (4096 : Int32)) (vl.set k (.double d1)) (.double (0 : UInt64)) := Arv.set Ar114 Q114 S114 M114 H114 G114 rfl W116 k (n32 (by omega)) (by rw [hvl]; exact hk7)
  have N116 : Fr n0 _ := Fr.snoc X116 N110 P_G_v1
  have pre119 : ∀ t_, Steps p.tables e below (T116.setTop (mkF m 150 #[.val (.ref a1), .val (.int (0 : Int32)), .val (.double d1), .second, .val (.double d1), .second, .val (.int (0 : Int32)), .unset] [])) t_ → Steps p.tables e below (s₁.setTop (entryFrame m #[(.ref a1), (.int (0 : Int32)), (.double d1)] 8)) t_ := fun t_ kt => pre0 t_ (by
      show Steps p.tables e below (s₁.setTop (mkF m 0 #[.val (.ref a1), .val (.int (0 : Int32)), .val (.double d1), .second, .unset, .unset, .unset, .unset] [])) _
      refine XS.dloadN X0.here hx rfl (hb hby d10_0) rfl ?_
      show Steps p.tables e below (s₁.setTop (mkF m 1 #[.val (.ref a1), .val (.int (0 : Int32)), .val (.double d1), .second, .unset, .unset, .unset, .unset] [(.double d1)])) _
      refine XS.dstore X0.here hx rfl (hb hby d10_1) rfl (l' := #[.val (.ref a1), .val (.int (0 : Int32)), .val (.double d1), .second, .val (.double d1), .second, .unset, .unset]) rfl ?_
      show Steps p.tables e below (s₁.setTop (mkF m 3 #[.val (.ref a1), .val (.int (0 : Int32)), .val (.double d1), .second, .val (.double d1), .second, .unset, .unset] [])) _
      refine XS.iloadN X0.here hx rfl (hb hby d10_3) rfl ?_
      show Steps p.tables e below (s₁.setTop (mkF m 4 #[.val (.ref a1), .val (.int (0 : Int32)), .val (.double d1), .second, .val (.double d1), .second, .unset, .unset] [(.int (0 : Int32))])) _
      refine XS.istore X0.here hx rfl (hb hby d10_4) rfl (l' := #[.val (.ref a1), .val (.int (0 : Int32)), .val (.double d1), .second, .val (.double d1), .second, .val (.int (0 : Int32)), .unset]) rfl ?_
      show Steps p.tables e below (s₁.setTop (mkF m 6 #[.val (.ref a1), .val (.int (0 : Int32)), .val (.double d1), .second, .val (.double d1), .second, .val (.int (0 : Int32)), .unset] [])) _
      refine XS.iload X0.here hx rfl (hb hby d10_6) rfl ?_
      show Steps p.tables e below (s₁.setTop (mkF m 8 #[.val (.ref a1), .val (.int (0 : Int32)), .val (.double d1), .second, .val (.double d1), .second, .val (.int (0 : Int32)), .unset] [(.int (0 : Int32))])) _
      refine XS.aloadN X0.here hx rfl (hb hby d10_8) rfl rfl ?_
      show Steps p.tables e below (s₁.setTop (mkF m 9 #[.val (.ref a1), .val (.int (0 : Int32)), .val (.double d1), .second, .val (.double d1), .second, .val (.int (0 : Int32)), .unset] [(.ref a1), (.int (0 : Int32))])) _
      refine st101 _ ?_
      show Steps p.tables e below (T101.setTop (mkF m 12 #[.val (.ref a1), .val (.int (0 : Int32)), .val (.double d1), .second, .val (.double d1), .second, .val (.int (0 : Int32)), .unset] [(.ref l1), (.int (0 : Int32))])) _
      refine st102.trans ?_
      show Steps p.tables e below (T102.setTop (mkF m 17 #[.val (.ref a1), .val (.int (0 : Int32)), .val (.double d1), .second, .val (.double d1), .second, .val (.int (0 : Int32)), .unset] [(.int (0 : Int32)), (.int (0 : Int32))])) _
      refine XS.icmpYes X102.here hx rfl (pc0 := 17) (pc' := 60) rfl (hb hby d10_17) rfl (flt ((by decide) : ¬ ((0 : Int32) < (0 : Int32)))).2.1 (by decide) (by decide) ?_
      show Steps p.tables e below (T102.setTop (mkF m 60 #[.val (.ref a1), .val (.int (0 : Int32)), .val (.double d1), .second, .val (.double d1), .second, .val (.int (0 : Int32)), .unset] [])) _
      refine XS.aloadN X102.here hx rfl (hb hby d10_60) rfl rfl ?_
      show Steps p.tables e below (T102.setTop (mkF m 61 #[.val (.ref a1), .val (.int (0 : Int32)), .val (.double d1), .second, .val (.double d1), .second, .val (.int (0 : Int32)), .unset] [(.ref a1)])) _
      refine st103 _ ?_
      show Steps p.tables e below (T103.setTop (mkF m 64 #[.val (.ref a1), .val (.int (0 : Int32)), .val (.double d1), .second, .val (.double d1), .second, .val (.int (0 : Int32)), .unset] [(.int (Int32.ofNat k))])) _
      refine XS.aloadN X103.here hx rfl (hb hby d10_64) rfl rfl ?_
      show Steps p.tables e below (T103.setTop (mkF m 65 #[.val (.ref a1), .val (.int (0 : Int32)), .val (.double d1), .second, .val (.double d1), .second, .val (.int (0 : Int32)), .unset] [(.ref a1), (.int (Int32.ofNat k))])) _
      refine st104 _ ?_
      show Steps p.tables e below (T104.setTop (mkF m 68 #[.val (.ref a1), .val (.int (0 : Int32)), .val (.double d1), .second, .val (.double d1), .second, .val (.int (0 : Int32)), .unset] [(.int p1), (.int (Int32.ofNat k))])) _
      refine XS.icmpYes X104.here hx rfl (pc0 := 68) (pc' := 95) rfl (hb hby d10_68) rfl (feq (own_ne1 hk7 hcap : ¬ ((Int32.ofNat k) = p1))).2 (by decide) (by decide) ?_
      show Steps p.tables e below (T104.setTop (mkF m 95 #[.val (.ref a1), .val (.int (0 : Int32)), .val (.double d1), .second, .val (.double d1), .second, .val (.int (0 : Int32)), .unset] [])) _
      refine XS.aloadN X104.here hx rfl (hb hby d10_95) rfl rfl ?_
      show Steps p.tables e below (T104.setTop (mkF m 96 #[.val (.ref a1), .val (.int (0 : Int32)), .val (.double d1), .second, .val (.double d1), .second, .val (.int (0 : Int32)), .unset] [(.ref a1)])) _
      refine st105 _ ?_
      show Steps p.tables e below (T105.setTop (mkF m 99 #[.val (.ref a1), .val (.int (0 : Int32)), .val (.double d1), .second, .val (.double d1), .second, .val (.int (0 : Int32)), .unset] [(.int (Int32.ofNat k))])) _
      refine XS.aloadN X105.here hx rfl (hb hby d10_99) rfl rfl ?_
      show Steps p.tables e below (T105.setTop (mkF m 100 #[.val (.ref a1), .val (.int (0 : Int32)), .val (.double d1), .second, .val (.double d1), .second, .val (.int (0 : Int32)), .unset] [(.ref a1), (.int (Int32.ofNat k))])) _
      refine st106 _ ?_
      show Steps p.tables e below (T106.setTop (mkF m 103 #[.val (.ref a1), .val (.int (0 : Int32)), .val (.double d1), .second, .val (.double d1), .second, .val (.int (0 : Int32)), .unset] [(.ref v1), (.int (Int32.ofNat k))])) _
      refine X106.arraylength hx (cell := cl107) (by rw [e106]; exact Ar107.1) (State.isArrayOf_alike hZ.alike Ar107.2.1) (g := (mkF m 103 #[.val (.ref a1), .val (.int (0 : Int32)), .val (.double d1), .second, .val (.double d1), .second, .val (.int (0 : Int32)), .unset] [(.ref v1), (.int (Int32.ofNat k))])) rfl rfl (hb hby d10_103) _ ?_
      rw [len_of S107 M107]
      show Steps p.tables e below (T106.setTop (mkF m 104 #[.val (.ref a1), .val (.int (0 : Int32)), .val (.double d1), .second, .val (.double d1), .second, .val (.int (0 : Int32)), .unset] [(.int (own_min p1 (4096 : Int32))), (.int (Int32.ofNat k))])) _
      refine XS.icmpYes X106.here hx rfl (pc0 := 104) (pc' := 132) rfl (hb hby d10_104) rfl (feq (own_ne2 hk7 hcap : ¬ ((Int32.ofNat k) = (own_min p1 (4096 : Int32))))).2 (by decide) (by decide) ?_
      show Steps p.tables e below (T106.setTop (mkF m 132 #[.val (.ref a1), .val (.int (0 : Int32)), .val (.double d1), .second, .val (.double d1), .second, .val (.int (0 : Int32)), .unset] [])) _
      refine XS.aloadN X106.here hx rfl (hb hby d10_132) rfl rfl ?_
      show Steps p.tables e below (T106.setTop (mkF m 133 #[.val (.ref a1), .val (.int (0 : Int32)), .val (.double d1), .second, .val (.double d1), .second, .val (.int (0 : Int32)), .unset] [(.ref a1)])) _
      refine st108 _ ?_
      show Steps p.tables e below (T108.setTop (mkF m 136 #[.val (.ref a1), .val (.int (0 : Int32)), .val (.double d1), .second, .val (.double d1), .second, .val (.int (0 : Int32)), .unset] [(.ref v1)])) _
      refine XS.aloadN X108.here hx rfl (hb hby d10_136) rfl rfl ?_
      show Steps p.tables e below (T108.setTop (mkF m 137 #[.val (.ref a1), .val (.int (0 : Int32)), .val (.double d1), .second, .val (.double d1), .second, .val (.int (0 : Int32)), .unset] [(.ref a1), (.ref v1)])) _
      refine XS.dup X108.here hx rfl (hb hby d10_137) rfl rfl ?_
      show Steps p.tables e below (T108.setTop (mkF m 138 #[.val (.ref a1), .val (.int (0 : Int32)), .val (.double d1), .second, .val (.double d1), .second, .val (.int (0 : Int32)), .unset] [(.ref a1), (.ref a1), (.ref v1)])) _
      refine st109 _ ?_
      show Steps p.tables e below (T109.setTop (mkF m 141 #[.val (.ref a1), .val (.int (0 : Int32)), .val (.double d1), .second, .val (.double d1), .second, .val (.int (0 : Int32)), .unset] [(.int (Int32.ofNat k)), (.ref a1), (.ref v1)])) _
      refine XS.dupX1 X109.here hx rfl (hb hby d10_141) rfl rfl rfl ?_
      show Steps p.tables e below (T109.setTop (mkF m 142 #[.val (.ref a1), .val (.int (0 : Int32)), .val (.double d1), .second, .val (.double d1), .second, .val (.int (0 : Int32)), .unset] [(.int (Int32.ofNat k)), (.ref a1), (.int (Int32.ofNat k)), (.ref v1)])) _
      refine XS.iconst X109.here hx rfl (hb hby d10_142) ?_
      show Steps p.tables e below (T109.setTop (mkF m 143 #[.val (.ref a1), .val (.int (0 : Int32)), .val (.double d1), .second, .val (.double d1), .second, .val (.int (0 : Int32)), .unset] [(.int (1 : Int32)), (.int (Int32.ofNat k)), (.ref a1), (.int (Int32.ofNat k)), (.ref v1)])) _
      refine XS.iadd X109.here hx rfl (hb hby d10_143) rfl ?_
      show Steps p.tables e below (T109.setTop (mkF m 144 #[.val (.ref a1), .val (.int (0 : Int32)), .val (.double d1), .second, .val (.double d1), .second, .val (.int (0 : Int32)), .unset] [(.int ((Int32.ofNat k) + (1 : Int32))), (.ref a1), (.int (Int32.ofNat k)), (.ref v1)])) _
      rw [one32 k]
      show Steps p.tables e below (T109.setTop (mkF m 144 #[.val (.ref a1), .val (.int (0 : Int32)), .val (.double d1), .second, .val (.double d1), .second, .val (.int (0 : Int32)), .unset] [(.int (Int32.ofNat (k + 1))), (.ref a1), (.int (Int32.ofNat k)), (.ref v1)])) _
      refine st110 _ ?_
      show Steps p.tables e below (T110.setTop (mkF m 147 #[.val (.ref a1), .val (.int (0 : Int32)), .val (.double d1), .second, .val (.double d1), .second, .val (.int (0 : Int32)), .unset] [(.int (Int32.ofNat k)), (.ref v1)])) _
      refine XS.dload X110.here hx rfl (hb hby d10_147) rfl ?_
      show Steps p.tables e below (T110.setTop (mkF m 149 #[.val (.ref a1), .val (.int (0 : Int32)), .val (.double d1), .second, .val (.double d1), .second, .val (.int (0 : Int32)), .unset] [(.double d1), (.int (Int32.ofNat k)), (.ref v1)])) _
      refine st116 _ ?_
      exact kt)
  have f120 : Fld Z h116 a1 "com/example/attacca/attacca/DecimatingBuffer" "stages" "Ljava/util/List;" (.ref l1) := ((P_F_a1_stages.other W110 (Or.inr (slot_ne (Or.inr (hw _ (List.mem_of_getElem? (i := 34) rfl))) (Or.inl (hw _ (List.mem_of_getElem? (i := 70) rfl))) (by decide) (t := (.object "java/util/List")) (t' := .int) (by decide) (by decide)))).other W116 (Or.inl P_ne_a1_v1))
  have f121 : Fld Z h116 a1 "com/example/attacca/attacca/DecimatingBuffer" "capacity" "I" (.int p1) := ((P_F_a1_capacity.other W110 (Or.inr (slot_ne (Or.inr (hw _ (List.mem_of_getElem? (i := 36) rfl))) (Or.inl (hw _ (List.mem_of_getElem? (i := 70) rfl))) (by decide) (t := .int) (t' := .int) (by decide) (by decide)))).other W116 (Or.inl P_ne_a1_v1))
  have f122 : Fld Z h116 a1 "com/example/attacca/attacca/DecimatingBuffer" "values" "[D" (.ref v1) := ((P_F_a1_values.other W110 (Or.inr (slot_ne (Or.inl (hw _ (List.mem_of_getElem? (i := 43) rfl))) (Or.inl (hw _ (List.mem_of_getElem? (i := 70) rfl))) (by decide) (t := (.array .double)) (t' := .int) (by decide) (by decide)))).other W116 (Or.inl P_ne_a1_v1))
  have f123 : Fld Z h116 a1 "com/example/attacca/attacca/DecimatingBuffer" "count" "I" (.int (Int32.ofNat (k + 1))) := (F110.other W116 (Or.inl P_ne_a1_v1))
  obtain ⟨fs, hr, hrun, hended, hW, hsame⟩ := X116.leave (v := none) (fun _ => rfl)
  refine ⟨_, _, pre119 _ ?_, hrun, hended, _, _, rfl, ?_, ⟨_, rfl⟩, hW, hsame.mono (by decide) (by decide)⟩
  · show Steps p.tables e below (T116.setTop (mkF m 150 #[.val (.ref a1), .val (.int (0 : Int32)), .val (.double d1), .second, .val (.double d1), .second, .val (.int (0 : Int32)), .unset] [])) _
    exact X116.returnOut hx Bd.returns (hb hby d10_150) hr
  · show Qpass Z a1 d1 l1 v1 kv p1 vl k h0 n0 _ T116.heap _
    rw [e116]
    exact ⟨rfl, N116, k118, f120, f121, f122, f123, V116⟩
theorem ef_acc (m : MethodId) (a1 : Addr) (d1 : UInt64) : entryFrame m #[(.ref a1), (.double d1)] 3 = mkF m 0 #[.val (.ref a1), .val (.double d1), .second] [] := by first | (simp [entryFrame, mkF, argsToLocals, Value.category]; done) | rfl
theorem d9_0 : decode prog_4_method_2_code 0 = .ok (.aload_n 0, 1) := by decide +kernel
theorem d9_1 : decode prog_4_method_2_code 1 = .ok (.iconst 0, 1) := by decide +kernel
theorem d9_2 : decode prog_4_method_2_code 2 = .ok (.dload_n 1, 1) := by decide +kernel
theorem pd__28ID_29V : parseMethodDescriptor "(ID)V" = some ⟨[.int, .double], none⟩ := by decide +kernel
theorem d9_3 : decode prog_4_method_2_code 3 = .ok (.invokevirtual 39, 3) := by decide +kernel
theorem d9_6 : decode prog_4_method_2_code 6 = .ok (.return_, 1) := by decide +kernel
def Qacc (Z : State) (a1 : Addr) (d1 : UInt64) (l1 : Addr) (v1 : Addr) (kv : ClassId) (p1 : Int32) (vl : List Value) (k : Nat) (h0 : Heap) (n0 : Nat) (v : Option Value) (h : Heap) (L : List Loc) : Prop := v = none ∧ Fr n0 L ∧ Keep h0 h [a1, v1] ∧ (Fld Z h a1 "com/example/attacca/attacca/DecimatingBuffer" "stages" "Ljava/util/List;" (.ref l1)) ∧ (Fld Z h a1 "com/example/attacca/attacca/DecimatingBuffer" "capacity" "I" (.int p1)) ∧ (Fld Z h a1 "com/example/attacca/attacca/DecimatingBuffer" "values" "[D" (.ref v1)) ∧ (Fld Z h a1 "com/example/attacca/attacca/DecimatingBuffer" "count" "I" (.int (Int32.ofNat (k + 1)))) ∧ (Arv Z h v1 kv .double (own_min p1 (4096 : Int32)) (vl.set k (.double d1)) (.double (0 : UInt64)))
set_option maxRecDepth 65536 in
set_option maxHeartbeats 40000000 in
theorem rmacc (l : Launch) (Z : State) (a0 : Array Value) (hw : ∀ d ∈ tables_1, d.before a0 Z = true) (ws : List Jvm.Cond) (a1 : Addr) (d1 : UInt64) (l1 : Addr) (v1 : Addr) (kv : ClassId) (p1 : Int32) (vl : List Value) (k : Nat) (h0 : Heap) (n0 : Nat) (Z0 : n0 ≤ h0.size) (P_E_a1 : Exa Z h0 a1 "com/example/attacca/attacca/DecimatingBuffer") (P_F_a1_stages : Fld Z h0 a1 "com/example/attacca/attacca/DecimatingBuffer" "stages" "Ljava/util/List;" (.ref l1)) (P_F_a1_capacity : Fld Z h0 a1 "com/example/attacca/attacca/DecimatingBuffer" "capacity" "I" (.int p1)) (P_F_a1_values : Fld Z h0 a1 "com/example/attacca/attacca/DecimatingBuffer" "values" "[D" (.ref v1)) (P_F_a1_count : Fld Z h0 a1 "com/example/attacca/attacca/DecimatingBuffer" "count" "I" (.int (Int32.ofNat k))) (P_E_l1 : Exa Z h0 l1 "java/util/ArrayList") (P_F_l1_size : Fld Z h0 l1 "java/util/ArrayList" "size" "I" (.int (0 : Int32))) (P_V_v1 : Arv Z h0 v1 kv .double (own_min p1 (4096 : Int32)) vl (.double (0 : UInt64))) (P_G_a1 : n0 ≤ a1) (P_G_v1 : n0 ≤ v1) (P_ne_a1_v1 : a1 ≠ v1) (P_ne_a1_l1 : a1 ≠ l1) (P_ne_l1_v1 : l1 ≠ v1) (hcap : ¬ (p1 < (16 : Int32))) (hk7 : k < 7) (hvl : vl.length = 7) :
    MetFree l (⟨"com/example/attacca/attacca/DecimatingBuffer", "accept", "(D)V"⟩ : MethodName) (head1 (Jvm.Cond.code (⟨"com/example/attacca/attacca/DecimatingBuffer", "accept", "(D)V"⟩ : MethodName) prog_4_method_2_code 3 none :: ws) ({ frames := 2, cells := 0, slots := 0, locals := 32 } : Room)) (fun a U => a = #[(.ref a1), (.double d1)] ∧ Z.Warmed39 U.vm ∧ U.heap = h0) (fun _ _ _ _ _ => True) (fun _ U o U' => ∃ v L, o = .returned v ∧ Qacc Z a1 d1 l1 v1 kv p1 vl k h0 n0 v U'.heap L ∧ FrameEnd U o U' L ({ frames := 2, cells := 0, slots := 0, locals := 32 } : Room).cells ({ frames := 2, cells := 0, slots := 0, locals := 32 } : Room).slots) := by
  refine MetFree.of_bodySF (plainFor_of_name pn_com_example_attacca_attacca_DecimatingBuffer) hisR ?_
  intro p e s m args below meth c s₁ Bd hml0 hP hK
  obtain ⟨rfl, hZ, hh⟩ := hP
  have hx := Bd.exec
  have hby := Bd.bytes
  have hml : c.maxLocals = 3 := hml0
  have hown : s.vm.findClass "com/example/attacca/attacca/DecimatingBuffer" = some m.cls := findClass_of_methodNamed Bd.named
  have hnm := (name_of_methodNamed Bd.named Bd.method).1
  have X0 : Stand p l e ({ frames := 2, cells := 0, slots := 0, locals := 32 } : Room) s m #[(.ref a1), (.double d1)] below meth c s₁ [] 0 0 := Stand.of_body Bd
  have e0 : s₁.heap = h0 := by rw [← hh, Bd.state]; rfl
  have N0 := Fr.nil n0
  have pre0 : ∀ t_, Steps p.tables e below (s₁.setTop (mkF m 0 #[.val (.ref a1), .val (.double d1), .second] [])) t_ → Steps p.tables e below (s₁.setTop (entryFrame m #[(.ref a1), (.double d1)] 3)) t_ := fun t_ k => castTop (ef_acc m a1 d1) k
  obtain ⟨cq101, q101, q101'⟩ := P_E_a1.cell
  obtain ⟨_, _, ⟨T101, L101, kk101, nn101⟩, -, X101, ⟨Lc101, hQ101, l101, y101, z101⟩, st101⟩ := X0.privateBack hx (y := (⟨"com/example/attacca/attacca/DecimatingBuffer", "pass", "(ID)V"⟩ : MethodName)) hown (mvT hZ (hw _ (List.mem_of_getElem? (i := 65) rfl))) (mvT hZ (hw _ (List.mem_of_getElem? (i := 66) rfl))) (mvT hZ (own_selp (y := (⟨"com/example/attacca/attacca/DecimatingBuffer", "pass", "(ID)V"⟩ : MethodName)) (by decide) (hw _ (List.mem_of_getElem? (i := 1) rfl)) (hw _ (List.mem_of_getElem? (i := 67) rfl)) (hw _ (List.mem_of_getElem? (i := 66) rfl)))) (Cond.privateMethod_at (mvP hZ (hw _ (List.mem_of_getElem? (i := 67) rfl)) (args := #[]))) (mvT hZ (hw _ (List.mem_of_getElem? (i := 68) rfl))) (by decide) (backOf (W := 0) (rmpass l Z a0 hw [] a1 d1 l1 v1 kv p1 vl k h0 n0 Z0 P_E_a1 P_F_a1_stages P_F_a1_capacity P_F_a1_values P_F_a1_count P_E_l1 P_F_l1_size P_V_v1 P_G_a1 P_G_v1 P_ne_a1_v1 P_ne_a1_l1 P_ne_l1_v1 (hcap) (hk7) (hvl)) hZ (hw _ (List.mem_of_getElem? (i := 68) rfl)) (hw _ (List.mem_of_getElem? (i := 2) rfl)) (by decide) (by decide)) (g := (mkF m 3 #[.val (.ref a1), .val (.double d1), .second] [(.double d1), (.int (0 : Int32)), (.ref a1)])) rfl (by rw [hml]; rfl) (Steps.refl _) (a := a1) (by rw [e0]; exact q101) q101' (argsL := [(.int (0 : Int32)), (.double d1)]) (rest := []) (lenOf pd__28ID_29V rfl) rfl (by show 2 * 0 + _ ≤ _; exact Nat.le_of_eq rfl) (hb hby d9_3) (fun _ _ => ⟨rfl, e0, (by decide : 0 + 0 ≤ _), (by decide : 0 + 0 ≤ _)⟩)
  dsimp only [Pt.U, Pt.locs, Pt.cells, Pt.slots] at X101 l101 y101 z101 st101 hQ101
  subst l101 y101 z101
  obtain ⟨rfl, N101q, K101, x101_0, x101_1, x101_2, x101_3, x101_4⟩ := hQ101
  have N101 := Fr.app N0 N101q
  have z102 : n0 ≤ T101.heap.size := Nat.le_trans Z0 K101.1
  have k103 : Keep h0 T101.heap [a1, v1] := (Keep.refl h0 [a1, v1]).trans K101 (own_wmc (Or.inl (List.mem_of_getElem? (i := 0) rfl)) (own_wmc (Or.inl (List.mem_of_getElem? (i := 1) rfl)) own_wm0))
  have pre104 : ∀ t_, Steps p.tables e below (T101.setTop (mkF m 6 #[.val (.ref a1), .val (.double d1), .second] [])) t_ → Steps p.tables e below (s₁.setTop (entryFrame m #[(.ref a1), (.double d1)] 3)) t_ := fun t_ kt => pre0 t_ (by
      show Steps p.tables e below (s₁.setTop (mkF m 0 #[.val (.ref a1), .val (.double d1), .second] [])) _
      refine XS.aloadN X0.here hx rfl (hb hby d9_0) rfl rfl ?_
      show Steps p.tables e below (s₁.setTop (mkF m 1 #[.val (.ref a1), .val (.double d1), .second] [(.ref a1)])) _
      refine XS.iconst X0.here hx rfl (hb hby d9_1) ?_
      show Steps p.tables e below (s₁.setTop (mkF m 2 #[.val (.ref a1), .val (.double d1), .second] [(.int (0 : Int32)), (.ref a1)])) _
      refine XS.dloadN X0.here hx rfl (hb hby d9_2) rfl ?_
      show Steps p.tables e below (s₁.setTop (mkF m 3 #[.val (.ref a1), .val (.double d1), .second] [(.double d1), (.int (0 : Int32)), (.ref a1)])) _
      refine st101.trans ?_
      exact kt)
  obtain ⟨fs, hr, hrun, hended, hW, hsame⟩ := X101.leave (v := none) (fun _ => rfl)
  refine ⟨_, _, pre104 _ ?_, hrun, hended, _, _, rfl, ?_, ⟨_, rfl⟩, hW, hsame.mono (by decide) (by decide)⟩
  · show Steps p.tables e below (T101.setTop (mkF m 6 #[.val (.ref a1), .val (.double d1), .second] [])) _
    exact X101.returnOut hx Bd.returns (hb hby d9_6) hr
  · show Qacc Z a1 d1 l1 v1 kv p1 vl k h0 n0 _ T101.heap _
    exact ⟨rfl, N101, k103, x101_0, x101_1, x101_2, x101_3, x101_4⟩
theorem ef_0 (m : MethodId) (p1 : Int32) (p2 : Int32) (p3 : Int32) (p4 : Int32) (p5 : Int32) : entryFrame m #[(.int p1), (.int p2), (.int p3), (.int p4), (.int p5)] maxLocals = mkF m 0 #[.val (.int p1), .val (.int p2), .val (.int p3), .val (.int p4), .val (.int p5), .unset, .unset, .unset, .unset, .unset, .unset, .unset, .unset] [] := by first | (simp [entryFrame, mkF, argsToLocals, Value.category, maxLocals]; done) | rfl
theorem pd__28I_29V : parseMethodDescriptor "(I)V" = some ⟨[.int], none⟩ := by decide +kernel
theorem pd__28_29J : parseMethodDescriptor "()J" = some ⟨[], some .long⟩ := by decide +kernel
theorem pd__28D_29V : parseMethodDescriptor "(D)V" = some ⟨[.double], none⟩ := by decide +kernel
theorem pn_com_example_attacca_attacca_DecimatingBufferStridePinLaw : plainName "com/example/attacca/attacca/DecimatingBufferStridePinLaw" = true := by first | (simp [plainName, overriddenIn]; done) | decide +kernel
def Q0 (Z : State) (p1 : Int32) (p2 : Int32) (p3 : Int32) (p4 : Int32) (p5 : Int32) (DC : Addr) (h0 : Heap) (n0 : Nat) (v : Option Value) (h : Heap) (L : List Loc) : Prop := v = some (.int (1 : Int32)) ∧ Fr n0 L
set_option maxRecDepth 65536 in
set_option maxHeartbeats 40000000 in
theorem rm0 (l : Launch) (Z : State) (a0 : Array Value) (hw : ∀ d ∈ tables_1, d.before a0 Z = true) (ws : List Jvm.Cond) (p1 : Int32) (p2 : Int32) (p3 : Int32) (p4 : Int32) (p5 : Int32) (DC : Addr) (h0 : Heap) (n0 : Nat) (Z0 : n0 ≤ h0.size) (Od : Sta Z Z.heap "java/util/ArrayList" "DEFAULTCAPACITY_EMPTY_ELEMENTDATA" "[Ljava/lang/Object;" (.ref DC)) (P_O : Old Z n0 h0) :
    MetFree l x (head1 (Jvm.Cond.code x code maxLocals ret :: ws) room_1) (fun a U => a = #[(.int p1), (.int p2), (.int p3), (.int p4), (.int p5)] ∧ Z.Warmed39 U.vm ∧ U.heap = h0) (fun _ _ _ _ _ => True) (fun _ U o U' => ∃ v L, o = .returned v ∧ Q0 Z p1 p2 p3 p4 p5 DC h0 n0 v U'.heap L ∧ FrameEnd U o U' L 16 8320) := by
  refine MetFree.of_bodySF (plainFor_of_name pn_com_example_attacca_attacca_DecimatingBufferStridePinLaw) hisR ?_
  intro p e s m args below meth c s₁ Bd hml0 hP hK
  obtain ⟨rfl, hZ, hh⟩ := hP
  have hx := Bd.exec
  have hby := Bd.bytes
  have hml : c.maxLocals = 13 := hml0
  have hown : s.vm.findClass "com/example/attacca/attacca/DecimatingBufferStridePinLaw" = some m.cls := findClass_of_methodNamed Bd.named
  have hnm := (name_of_methodNamed Bd.named Bd.method).1
  have X0 : Stand p l e room_1 s m #[(.int p1), (.int p2), (.int p3), (.int p4), (.int p5)] below meth c s₁ [] 0 0 := Stand.of_body Bd
  have e0 : s₁.heap = h0 := by rw [← hh, Bd.state]; rfl
  have N0 := Fr.nil n0
  have pre0 : ∀ t_, Steps p.tables e below (s₁.setTop (mkF m 0 #[.val (.int p1), .val (.int p2), .val (.int p3), .val (.int p4), .val (.int p5), .unset, .unset, .unset, .unset, .unset, .unset, .unset, .unset] [])) t_ → Steps p.tables e below (s₁.setTop (entryFrame m #[(.int p1), (.int p2), (.int p3), (.int p4), (.int p5)] maxLocals)) t_ := fun t_ k => castTop (ef_0 m p1 p2 p3 p4 p5) k
  obtain ⟨kn, hkn, ekn⟩ := own_and7 p2
  obtain ⟨cap, hcap, pre101⟩ : ∃ (cap : Int32), (¬ (cap < (16 : Int32))) ∧ ∀ t_, Steps p.tables e below (s₁.setTop (mkF m 17 #[.val (.int p1), .val (.int p2), .val (.int p3), .val (.int p4), .val (.int p5), .unset, .unset, .unset, .unset, .unset, .unset, .unset, .unset] [(.int cap)])) t_ → Steps p.tables e below (s₁.setTop (entryFrame m #[(.int p1), (.int p2), (.int p3), (.int p4), (.int p5)] maxLocals)) t_ := by
    have pre102 : ∀ t_, Steps p.tables e below (s₁.setTop (mkF m 3 #[.val (.int p1), .val (.int p2), .val (.int p3), .val (.int p4), .val (.int p5), .unset, .unset, .unset, .unset, .unset, .unset, .unset, .unset] [(.int (16 : Int32)), (.int p1)])) t_ → Steps p.tables e below (s₁.setTop (entryFrame m #[(.int p1), (.int p2), (.int p3), (.int p4), (.int p5)] maxLocals)) t_ := fun t_ kt => pre0 t_ (by
        show Steps p.tables e below (s₁.setTop (mkF m 0 #[.val (.int p1), .val (.int p2), .val (.int p3), .val (.int p4), .val (.int p5), .unset, .unset, .unset, .unset, .unset, .unset, .unset, .unset] [])) _
        refine XS.iloadN X0.here hx rfl (hb hby at_0) rfl ?_
        show Steps p.tables e below (s₁.setTop (mkF m 1 #[.val (.int p1), .val (.int p2), .val (.int p3), .val (.int p4), .val (.int p5), .unset, .unset, .unset, .unset, .unset, .unset, .unset, .unset] [(.int p1)])) _
        refine XS.bipush X0.here hx rfl (hb hby at_1) ?_
        exact kt)
    by_cases hA : p1 < (16 : Int32)
    · skip
      have pre103 : ∀ t_, Steps p.tables e below (s₁.setTop (mkF m 17 #[.val (.int p1), .val (.int p2), .val (.int p3), .val (.int p4), .val (.int p5), .unset, .unset, .unset, .unset, .unset, .unset, .unset, .unset] [(.int ((16 : Int32) + (p1 &&& (15 : Int32))))])) t_ → Steps p.tables e below (s₁.setTop (entryFrame m #[(.int p1), (.int p2), (.int p3), (.int p4), (.int p5)] maxLocals)) t_ := fun t_ kt => pre102 t_ (by
          show Steps p.tables e below (s₁.setTop (mkF m 3 #[.val (.int p1), .val (.int p2), .val (.int p3), .val (.int p4), .val (.int p5), .unset, .unset, .unset, .unset, .unset, .unset, .unset, .unset] [(.int (16 : Int32)), (.int p1)])) _
          refine XS.icmpYes X0.here hx rfl (pc0 := 3) (pc' := 10) rfl (hb hby at_3) rfl (tlt (hA : p1 < (16 : Int32))).1 (by decide) (by decide) ?_
          show Steps p.tables e below (s₁.setTop (mkF m 10 #[.val (.int p1), .val (.int p2), .val (.int p3), .val (.int p4), .val (.int p5), .unset, .unset, .unset, .unset, .unset, .unset, .unset, .unset] [])) _
          refine XS.bipush X0.here hx rfl (hb hby at_10) ?_
          show Steps p.tables e below (s₁.setTop (mkF m 12 #[.val (.int p1), .val (.int p2), .val (.int p3), .val (.int p4), .val (.int p5), .unset, .unset, .unset, .unset, .unset, .unset, .unset, .unset] [(.int (16 : Int32))])) _
          refine XS.iloadN X0.here hx rfl (hb hby at_12) rfl ?_
          show Steps p.tables e below (s₁.setTop (mkF m 13 #[.val (.int p1), .val (.int p2), .val (.int p3), .val (.int p4), .val (.int p5), .unset, .unset, .unset, .unset, .unset, .unset, .unset, .unset] [(.int p1), (.int (16 : Int32))])) _
          refine XS.bipush X0.here hx rfl (hb hby at_13) ?_
          show Steps p.tables e below (s₁.setTop (mkF m 15 #[.val (.int p1), .val (.int p2), .val (.int p3), .val (.int p4), .val (.int p5), .unset, .unset, .unset, .unset, .unset, .unset, .unset, .unset] [(.int (15 : Int32)), (.int p1), (.int (16 : Int32))])) _
          refine XS.iand X0.here hx rfl (hb hby at_15) rfl ?_
          show Steps p.tables e below (s₁.setTop (mkF m 16 #[.val (.int p1), .val (.int p2), .val (.int p3), .val (.int p4), .val (.int p5), .unset, .unset, .unset, .unset, .unset, .unset, .unset, .unset] [(.int (p1 &&& (15 : Int32))), (.int (16 : Int32))])) _
          refine XS.iadd X0.here hx rfl (hb hby at_16) rfl ?_
          exact kt)
      exact ⟨((16 : Int32) + (p1 &&& (15 : Int32))), own_16 p1, pre103⟩
    · skip
      have pre104 : ∀ t_, Steps p.tables e below (s₁.setTop (mkF m 17 #[.val (.int p1), .val (.int p2), .val (.int p3), .val (.int p4), .val (.int p5), .unset, .unset, .unset, .unset, .unset, .unset, .unset, .unset] [(.int p1)])) t_ → Steps p.tables e below (s₁.setTop (entryFrame m #[(.int p1), (.int p2), (.int p3), (.int p4), (.int p5)] maxLocals)) t_ := fun t_ kt => pre102 t_ (by
          show Steps p.tables e below (s₁.setTop (mkF m 3 #[.val (.int p1), .val (.int p2), .val (.int p3), .val (.int p4), .val (.int p5), .unset, .unset, .unset, .unset, .unset, .unset, .unset, .unset] [(.int (16 : Int32)), (.int p1)])) _
          refine XS.icmpNo X0.here hx rfl (hb hby at_3) rfl (flt (hA : ¬ (p1 < (16 : Int32)))).1 ?_
          show Steps p.tables e below (s₁.setTop (mkF m 6 #[.val (.int p1), .val (.int p2), .val (.int p3), .val (.int p4), .val (.int p5), .unset, .unset, .unset, .unset, .unset, .unset, .unset, .unset] [])) _
          refine XS.iloadN X0.here hx rfl (hb hby at_6) rfl ?_
          show Steps p.tables e below (s₁.setTop (mkF m 7 #[.val (.int p1), .val (.int p2), .val (.int p3), .val (.int p4), .val (.int p5), .unset, .unset, .unset, .unset, .unset, .unset, .unset, .unset] [(.int p1)])) _
          refine XS.goto X0.here hx rfl (pc0 := 7) (pc' := 17) rfl (hb hby at_7) (by decide) (by decide) ?_
          exact kt)
      exact ⟨p1, hA, pre104⟩
  have pre105 : ∀ t_, Steps p.tables e below (s₁.setTop (mkF m 25 #[.val (.int p1), .val (.int p2), .val (.int p3), .val (.int p4), .val (.int p5), .val (.int cap), .val (.int (Int32.ofNat kn)), .unset, .unset, .unset, .unset, .unset, .unset] [])) t_ → Steps p.tables e below (s₁.setTop (entryFrame m #[(.int p1), (.int p2), (.int p3), (.int p4), (.int p5)] maxLocals)) t_ := fun t_ kt => pre101 t_ (by
      show Steps p.tables e below (s₁.setTop (mkF m 17 #[.val (.int p1), .val (.int p2), .val (.int p3), .val (.int p4), .val (.int p5), .unset, .unset, .unset, .unset, .unset, .unset, .unset, .unset] [(.int cap)])) _
      refine XS.istore X0.here hx rfl (hb hby at_17) rfl (l' := #[.val (.int p1), .val (.int p2), .val (.int p3), .val (.int p4), .val (.int p5), .val (.int cap), .unset, .unset, .unset, .unset, .unset, .unset, .unset]) rfl ?_
      show Steps p.tables e below (s₁.setTop (mkF m 19 #[.val (.int p1), .val (.int p2), .val (.int p3), .val (.int p4), .val (.int p5), .val (.int cap), .unset, .unset, .unset, .unset, .unset, .unset, .unset] [])) _
      refine XS.iloadN X0.here hx rfl (hb hby at_19) rfl ?_
      show Steps p.tables e below (s₁.setTop (mkF m 20 #[.val (.int p1), .val (.int p2), .val (.int p3), .val (.int p4), .val (.int p5), .val (.int cap), .unset, .unset, .unset, .unset, .unset, .unset, .unset] [(.int p2)])) _
      refine XS.bipush X0.here hx rfl (hb hby at_20) ?_
      show Steps p.tables e below (s₁.setTop (mkF m 22 #[.val (.int p1), .val (.int p2), .val (.int p3), .val (.int p4), .val (.int p5), .val (.int cap), .unset, .unset, .unset, .unset, .unset, .unset, .unset] [(.int (7 : Int32)), (.int p2)])) _
      refine XS.iand X0.here hx rfl (hb hby at_22) rfl ?_
      show Steps p.tables e below (s₁.setTop (mkF m 23 #[.val (.int p1), .val (.int p2), .val (.int p3), .val (.int p4), .val (.int p5), .val (.int cap), .unset, .unset, .unset, .unset, .unset, .unset, .unset] [(.int (p2 &&& (7 : Int32)))])) _
      rw [ekn]
      show Steps p.tables e below (s₁.setTop (mkF m 23 #[.val (.int p1), .val (.int p2), .val (.int p3), .val (.int p4), .val (.int p5), .val (.int cap), .unset, .unset, .unset, .unset, .unset, .unset, .unset] [(.int (Int32.ofNat kn))])) _
      refine XS.istore X0.here hx rfl (hb hby at_23) rfl (l' := #[.val (.int p1), .val (.int p2), .val (.int p3), .val (.int p4), .val (.int p5), .val (.int cap), .val (.int (Int32.ofNat kn)), .unset, .unset, .unset, .unset, .unset, .unset]) rfl ?_
      exact kt)
  obtain ⟨fi, pre106⟩ : ∃ (fi : Int32), ∀ t_, Steps p.tables e below (s₁.setTop (mkF m 37 #[.val (.int p1), .val (.int p2), .val (.int p3), .val (.int p4), .val (.int p5), .val (.int cap), .val (.int (Int32.ofNat kn)), .unset, .unset, .unset, .unset, .unset, .unset] [(.int fi)])) t_ → Steps p.tables e below (s₁.setTop (entryFrame m #[(.int p1), (.int p2), (.int p3), (.int p4), (.int p5)] maxLocals)) t_ := by
    have pre107 : ∀ t_, Steps p.tables e below (s₁.setTop (mkF m 29 #[.val (.int p1), .val (.int p2), .val (.int p3), .val (.int p4), .val (.int p5), .val (.int cap), .val (.int (Int32.ofNat kn)), .unset, .unset, .unset, .unset, .unset, .unset] [(.int (p2 &&& (8 : Int32)))])) t_ → Steps p.tables e below (s₁.setTop (entryFrame m #[(.int p1), (.int p2), (.int p3), (.int p4), (.int p5)] maxLocals)) t_ := fun t_ kt => pre105 t_ (by
        show Steps p.tables e below (s₁.setTop (mkF m 25 #[.val (.int p1), .val (.int p2), .val (.int p3), .val (.int p4), .val (.int p5), .val (.int cap), .val (.int (Int32.ofNat kn)), .unset, .unset, .unset, .unset, .unset, .unset] [])) _
        refine XS.iloadN X0.here hx rfl (hb hby at_25) rfl ?_
        show Steps p.tables e below (s₁.setTop (mkF m 26 #[.val (.int p1), .val (.int p2), .val (.int p3), .val (.int p4), .val (.int p5), .val (.int cap), .val (.int (Int32.ofNat kn)), .unset, .unset, .unset, .unset, .unset, .unset] [(.int p2)])) _
        refine XS.bipush X0.here hx rfl (hb hby at_26) ?_
        show Steps p.tables e below (s₁.setTop (mkF m 28 #[.val (.int p1), .val (.int p2), .val (.int p3), .val (.int p4), .val (.int p5), .val (.int cap), .val (.int (Int32.ofNat kn)), .unset, .unset, .unset, .unset, .unset, .unset] [(.int (8 : Int32)), (.int p2)])) _
        refine XS.iand X0.here hx rfl (hb hby at_28) rfl ?_
        exact kt)
    by_cases hB : (p2 &&& (8 : Int32)) = (0 : Int32)
    · skip
      have pre108 : ∀ t_, Steps p.tables e below (s₁.setTop (mkF m 37 #[.val (.int p1), .val (.int p2), .val (.int p3), .val (.int p4), .val (.int p5), .val (.int cap), .val (.int (Int32.ofNat kn)), .unset, .unset, .unset, .unset, .unset, .unset] [(.int (0 : Int32))])) t_ → Steps p.tables e below (s₁.setTop (entryFrame m #[(.int p1), (.int p2), (.int p3), (.int p4), (.int p5)] maxLocals)) t_ := fun t_ kt => pre107 t_ (by
          show Steps p.tables e below (s₁.setTop (mkF m 29 #[.val (.int p1), .val (.int p2), .val (.int p3), .val (.int p4), .val (.int p5), .val (.int cap), .val (.int (Int32.ofNat kn)), .unset, .unset, .unset, .unset, .unset, .unset] [(.int (p2 &&& (8 : Int32)))])) _
          refine XS.ifYes X0.here hx rfl (pc0 := 29) (pc' := 36) rfl (hb hby at_29) rfl ((if0 _ _).trans (teq (hB : (p2 &&& (8 : Int32)) = (0 : Int32))).1) (by decide) (by decide) ?_
          show Steps p.tables e below (s₁.setTop (mkF m 36 #[.val (.int p1), .val (.int p2), .val (.int p3), .val (.int p4), .val (.int p5), .val (.int cap), .val (.int (Int32.ofNat kn)), .unset, .unset, .unset, .unset, .unset, .unset] [])) _
          refine XS.iconst X0.here hx rfl (hb hby at_36) ?_
          exact kt)
      exact ⟨(0 : Int32), pre108⟩
    · skip
      have pre109 : ∀ t_, Steps p.tables e below (s₁.setTop (mkF m 37 #[.val (.int p1), .val (.int p2), .val (.int p3), .val (.int p4), .val (.int p5), .val (.int cap), .val (.int (Int32.ofNat kn)), .unset, .unset, .unset, .unset, .unset, .unset] [(.int (1 : Int32))])) t_ → Steps p.tables e below (s₁.setTop (entryFrame m #[(.int p1), (.int p2), (.int p3), (.int p4), (.int p5)] maxLocals)) t_ := fun t_ kt => pre107 t_ (by
          show Steps p.tables e below (s₁.setTop (mkF m 29 #[.val (.int p1), .val (.int p2), .val (.int p3), .val (.int p4), .val (.int p5), .val (.int cap), .val (.int (Int32.ofNat kn)), .unset, .unset, .unset, .unset, .unset, .unset] [(.int (p2 &&& (8 : Int32)))])) _
          refine XS.ifNo X0.here hx rfl (hb hby at_29) rfl ((if0 _ _).trans (feq (hB : ¬ ((p2 &&& (8 : Int32)) = (0 : Int32)))).1) ?_
          show Steps p.tables e below (s₁.setTop (mkF m 32 #[.val (.int p1), .val (.int p2), .val (.int p3), .val (.int p4), .val (.int p5), .val (.int cap), .val (.int (Int32.ofNat kn)), .unset, .unset, .unset, .unset, .unset, .unset] [])) _
          refine XS.iconst X0.here hx rfl (hb hby at_32) ?_
          show Steps p.tables e below (s₁.setTop (mkF m 33 #[.val (.int p1), .val (.int p2), .val (.int p3), .val (.int p4), .val (.int p5), .val (.int cap), .val (.int (Int32.ofNat kn)), .unset, .unset, .unset, .unset, .unset, .unset] [(.int (1 : Int32))])) _
          refine XS.goto X0.here hx rfl (pc0 := 33) (pc' := 37) rfl (hb hby at_33) (by decide) (by decide) ?_
          exact kt)
      exact ⟨(1 : Int32), pre109⟩
  obtain ⟨T110, h110, X110, e110, E110, A110, D110, -, st110⟩ := newO X0 hx hZ hown (hw _ (List.mem_of_getElem? (i := 0) rfl)) (hw _ (List.mem_of_getElem? (i := 1) rfl)) (hw _ (List.mem_of_getElem? (i := 2) rfl)) e0 (g := (mkF m 39 #[.val (.int p1), .val (.int p2), .val (.int p3), .val (.int p4), .val (.int p5), .val (.int cap), .val (.int (Int32.ofNat kn)), .val (.int fi), .unset, .unset, .unset, .unset, .unset] [])) rfl (hb hby at_39) (by decide) (by decide)
  obtain ⟨b110, g110⟩ : ∃ z, z = h0.size := ⟨_, rfl⟩
  rw [← g110] at A110 D110 st110
  have g_b110 : n0 ≤ b110 := Nat.le_trans Z0 (Nat.le_of_eq g110.symm)
  have z111 : n0 ≤ h110.size := Nat.le_trans Z0 E110.1
  have F110_34 : Fld Z h110 b110 "com/example/attacca/attacca/DecimatingBuffer" "stages" "Ljava/util/List;" .null := D110 (Or.inr (hw _ (List.mem_of_getElem? (i := 34) rfl))) (ty := (.object "java/util/List")) (by decide)
  have F110_36 : Fld Z h110 b110 "com/example/attacca/attacca/DecimatingBuffer" "capacity" "I" (.int (0 : Int32)) := D110 (Or.inr (hw _ (List.mem_of_getElem? (i := 36) rfl))) (ty := .int) (by decide)
  have F110_43 : Fld Z h110 b110 "com/example/attacca/attacca/DecimatingBuffer" "values" "[D" .null := D110 (Or.inl (hw _ (List.mem_of_getElem? (i := 43) rfl))) (ty := (.array .double)) (by decide)
  have F110_70 : Fld Z h110 b110 "com/example/attacca/attacca/DecimatingBuffer" "count" "I" (.int (0 : Int32)) := D110 (Or.inl (hw _ (List.mem_of_getElem? (i := 70) rfl))) (ty := .int) (by decide)
  have f112 : Old Z n0 h110 := (P_O.ext E110)
  obtain ⟨_, _, ⟨T113, L113, kk113, nn113⟩, -, X113, ⟨Lc113, hQ113, l113, y113, z113⟩, st113⟩ := X110.specialBack hx (y := (⟨"com/example/attacca/attacca/DecimatingBuffer", "<init>", "(I)V"⟩ : MethodName)) rfl hown (mvT hZ (hw _ (List.mem_of_getElem? (i := 3) rfl))) (mvT hZ (hw _ (List.mem_of_getElem? (i := 4) rfl))) (mvT hZ (hw _ (List.mem_of_getElem? (i := 5) rfl))) (by decide) (backOf (W := 1) (rmctor l Z a0 hw [] b110 cap DC h110 n0 z111 A110 F110_34 F110_36 F110_43 F110_70 g_b110 (hcap) (Od) f112) hZ (hw _ (List.mem_of_getElem? (i := 5) rfl)) (hw _ (List.mem_of_getElem? (i := 2) rfl)) (by decide) (by decide)) (g := (mkF m 45 #[.val (.int p1), .val (.int p2), .val (.int p3), .val (.int p4), .val (.int p5), .val (.int cap), .val (.int (Int32.ofNat kn)), .val (.int fi), .unset, .unset, .unset, .unset, .unset] [(.int cap), (.ref b110), (.ref b110)])) rfl (by rw [hml]; rfl) (Steps.refl _) (a := b110) (argsL := [(.int cap)]) (rest := [(.ref b110)]) (lenOf pd__28I_29V rfl) rfl (by show 2 * 0 + _ ≤ _; exact Nat.le_of_eq rfl) (hb hby at_45) (fun _ _ => ⟨rfl, e110, (by decide : 1 + 2 ≤ _), (by decide : 4 + 4099 ≤ _)⟩)
  dsimp only [Pt.U, Pt.locs, Pt.cells, Pt.slots] at X113 l113 y113 z113 st113 hQ113
  subst l113 y113 z113
  obtain ⟨l1_113, v1_113, kv_113, rfl, N113q, K113, x113_0, x113_1, x113_2, x113_3, x113_4, x113_5, x113_6, x113_7, x113_8, x113_9⟩ := hQ113
  have N113 := Fr.app N0 N113q
  have ne114 : b110 ≠ l1_113 := Nat.ne_of_lt (Nat.lt_of_lt_of_le A110.lt x113_0)
  have g_l1_113 : n0 ≤ l1_113 := Nat.le_trans z111 x113_0
  have ne115 : b110 ≠ v1_113 := Nat.ne_of_lt (Nat.lt_of_lt_of_le A110.lt x113_1)
  have g_v1_113 : n0 ≤ v1_113 := Nat.le_trans z111 x113_1
  have z116 : n0 ≤ T113.heap.size := Nat.le_trans z111 K113.1
  have f117 : Exa Z T113.heap b110 "com/example/attacca/attacca/DecimatingBuffer" := (A110.keep K113)
  obtain ⟨cq118, kq118, q118a, q118b, q118c⟩ := isOf hZ rfl f117
  obtain ⟨_, _, ⟨T118, L118, kk118, nn118⟩, -, X118, ⟨Lc118, hQ118, l118, y118, z118⟩, st118⟩ := X113.virtualBack hx (y := (⟨"com/example/attacca/attacca/DecimatingBuffer", "stride", "()J"⟩ : MethodName)) (z := (⟨"com/example/attacca/attacca/DecimatingBuffer", "stride", "()J"⟩ : MethodName)) hown (mvT hZ (hw _ (List.mem_of_getElem? (i := 44) rfl))) (mvT hZ (hw _ (List.mem_of_getElem? (i := 45) rfl))) (notFace_of_selects (args := #[]) (mvT hZ (hw _ (List.mem_of_getElem? (i := 47) rfl)))) (mvT hZ (hw _ (List.mem_of_getElem? (i := 47) rfl))) (mvT hZ (hw _ (List.mem_of_getElem? (i := 46) rfl))) (by decide) (backOf (W := 0) (rmstride l Z a0 hw [] b110 l1_113 T113.heap n0 z116 f117 x113_3 x113_7 x113_8) hZ (hw _ (List.mem_of_getElem? (i := 48) rfl)) (hw _ (List.mem_of_getElem? (i := 2) rfl)) (by decide) (by decide)) q118a q118c (g := (mkF m 52 #[.val (.int p1), .val (.int p2), .val (.int p3), .val (.int p4), .val (.int p5), .val (.int cap), .val (.int (Int32.ofNat kn)), .val (.int fi), .val (.ref b110), .unset, .unset, .unset, .unset] [(.ref b110)])) rfl (by rw [hml]; rfl) (Steps.refl _) (argsL := []) (rest := []) (lenOf pd__28_29J rfl) rfl (by show 2 * 0 + _ ≤ _; exact Nat.le_of_eq rfl) (hb hby at_52) (fun _ _ => ⟨rfl, rfl, (by decide : 3 + 0 ≤ _), (by decide : 4103 + 0 ≤ _)⟩)
  dsimp only [Pt.U, Pt.locs, Pt.cells, Pt.slots] at X118 l118 y118 z118 st118 hQ118
  subst l118 y118 z118
  obtain ⟨rfl, N118q, e118⟩ := hQ118
  have N118 := Fr.app N113 N118q
  have pre119 : ∀ t_, Steps p.tables e below (T118.setTop (mkF m 59 #[.val (.int p1), .val (.int p2), .val (.int p3), .val (.int p4), .val (.int p5), .val (.int cap), .val (.int (Int32.ofNat kn)), .val (.int fi), .val (.ref b110), .val (.long (1 : Int64)), .second, .unset, .unset] [(.int (Int32.ofNat kn))])) t_ → Steps p.tables e below (s₁.setTop (entryFrame m #[(.int p1), (.int p2), (.int p3), (.int p4), (.int p5)] maxLocals)) t_ := fun t_ kt => pre106 t_ (by
      show Steps p.tables e below (s₁.setTop (mkF m 37 #[.val (.int p1), .val (.int p2), .val (.int p3), .val (.int p4), .val (.int p5), .val (.int cap), .val (.int (Int32.ofNat kn)), .unset, .unset, .unset, .unset, .unset, .unset] [(.int fi)])) _
      refine XS.istore X0.here hx rfl (hb hby at_37) rfl (l' := #[.val (.int p1), .val (.int p2), .val (.int p3), .val (.int p4), .val (.int p5), .val (.int cap), .val (.int (Int32.ofNat kn)), .val (.int fi), .unset, .unset, .unset, .unset, .unset]) rfl ?_
      show Steps p.tables e below (s₁.setTop (mkF m 39 #[.val (.int p1), .val (.int p2), .val (.int p3), .val (.int p4), .val (.int p5), .val (.int cap), .val (.int (Int32.ofNat kn)), .val (.int fi), .unset, .unset, .unset, .unset, .unset] [])) _
      refine st110 _ ?_
      show Steps p.tables e below (T110.setTop (mkF m 42 #[.val (.int p1), .val (.int p2), .val (.int p3), .val (.int p4), .val (.int p5), .val (.int cap), .val (.int (Int32.ofNat kn)), .val (.int fi), .unset, .unset, .unset, .unset, .unset] [(.ref b110)])) _
      refine XS.dup X110.here hx rfl (hb hby at_42) rfl rfl ?_
      show Steps p.tables e below (T110.setTop (mkF m 43 #[.val (.int p1), .val (.int p2), .val (.int p3), .val (.int p4), .val (.int p5), .val (.int cap), .val (.int (Int32.ofNat kn)), .val (.int fi), .unset, .unset, .unset, .unset, .unset] [(.ref b110), (.ref b110)])) _
      refine XS.iload X110.here hx rfl (hb hby at_43) rfl ?_
      show Steps p.tables e below (T110.setTop (mkF m 45 #[.val (.int p1), .val (.int p2), .val (.int p3), .val (.int p4), .val (.int p5), .val (.int cap), .val (.int (Int32.ofNat kn)), .val (.int fi), .unset, .unset, .unset, .unset, .unset] [(.int cap), (.ref b110), (.ref b110)])) _
      refine st113.trans ?_
      show Steps p.tables e below (T113.setTop (mkF m 48 #[.val (.int p1), .val (.int p2), .val (.int p3), .val (.int p4), .val (.int p5), .val (.int cap), .val (.int (Int32.ofNat kn)), .val (.int fi), .unset, .unset, .unset, .unset, .unset] [(.ref b110)])) _
      refine XS.astore X113.here hx rfl (hb hby at_48) rfl rfl (l' := #[.val (.int p1), .val (.int p2), .val (.int p3), .val (.int p4), .val (.int p5), .val (.int cap), .val (.int (Int32.ofNat kn)), .val (.int fi), .val (.ref b110), .unset, .unset, .unset, .unset]) rfl ?_
      show Steps p.tables e below (T113.setTop (mkF m 50 #[.val (.int p1), .val (.int p2), .val (.int p3), .val (.int p4), .val (.int p5), .val (.int cap), .val (.int (Int32.ofNat kn)), .val (.int fi), .val (.ref b110), .unset, .unset, .unset, .unset] [])) _
      refine XS.aload X113.here hx rfl (hb hby at_50) rfl rfl ?_
      show Steps p.tables e below (T113.setTop (mkF m 52 #[.val (.int p1), .val (.int p2), .val (.int p3), .val (.int p4), .val (.int p5), .val (.int cap), .val (.int (Int32.ofNat kn)), .val (.int fi), .val (.ref b110), .unset, .unset, .unset, .unset] [(.ref b110)])) _
      refine st118.trans ?_
      show Steps p.tables e below (T118.setTop (mkF m 55 #[.val (.int p1), .val (.int p2), .val (.int p3), .val (.int p4), .val (.int p5), .val (.int cap), .val (.int (Int32.ofNat kn)), .val (.int fi), .val (.ref b110), .unset, .unset, .unset, .unset] [(.long (1 : Int64))])) _
      refine XS.lstore X118.here hx rfl (hb hby at_55) rfl (l' := #[.val (.int p1), .val (.int p2), .val (.int p3), .val (.int p4), .val (.int p5), .val (.int cap), .val (.int (Int32.ofNat kn)), .val (.int fi), .val (.ref b110), .val (.long (1 : Int64)), .second, .unset, .unset]) rfl ?_
      show Steps p.tables e below (T118.setTop (mkF m 57 #[.val (.int p1), .val (.int p2), .val (.int p3), .val (.int p4), .val (.int p5), .val (.int cap), .val (.int (Int32.ofNat kn)), .val (.int fi), .val (.ref b110), .val (.long (1 : Int64)), .second, .unset, .unset] [])) _
      refine XS.iload X118.here hx rfl (hb hby at_57) rfl ?_
      exact kt)
  rcases (by omega : kn = 0 ∨ kn = 1 ∨ kn = 2 ∨ kn = 3 ∨ kn = 4 ∨ kn = 5 ∨ kn = 6 ∨ kn = 7) with hj | hj | hj | hj | hj | hj | hj | hj
  · skip
    have pre120 : ∀ t_, Steps p.tables e below (T118.setTop (mkF m 162 #[.val (.int p1), .val (.int p2), .val (.int p3), .val (.int p4), .val (.int p5), .val (.int cap), .val (.int (Int32.ofNat kn)), .val (.int fi), .val (.ref b110), .val (.long (1 : Int64)), .second, .unset, .unset] [(.int fi)])) t_ → Steps p.tables e below (s₁.setTop (entryFrame m #[(.int p1), (.int p2), (.int p3), (.int p4), (.int p5)] maxLocals)) t_ := fun t_ kt => pre119 t_ (by
        show Steps p.tables e below (T118.setTop (mkF m 59 #[.val (.int p1), .val (.int p2), .val (.int p3), .val (.int p4), .val (.int p5), .val (.int cap), .val (.int (Int32.ofNat kn)), .val (.int fi), .val (.ref b110), .val (.long (1 : Int64)), .second, .unset, .unset] [(.int (Int32.ofNat kn))])) _
        refine XS.ifYes X118.here hx rfl (pc0 := 59) (pc' := 69) rfl (hb hby at_59) rfl ((if0 _ _).trans (flt (nlt32 (i := 0) (n := kn) (by omega) (by omega) : ¬ ((0 : Int32) < (Int32.ofNat kn)))).2.2.2) (by decide) (by decide) ?_
        show Steps p.tables e below (T118.setTop (mkF m 69 #[.val (.int p1), .val (.int p2), .val (.int p3), .val (.int p4), .val (.int p5), .val (.int cap), .val (.int (Int32.ofNat kn)), .val (.int fi), .val (.ref b110), .val (.long (1 : Int64)), .second, .unset, .unset] [])) _
        refine XS.iload X118.here hx rfl (hb hby at_69) rfl ?_
        show Steps p.tables e below (T118.setTop (mkF m 71 #[.val (.int p1), .val (.int p2), .val (.int p3), .val (.int p4), .val (.int p5), .val (.int cap), .val (.int (Int32.ofNat kn)), .val (.int fi), .val (.ref b110), .val (.long (1 : Int64)), .second, .unset, .unset] [(.int (Int32.ofNat kn))])) _
        refine XS.iconst X118.here hx rfl (hb hby at_71) ?_
        show Steps p.tables e below (T118.setTop (mkF m 72 #[.val (.int p1), .val (.int p2), .val (.int p3), .val (.int p4), .val (.int p5), .val (.int cap), .val (.int (Int32.ofNat kn)), .val (.int fi), .val (.ref b110), .val (.long (1 : Int64)), .second, .unset, .unset] [(.int (1 : Int32)), (.int (Int32.ofNat kn))])) _
        refine XS.icmpYes X118.here hx rfl (pc0 := 72) (pc' := 82) rfl (hb hby at_72) rfl (flt (nlt32 (i := 1) (n := kn) (by omega) (by omega) : ¬ ((1 : Int32) < (Int32.ofNat kn)))).2.2.2 (by decide) (by decide) ?_
        show Steps p.tables e below (T118.setTop (mkF m 82 #[.val (.int p1), .val (.int p2), .val (.int p3), .val (.int p4), .val (.int p5), .val (.int cap), .val (.int (Int32.ofNat kn)), .val (.int fi), .val (.ref b110), .val (.long (1 : Int64)), .second, .unset, .unset] [])) _
        refine XS.iload X118.here hx rfl (hb hby at_82) rfl ?_
        show Steps p.tables e below (T118.setTop (mkF m 84 #[.val (.int p1), .val (.int p2), .val (.int p3), .val (.int p4), .val (.int p5), .val (.int cap), .val (.int (Int32.ofNat kn)), .val (.int fi), .val (.ref b110), .val (.long (1 : Int64)), .second, .unset, .unset] [(.int (Int32.ofNat kn))])) _
        refine XS.iconst X118.here hx rfl (hb hby at_84) ?_
        show Steps p.tables e below (T118.setTop (mkF m 85 #[.val (.int p1), .val (.int p2), .val (.int p3), .val (.int p4), .val (.int p5), .val (.int cap), .val (.int (Int32.ofNat kn)), .val (.int fi), .val (.ref b110), .val (.long (1 : Int64)), .second, .unset, .unset] [(.int (2 : Int32)), (.int (Int32.ofNat kn))])) _
        refine XS.icmpYes X118.here hx rfl (pc0 := 85) (pc' := 96) rfl (hb hby at_85) rfl (flt (nlt32 (i := 2) (n := kn) (by omega) (by omega) : ¬ ((2 : Int32) < (Int32.ofNat kn)))).2.2.2 (by decide) (by decide) ?_
        show Steps p.tables e below (T118.setTop (mkF m 96 #[.val (.int p1), .val (.int p2), .val (.int p3), .val (.int p4), .val (.int p5), .val (.int cap), .val (.int (Int32.ofNat kn)), .val (.int fi), .val (.ref b110), .val (.long (1 : Int64)), .second, .unset, .unset] [])) _
        refine XS.iload X118.here hx rfl (hb hby at_96) rfl ?_
        show Steps p.tables e below (T118.setTop (mkF m 98 #[.val (.int p1), .val (.int p2), .val (.int p3), .val (.int p4), .val (.int p5), .val (.int cap), .val (.int (Int32.ofNat kn)), .val (.int fi), .val (.ref b110), .val (.long (1 : Int64)), .second, .unset, .unset] [(.int (Int32.ofNat kn))])) _
        refine XS.iconst X118.here hx rfl (hb hby at_98) ?_
        show Steps p.tables e below (T118.setTop (mkF m 99 #[.val (.int p1), .val (.int p2), .val (.int p3), .val (.int p4), .val (.int p5), .val (.int cap), .val (.int (Int32.ofNat kn)), .val (.int fi), .val (.ref b110), .val (.long (1 : Int64)), .second, .unset, .unset] [(.int (3 : Int32)), (.int (Int32.ofNat kn))])) _
        refine XS.icmpYes X118.here hx rfl (pc0 := 99) (pc' := 111) rfl (hb hby at_99) rfl (flt (nlt32 (i := 3) (n := kn) (by omega) (by omega) : ¬ ((3 : Int32) < (Int32.ofNat kn)))).2.2.2 (by decide) (by decide) ?_
        show Steps p.tables e below (T118.setTop (mkF m 111 #[.val (.int p1), .val (.int p2), .val (.int p3), .val (.int p4), .val (.int p5), .val (.int cap), .val (.int (Int32.ofNat kn)), .val (.int fi), .val (.ref b110), .val (.long (1 : Int64)), .second, .unset, .unset] [])) _
        refine XS.iload X118.here hx rfl (hb hby at_111) rfl ?_
        show Steps p.tables e below (T118.setTop (mkF m 113 #[.val (.int p1), .val (.int p2), .val (.int p3), .val (.int p4), .val (.int p5), .val (.int cap), .val (.int (Int32.ofNat kn)), .val (.int fi), .val (.ref b110), .val (.long (1 : Int64)), .second, .unset, .unset] [(.int (Int32.ofNat kn))])) _
        refine XS.iconst X118.here hx rfl (hb hby at_113) ?_
        show Steps p.tables e below (T118.setTop (mkF m 114 #[.val (.int p1), .val (.int p2), .val (.int p3), .val (.int p4), .val (.int p5), .val (.int cap), .val (.int (Int32.ofNat kn)), .val (.int fi), .val (.ref b110), .val (.long (1 : Int64)), .second, .unset, .unset] [(.int (4 : Int32)), (.int (Int32.ofNat kn))])) _
        refine XS.icmpYes X118.here hx rfl (pc0 := 114) (pc' := 127) rfl (hb hby at_114) rfl (flt (nlt32 (i := 4) (n := kn) (by omega) (by omega) : ¬ ((4 : Int32) < (Int32.ofNat kn)))).2.2.2 (by decide) (by decide) ?_
        show Steps p.tables e below (T118.setTop (mkF m 127 #[.val (.int p1), .val (.int p2), .val (.int p3), .val (.int p4), .val (.int p5), .val (.int cap), .val (.int (Int32.ofNat kn)), .val (.int fi), .val (.ref b110), .val (.long (1 : Int64)), .second, .unset, .unset] [])) _
        refine XS.iload X118.here hx rfl (hb hby at_127) rfl ?_
        show Steps p.tables e below (T118.setTop (mkF m 129 #[.val (.int p1), .val (.int p2), .val (.int p3), .val (.int p4), .val (.int p5), .val (.int cap), .val (.int (Int32.ofNat kn)), .val (.int fi), .val (.ref b110), .val (.long (1 : Int64)), .second, .unset, .unset] [(.int (Int32.ofNat kn))])) _
        refine XS.iconst X118.here hx rfl (hb hby at_129) ?_
        show Steps p.tables e below (T118.setTop (mkF m 130 #[.val (.int p1), .val (.int p2), .val (.int p3), .val (.int p4), .val (.int p5), .val (.int cap), .val (.int (Int32.ofNat kn)), .val (.int fi), .val (.ref b110), .val (.long (1 : Int64)), .second, .unset, .unset] [(.int (5 : Int32)), (.int (Int32.ofNat kn))])) _
        refine XS.icmpYes X118.here hx rfl (pc0 := 130) (pc' := 143) rfl (hb hby at_130) rfl (flt (nlt32 (i := 5) (n := kn) (by omega) (by omega) : ¬ ((5 : Int32) < (Int32.ofNat kn)))).2.2.2 (by decide) (by decide) ?_
        show Steps p.tables e below (T118.setTop (mkF m 143 #[.val (.int p1), .val (.int p2), .val (.int p3), .val (.int p4), .val (.int p5), .val (.int cap), .val (.int (Int32.ofNat kn)), .val (.int fi), .val (.ref b110), .val (.long (1 : Int64)), .second, .unset, .unset] [])) _
        refine XS.iload X118.here hx rfl (hb hby at_143) rfl ?_
        show Steps p.tables e below (T118.setTop (mkF m 145 #[.val (.int p1), .val (.int p2), .val (.int p3), .val (.int p4), .val (.int p5), .val (.int cap), .val (.int (Int32.ofNat kn)), .val (.int fi), .val (.ref b110), .val (.long (1 : Int64)), .second, .unset, .unset] [(.int (Int32.ofNat kn))])) _
        refine XS.bipush X118.here hx rfl (hb hby at_145) ?_
        show Steps p.tables e below (T118.setTop (mkF m 147 #[.val (.int p1), .val (.int p2), .val (.int p3), .val (.int p4), .val (.int p5), .val (.int cap), .val (.int (Int32.ofNat kn)), .val (.int fi), .val (.ref b110), .val (.long (1 : Int64)), .second, .unset, .unset] [(.int (6 : Int32)), (.int (Int32.ofNat kn))])) _
        refine XS.icmpYes X118.here hx rfl (pc0 := 147) (pc' := 160) rfl (hb hby at_147) rfl (flt (nlt32 (i := 6) (n := kn) (by omega) (by omega) : ¬ ((6 : Int32) < (Int32.ofNat kn)))).2.2.2 (by decide) (by decide) ?_
        show Steps p.tables e below (T118.setTop (mkF m 160 #[.val (.int p1), .val (.int p2), .val (.int p3), .val (.int p4), .val (.int p5), .val (.int cap), .val (.int (Int32.ofNat kn)), .val (.int fi), .val (.ref b110), .val (.long (1 : Int64)), .second, .unset, .unset] [])) _
        refine XS.iload X118.here hx rfl (hb hby at_160) rfl ?_
        exact kt)
    by_cases hF : fi = (0 : Int32)
    · skip
      obtain ⟨cq121, kq121, q121a, q121b, q121c⟩ := isOf hZ e118 f117
      obtain ⟨_, _, ⟨T121, L121, kk121, nn121⟩, -, X121, ⟨Lc121, hQ121, l121, y121, z121⟩, st121⟩ := X118.virtualBack hx (y := (⟨"com/example/attacca/attacca/DecimatingBuffer", "stride", "()J"⟩ : MethodName)) (z := (⟨"com/example/attacca/attacca/DecimatingBuffer", "stride", "()J"⟩ : MethodName)) hown (mvT hZ (hw _ (List.mem_of_getElem? (i := 44) rfl))) (mvT hZ (hw _ (List.mem_of_getElem? (i := 45) rfl))) (notFace_of_selects (args := #[]) (mvT hZ (hw _ (List.mem_of_getElem? (i := 47) rfl)))) (mvT hZ (hw _ (List.mem_of_getElem? (i := 47) rfl))) (mvT hZ (hw _ (List.mem_of_getElem? (i := 46) rfl))) (by decide) (backOf (W := 0) (rmstride l Z a0 hw [] b110 l1_113 T113.heap n0 z116 f117 x113_3 x113_7 x113_8) hZ (hw _ (List.mem_of_getElem? (i := 48) rfl)) (hw _ (List.mem_of_getElem? (i := 2) rfl)) (by decide) (by decide)) q121a q121c (g := (mkF m 172 #[.val (.int p1), .val (.int p2), .val (.int p3), .val (.int p4), .val (.int p5), .val (.int cap), .val (.int (Int32.ofNat kn)), .val (.int fi), .val (.ref b110), .val (.long (1 : Int64)), .second, .unset, .unset] [(.ref b110)])) rfl (by rw [hml]; rfl) (Steps.refl _) (argsL := []) (rest := []) (lenOf pd__28_29J rfl) rfl (by show 2 * 0 + _ ≤ _; exact Nat.le_of_eq rfl) (hb hby at_172) (fun _ _ => ⟨rfl, e118, (by decide : 3 + 0 ≤ _), (by decide : 4103 + 0 ≤ _)⟩)
      dsimp only [Pt.U, Pt.locs, Pt.cells, Pt.slots] at X121 l121 y121 z121 st121 hQ121
      subst l121 y121 z121
      obtain ⟨rfl, N121q, e121⟩ := hQ121
      have N121 := Fr.app N118 N121q
      obtain ⟨cq122, kq122, q122a, q122b, q122c⟩ := isOf hZ e121 f117
      obtain ⟨_, _, ⟨T122, L122, kk122, nn122⟩, -, X122, ⟨Lc122, hQ122, l122, y122, z122⟩, st122⟩ := X121.virtualBack hx (y := (⟨"com/example/attacca/attacca/DecimatingBuffer", "count", "()I"⟩ : MethodName)) (z := (⟨"com/example/attacca/attacca/DecimatingBuffer", "count", "()I"⟩ : MethodName)) hown (mvT hZ (hw _ (List.mem_of_getElem? (i := 71) rfl))) (mvT hZ (hw _ (List.mem_of_getElem? (i := 72) rfl))) (notFace_of_selects (args := #[]) (mvT hZ (hw _ (List.mem_of_getElem? (i := 74) rfl)))) (mvT hZ (hw _ (List.mem_of_getElem? (i := 74) rfl))) (mvT hZ (hw _ (List.mem_of_getElem? (i := 73) rfl))) (by decide) (backOf (W := 0) (rmcount l Z a0 hw [] b110 0 T113.heap n0 z116 f117 x113_6) hZ (hw _ (List.mem_of_getElem? (i := 75) rfl)) (hw _ (List.mem_of_getElem? (i := 2) rfl)) (by decide) (by decide)) q122a q122c (g := (mkF m 193 #[.val (.int p1), .val (.int p2), .val (.int p3), .val (.int p4), .val (.int p5), .val (.int cap), .val (.int (Int32.ofNat kn)), .val (.int fi), .val (.ref b110), .val (.long (1 : Int64)), .second, .val (.long (1 : Int64)), .second] [(.ref b110)])) rfl (by rw [hml]; rfl) (Steps.refl _) (argsL := []) (rest := []) (lenOf pd__28_29I rfl) rfl (by show 2 * 0 + _ ≤ _; exact Nat.le_of_eq rfl) (hb hby at_193) (fun _ _ => ⟨rfl, e121, (by decide : 3 + 0 ≤ _), (by decide : 4103 + 0 ≤ _)⟩)
      dsimp only [Pt.U, Pt.locs, Pt.cells, Pt.slots] at X122 l122 y122 z122 st122 hQ122
      subst l122 y122 z122
      obtain ⟨rfl, N122q, e122⟩ := hQ122
      have N122 := Fr.app N121 N122q
      have pre123 : ∀ t_, Steps p.tables e below (T122.setTop (mkF m 206 #[.val (.int p1), .val (.int p2), .val (.int p3), .val (.int p4), .val (.int p5), .val (.int cap), .val (.int (Int32.ofNat kn)), .val (.int fi), .val (.ref b110), .val (.long (1 : Int64)), .second, .val (.long (1 : Int64)), .second] [(.int (1 : Int32))])) t_ → Steps p.tables e below (s₁.setTop (entryFrame m #[(.int p1), (.int p2), (.int p3), (.int p4), (.int p5)] maxLocals)) t_ := fun t_ kt => pre120 t_ (by
          show Steps p.tables e below (T118.setTop (mkF m 162 #[.val (.int p1), .val (.int p2), .val (.int p3), .val (.int p4), .val (.int p5), .val (.int cap), .val (.int (Int32.ofNat kn)), .val (.int fi), .val (.ref b110), .val (.long (1 : Int64)), .second, .unset, .unset] [(.int fi)])) _
          refine XS.ifYes X118.here hx rfl (pc0 := 162) (pc' := 170) rfl (hb hby at_162) rfl ((if0 _ _).trans (teq (hF : fi = (0 : Int32))).1) (by decide) (by decide) ?_
          show Steps p.tables e below (T118.setTop (mkF m 170 #[.val (.int p1), .val (.int p2), .val (.int p3), .val (.int p4), .val (.int p5), .val (.int cap), .val (.int (Int32.ofNat kn)), .val (.int fi), .val (.ref b110), .val (.long (1 : Int64)), .second, .unset, .unset] [])) _
          refine XS.aload X118.here hx rfl (hb hby at_170) rfl rfl ?_
          show Steps p.tables e below (T118.setTop (mkF m 172 #[.val (.int p1), .val (.int p2), .val (.int p3), .val (.int p4), .val (.int p5), .val (.int cap), .val (.int (Int32.ofNat kn)), .val (.int fi), .val (.ref b110), .val (.long (1 : Int64)), .second, .unset, .unset] [(.ref b110)])) _
          refine st121.trans ?_
          show Steps p.tables e below (T121.setTop (mkF m 175 #[.val (.int p1), .val (.int p2), .val (.int p3), .val (.int p4), .val (.int p5), .val (.int cap), .val (.int (Int32.ofNat kn)), .val (.int fi), .val (.ref b110), .val (.long (1 : Int64)), .second, .unset, .unset] [(.long (1 : Int64))])) _
          refine XS.lstore X121.here hx rfl (hb hby at_175) rfl (l' := #[.val (.int p1), .val (.int p2), .val (.int p3), .val (.int p4), .val (.int p5), .val (.int cap), .val (.int (Int32.ofNat kn)), .val (.int fi), .val (.ref b110), .val (.long (1 : Int64)), .second, .val (.long (1 : Int64)), .second]) rfl ?_
          show Steps p.tables e below (T121.setTop (mkF m 177 #[.val (.int p1), .val (.int p2), .val (.int p3), .val (.int p4), .val (.int p5), .val (.int cap), .val (.int (Int32.ofNat kn)), .val (.int fi), .val (.ref b110), .val (.long (1 : Int64)), .second, .val (.long (1 : Int64)), .second] [])) _
          refine XS.lload X121.here hx rfl (hb hby at_177) rfl ?_
          show Steps p.tables e below (T121.setTop (mkF m 179 #[.val (.int p1), .val (.int p2), .val (.int p3), .val (.int p4), .val (.int p5), .val (.int cap), .val (.int (Int32.ofNat kn)), .val (.int fi), .val (.ref b110), .val (.long (1 : Int64)), .second, .val (.long (1 : Int64)), .second] [(.long (1 : Int64))])) _
          refine XS.lconst X121.here hx rfl (hb hby at_179) ?_
          show Steps p.tables e below (T121.setTop (mkF m 180 #[.val (.int p1), .val (.int p2), .val (.int p3), .val (.int p4), .val (.int p5), .val (.int cap), .val (.int (Int32.ofNat kn)), .val (.int fi), .val (.ref b110), .val (.long (1 : Int64)), .second, .val (.long (1 : Int64)), .second] [(.long (1 : Int64)), (.long (1 : Int64))])) _
          refine XS.lcmp X121.here hx rfl (hb hby at_180) rfl ?_
          show Steps p.tables e below (T121.setTop (mkF m 181 #[.val (.int p1), .val (.int p2), .val (.int p3), .val (.int p4), .val (.int p5), .val (.int cap), .val (.int (Int32.ofNat kn)), .val (.int fi), .val (.ref b110), .val (.long (1 : Int64)), .second, .val (.long (1 : Int64)), .second] [(.int (lcmpW (1 : Int64) (1 : Int64)))])) _
          refine XS.ifNo X121.here hx rfl (hb hby at_181) rfl ((if0 _ _).trans (teq ((by decide) : (lcmpW (1 : Int64) (1 : Int64)) = (0 : Int32))).2) ?_
          show Steps p.tables e below (T121.setTop (mkF m 184 #[.val (.int p1), .val (.int p2), .val (.int p3), .val (.int p4), .val (.int p5), .val (.int cap), .val (.int (Int32.ofNat kn)), .val (.int fi), .val (.ref b110), .val (.long (1 : Int64)), .second, .val (.long (1 : Int64)), .second] [])) _
          refine XS.lload X121.here hx rfl (hb hby at_184) rfl ?_
          show Steps p.tables e below (T121.setTop (mkF m 186 #[.val (.int p1), .val (.int p2), .val (.int p3), .val (.int p4), .val (.int p5), .val (.int cap), .val (.int (Int32.ofNat kn)), .val (.int fi), .val (.ref b110), .val (.long (1 : Int64)), .second, .val (.long (1 : Int64)), .second] [(.long (1 : Int64))])) _
          refine XS.lconst X121.here hx rfl (hb hby at_186) ?_
          show Steps p.tables e below (T121.setTop (mkF m 187 #[.val (.int p1), .val (.int p2), .val (.int p3), .val (.int p4), .val (.int p5), .val (.int cap), .val (.int (Int32.ofNat kn)), .val (.int fi), .val (.ref b110), .val (.long (1 : Int64)), .second, .val (.long (1 : Int64)), .second] [(.long (1 : Int64)), (.long (1 : Int64))])) _
          refine XS.lcmp X121.here hx rfl (hb hby at_187) rfl ?_
          show Steps p.tables e below (T121.setTop (mkF m 188 #[.val (.int p1), .val (.int p2), .val (.int p3), .val (.int p4), .val (.int p5), .val (.int cap), .val (.int (Int32.ofNat kn)), .val (.int fi), .val (.ref b110), .val (.long (1 : Int64)), .second, .val (.long (1 : Int64)), .second] [(.int (lcmpW (1 : Int64) (1 : Int64)))])) _
          refine XS.ifNo X121.here hx rfl (hb hby at_188) rfl ((if0 _ _).trans (teq ((by decide) : (lcmpW (1 : Int64) (1 : Int64)) = (0 : Int32))).2) ?_
          show Steps p.tables e below (T121.setTop (mkF m 191 #[.val (.int p1), .val (.int p2), .val (.int p3), .val (.int p4), .val (.int p5), .val (.int cap), .val (.int (Int32.ofNat kn)), .val (.int fi), .val (.ref b110), .val (.long (1 : Int64)), .second, .val (.long (1 : Int64)), .second] [])) _
          refine XS.aload X121.here hx rfl (hb hby at_191) rfl rfl ?_
          show Steps p.tables e below (T121.setTop (mkF m 193 #[.val (.int p1), .val (.int p2), .val (.int p3), .val (.int p4), .val (.int p5), .val (.int cap), .val (.int (Int32.ofNat kn)), .val (.int fi), .val (.ref b110), .val (.long (1 : Int64)), .second, .val (.long (1 : Int64)), .second] [(.ref b110)])) _
          refine st122.trans ?_
          show Steps p.tables e below (T122.setTop (mkF m 196 #[.val (.int p1), .val (.int p2), .val (.int p3), .val (.int p4), .val (.int p5), .val (.int cap), .val (.int (Int32.ofNat kn)), .val (.int fi), .val (.ref b110), .val (.long (1 : Int64)), .second, .val (.long (1 : Int64)), .second] [(.int (Int32.ofNat 0))])) _
          refine XS.iload X122.here hx rfl (hb hby at_196) rfl ?_
          show Steps p.tables e below (T122.setTop (mkF m 198 #[.val (.int p1), .val (.int p2), .val (.int p3), .val (.int p4), .val (.int p5), .val (.int cap), .val (.int (Int32.ofNat kn)), .val (.int fi), .val (.ref b110), .val (.long (1 : Int64)), .second, .val (.long (1 : Int64)), .second] [(.int (Int32.ofNat kn)), (.int (Int32.ofNat 0))])) _
          refine XS.icmpNo X122.here hx rfl (hb hby at_198) rfl (teq ((congrArg Int32.ofNat hj.symm) : (Int32.ofNat 0) = (Int32.ofNat kn))).2 ?_
          show Steps p.tables e below (T122.setTop (mkF m 201 #[.val (.int p1), .val (.int p2), .val (.int p3), .val (.int p4), .val (.int p5), .val (.int cap), .val (.int (Int32.ofNat kn)), .val (.int fi), .val (.ref b110), .val (.long (1 : Int64)), .second, .val (.long (1 : Int64)), .second] [])) _
          refine XS.iconst X122.here hx rfl (hb hby at_201) ?_
          show Steps p.tables e below (T122.setTop (mkF m 202 #[.val (.int p1), .val (.int p2), .val (.int p3), .val (.int p4), .val (.int p5), .val (.int cap), .val (.int (Int32.ofNat kn)), .val (.int fi), .val (.ref b110), .val (.long (1 : Int64)), .second, .val (.long (1 : Int64)), .second] [(.int (1 : Int32))])) _
          refine XS.goto X122.here hx rfl (pc0 := 202) (pc' := 206) rfl (hb hby at_202) (by decide) (by decide) ?_
          exact kt)
      obtain ⟨fs, hr, hrun, hended, hW, hsame⟩ := X122.leave (v := some (.int (1 : Int32))) (fun h => by rw [Bd.returns] at h; cases h)
      refine ⟨_, _, pre123 _ ?_, hrun, hended, _, _, rfl, ?_, ⟨_, rfl⟩, hW, hsame.mono (by decide) (by decide)⟩
      · show Steps p.tables e below (T122.setTop (mkF m 206 #[.val (.int p1), .val (.int p2), .val (.int p3), .val (.int p4), .val (.int p5), .val (.int cap), .val (.int (Int32.ofNat kn)), .val (.int fi), .val (.ref b110), .val (.long (1 : Int64)), .second, .val (.long (1 : Int64)), .second] [(.int (1 : Int32))])) _
        exact retN X122 hx (t := .boolean) Bd.returns (by simp) (hb hby at_206) hr
      · show Q0 Z p1 p2 p3 p4 p5 DC h0 n0 _ T122.heap _
        rw [e122]
        exact ⟨rfl, N122⟩
    · skip
      obtain ⟨cq124, kq124, q124a, q124b, q124c⟩ := isOf hZ e118 f117
      obtain ⟨_, _, ⟨T124, L124, kk124, nn124⟩, -, X124, ⟨Lc124, hQ124, l124, y124, z124⟩, st124⟩ := X118.virtualBack hx (y := (⟨"com/example/attacca/attacca/DecimatingBuffer", "end", "()V"⟩ : MethodName)) (z := (⟨"com/example/attacca/attacca/DecimatingBuffer", "end", "()V"⟩ : MethodName)) hown (mvT hZ (hw _ (List.mem_of_getElem? (i := 76) rfl))) (mvT hZ (hw _ (List.mem_of_getElem? (i := 77) rfl))) (notFace_of_selects (args := #[]) (mvT hZ (hw _ (List.mem_of_getElem? (i := 79) rfl)))) (mvT hZ (hw _ (List.mem_of_getElem? (i := 79) rfl))) (mvT hZ (hw _ (List.mem_of_getElem? (i := 78) rfl))) (by decide) (backOf (W := 0) (rmend l Z a0 hw [] b110 l1_113 T113.heap n0 z116 f117 x113_3 x113_7 x113_8) hZ (hw _ (List.mem_of_getElem? (i := 80) rfl)) (hw _ (List.mem_of_getElem? (i := 2) rfl)) (by decide) (by decide)) q124a q124c (g := (mkF m 167 #[.val (.int p1), .val (.int p2), .val (.int p3), .val (.int p4), .val (.int p5), .val (.int cap), .val (.int (Int32.ofNat kn)), .val (.int fi), .val (.ref b110), .val (.long (1 : Int64)), .second, .unset, .unset] [(.ref b110)])) rfl (by rw [hml]; rfl) (Steps.refl _) (argsL := []) (rest := []) (lenOf pd__28_29V rfl) rfl (by show 2 * 0 + _ ≤ _; exact Nat.le_of_eq rfl) (hb hby at_167) (fun _ _ => ⟨rfl, e118, (by decide : 3 + 0 ≤ _), (by decide : 4103 + 0 ≤ _)⟩)
      dsimp only [Pt.U, Pt.locs, Pt.cells, Pt.slots] at X124 l124 y124 z124 st124 hQ124
      subst l124 y124 z124
      obtain ⟨rfl, N124q, e124⟩ := hQ124
      have N124 := Fr.app N118 N124q
      obtain ⟨cq125, kq125, q125a, q125b, q125c⟩ := isOf hZ e124 f117
      obtain ⟨_, _, ⟨T125, L125, kk125, nn125⟩, -, X125, ⟨Lc125, hQ125, l125, y125, z125⟩, st125⟩ := X124.virtualBack hx (y := (⟨"com/example/attacca/attacca/DecimatingBuffer", "stride", "()J"⟩ : MethodName)) (z := (⟨"com/example/attacca/attacca/DecimatingBuffer", "stride", "()J"⟩ : MethodName)) hown (mvT hZ (hw _ (List.mem_of_getElem? (i := 44) rfl))) (mvT hZ (hw _ (List.mem_of_getElem? (i := 45) rfl))) (notFace_of_selects (args := #[]) (mvT hZ (hw _ (List.mem_of_getElem? (i := 47) rfl)))) (mvT hZ (hw _ (List.mem_of_getElem? (i := 47) rfl))) (mvT hZ (hw _ (List.mem_of_getElem? (i := 46) rfl))) (by decide) (backOf (W := 0) (rmstride l Z a0 hw [] b110 l1_113 T113.heap n0 z116 f117 x113_3 x113_7 x113_8) hZ (hw _ (List.mem_of_getElem? (i := 48) rfl)) (hw _ (List.mem_of_getElem? (i := 2) rfl)) (by decide) (by decide)) q125a q125c (g := (mkF m 172 #[.val (.int p1), .val (.int p2), .val (.int p3), .val (.int p4), .val (.int p5), .val (.int cap), .val (.int (Int32.ofNat kn)), .val (.int fi), .val (.ref b110), .val (.long (1 : Int64)), .second, .unset, .unset] [(.ref b110)])) rfl (by rw [hml]; rfl) (Steps.refl _) (argsL := []) (rest := []) (lenOf pd__28_29J rfl) rfl (by show 2 * 0 + _ ≤ _; exact Nat.le_of_eq rfl) (hb hby at_172) (fun _ _ => ⟨rfl, e124, (by decide : 3 + 0 ≤ _), (by decide : 4103 + 0 ≤ _)⟩)
      dsimp only [Pt.U, Pt.locs, Pt.cells, Pt.slots] at X125 l125 y125 z125 st125 hQ125
      subst l125 y125 z125
      obtain ⟨rfl, N125q, e125⟩ := hQ125
      have N125 := Fr.app N124 N125q
      obtain ⟨cq126, kq126, q126a, q126b, q126c⟩ := isOf hZ e125 f117
      obtain ⟨_, _, ⟨T126, L126, kk126, nn126⟩, -, X126, ⟨Lc126, hQ126, l126, y126, z126⟩, st126⟩ := X125.virtualBack hx (y := (⟨"com/example/attacca/attacca/DecimatingBuffer", "count", "()I"⟩ : MethodName)) (z := (⟨"com/example/attacca/attacca/DecimatingBuffer", "count", "()I"⟩ : MethodName)) hown (mvT hZ (hw _ (List.mem_of_getElem? (i := 71) rfl))) (mvT hZ (hw _ (List.mem_of_getElem? (i := 72) rfl))) (notFace_of_selects (args := #[]) (mvT hZ (hw _ (List.mem_of_getElem? (i := 74) rfl)))) (mvT hZ (hw _ (List.mem_of_getElem? (i := 74) rfl))) (mvT hZ (hw _ (List.mem_of_getElem? (i := 73) rfl))) (by decide) (backOf (W := 0) (rmcount l Z a0 hw [] b110 0 T113.heap n0 z116 f117 x113_6) hZ (hw _ (List.mem_of_getElem? (i := 75) rfl)) (hw _ (List.mem_of_getElem? (i := 2) rfl)) (by decide) (by decide)) q126a q126c (g := (mkF m 193 #[.val (.int p1), .val (.int p2), .val (.int p3), .val (.int p4), .val (.int p5), .val (.int cap), .val (.int (Int32.ofNat kn)), .val (.int fi), .val (.ref b110), .val (.long (1 : Int64)), .second, .val (.long (1 : Int64)), .second] [(.ref b110)])) rfl (by rw [hml]; rfl) (Steps.refl _) (argsL := []) (rest := []) (lenOf pd__28_29I rfl) rfl (by show 2 * 0 + _ ≤ _; exact Nat.le_of_eq rfl) (hb hby at_193) (fun _ _ => ⟨rfl, e125, (by decide : 3 + 0 ≤ _), (by decide : 4103 + 0 ≤ _)⟩)
      dsimp only [Pt.U, Pt.locs, Pt.cells, Pt.slots] at X126 l126 y126 z126 st126 hQ126
      subst l126 y126 z126
      obtain ⟨rfl, N126q, e126⟩ := hQ126
      have N126 := Fr.app N125 N126q
      have pre127 : ∀ t_, Steps p.tables e below (T126.setTop (mkF m 206 #[.val (.int p1), .val (.int p2), .val (.int p3), .val (.int p4), .val (.int p5), .val (.int cap), .val (.int (Int32.ofNat kn)), .val (.int fi), .val (.ref b110), .val (.long (1 : Int64)), .second, .val (.long (1 : Int64)), .second] [(.int (1 : Int32))])) t_ → Steps p.tables e below (s₁.setTop (entryFrame m #[(.int p1), (.int p2), (.int p3), (.int p4), (.int p5)] maxLocals)) t_ := fun t_ kt => pre120 t_ (by
          show Steps p.tables e below (T118.setTop (mkF m 162 #[.val (.int p1), .val (.int p2), .val (.int p3), .val (.int p4), .val (.int p5), .val (.int cap), .val (.int (Int32.ofNat kn)), .val (.int fi), .val (.ref b110), .val (.long (1 : Int64)), .second, .unset, .unset] [(.int fi)])) _
          refine XS.ifNo X118.here hx rfl (hb hby at_162) rfl ((if0 _ _).trans (feq (hF : ¬ (fi = (0 : Int32)))).1) ?_
          show Steps p.tables e below (T118.setTop (mkF m 165 #[.val (.int p1), .val (.int p2), .val (.int p3), .val (.int p4), .val (.int p5), .val (.int cap), .val (.int (Int32.ofNat kn)), .val (.int fi), .val (.ref b110), .val (.long (1 : Int64)), .second, .unset, .unset] [])) _
          refine XS.aload X118.here hx rfl (hb hby at_165) rfl rfl ?_
          show Steps p.tables e below (T118.setTop (mkF m 167 #[.val (.int p1), .val (.int p2), .val (.int p3), .val (.int p4), .val (.int p5), .val (.int cap), .val (.int (Int32.ofNat kn)), .val (.int fi), .val (.ref b110), .val (.long (1 : Int64)), .second, .unset, .unset] [(.ref b110)])) _
          refine st124.trans ?_
          show Steps p.tables e below (T124.setTop (mkF m 170 #[.val (.int p1), .val (.int p2), .val (.int p3), .val (.int p4), .val (.int p5), .val (.int cap), .val (.int (Int32.ofNat kn)), .val (.int fi), .val (.ref b110), .val (.long (1 : Int64)), .second, .unset, .unset] [])) _
          refine XS.aload X124.here hx rfl (hb hby at_170) rfl rfl ?_
          show Steps p.tables e below (T124.setTop (mkF m 172 #[.val (.int p1), .val (.int p2), .val (.int p3), .val (.int p4), .val (.int p5), .val (.int cap), .val (.int (Int32.ofNat kn)), .val (.int fi), .val (.ref b110), .val (.long (1 : Int64)), .second, .unset, .unset] [(.ref b110)])) _
          refine st125.trans ?_
          show Steps p.tables e below (T125.setTop (mkF m 175 #[.val (.int p1), .val (.int p2), .val (.int p3), .val (.int p4), .val (.int p5), .val (.int cap), .val (.int (Int32.ofNat kn)), .val (.int fi), .val (.ref b110), .val (.long (1 : Int64)), .second, .unset, .unset] [(.long (1 : Int64))])) _
          refine XS.lstore X125.here hx rfl (hb hby at_175) rfl (l' := #[.val (.int p1), .val (.int p2), .val (.int p3), .val (.int p4), .val (.int p5), .val (.int cap), .val (.int (Int32.ofNat kn)), .val (.int fi), .val (.ref b110), .val (.long (1 : Int64)), .second, .val (.long (1 : Int64)), .second]) rfl ?_
          show Steps p.tables e below (T125.setTop (mkF m 177 #[.val (.int p1), .val (.int p2), .val (.int p3), .val (.int p4), .val (.int p5), .val (.int cap), .val (.int (Int32.ofNat kn)), .val (.int fi), .val (.ref b110), .val (.long (1 : Int64)), .second, .val (.long (1 : Int64)), .second] [])) _
          refine XS.lload X125.here hx rfl (hb hby at_177) rfl ?_
          show Steps p.tables e below (T125.setTop (mkF m 179 #[.val (.int p1), .val (.int p2), .val (.int p3), .val (.int p4), .val (.int p5), .val (.int cap), .val (.int (Int32.ofNat kn)), .val (.int fi), .val (.ref b110), .val (.long (1 : Int64)), .second, .val (.long (1 : Int64)), .second] [(.long (1 : Int64))])) _
          refine XS.lconst X125.here hx rfl (hb hby at_179) ?_
          show Steps p.tables e below (T125.setTop (mkF m 180 #[.val (.int p1), .val (.int p2), .val (.int p3), .val (.int p4), .val (.int p5), .val (.int cap), .val (.int (Int32.ofNat kn)), .val (.int fi), .val (.ref b110), .val (.long (1 : Int64)), .second, .val (.long (1 : Int64)), .second] [(.long (1 : Int64)), (.long (1 : Int64))])) _
          refine XS.lcmp X125.here hx rfl (hb hby at_180) rfl ?_
          show Steps p.tables e below (T125.setTop (mkF m 181 #[.val (.int p1), .val (.int p2), .val (.int p3), .val (.int p4), .val (.int p5), .val (.int cap), .val (.int (Int32.ofNat kn)), .val (.int fi), .val (.ref b110), .val (.long (1 : Int64)), .second, .val (.long (1 : Int64)), .second] [(.int (lcmpW (1 : Int64) (1 : Int64)))])) _
          refine XS.ifNo X125.here hx rfl (hb hby at_181) rfl ((if0 _ _).trans (teq ((by decide) : (lcmpW (1 : Int64) (1 : Int64)) = (0 : Int32))).2) ?_
          show Steps p.tables e below (T125.setTop (mkF m 184 #[.val (.int p1), .val (.int p2), .val (.int p3), .val (.int p4), .val (.int p5), .val (.int cap), .val (.int (Int32.ofNat kn)), .val (.int fi), .val (.ref b110), .val (.long (1 : Int64)), .second, .val (.long (1 : Int64)), .second] [])) _
          refine XS.lload X125.here hx rfl (hb hby at_184) rfl ?_
          show Steps p.tables e below (T125.setTop (mkF m 186 #[.val (.int p1), .val (.int p2), .val (.int p3), .val (.int p4), .val (.int p5), .val (.int cap), .val (.int (Int32.ofNat kn)), .val (.int fi), .val (.ref b110), .val (.long (1 : Int64)), .second, .val (.long (1 : Int64)), .second] [(.long (1 : Int64))])) _
          refine XS.lconst X125.here hx rfl (hb hby at_186) ?_
          show Steps p.tables e below (T125.setTop (mkF m 187 #[.val (.int p1), .val (.int p2), .val (.int p3), .val (.int p4), .val (.int p5), .val (.int cap), .val (.int (Int32.ofNat kn)), .val (.int fi), .val (.ref b110), .val (.long (1 : Int64)), .second, .val (.long (1 : Int64)), .second] [(.long (1 : Int64)), (.long (1 : Int64))])) _
          refine XS.lcmp X125.here hx rfl (hb hby at_187) rfl ?_
          show Steps p.tables e below (T125.setTop (mkF m 188 #[.val (.int p1), .val (.int p2), .val (.int p3), .val (.int p4), .val (.int p5), .val (.int cap), .val (.int (Int32.ofNat kn)), .val (.int fi), .val (.ref b110), .val (.long (1 : Int64)), .second, .val (.long (1 : Int64)), .second] [(.int (lcmpW (1 : Int64) (1 : Int64)))])) _
          refine XS.ifNo X125.here hx rfl (hb hby at_188) rfl ((if0 _ _).trans (teq ((by decide) : (lcmpW (1 : Int64) (1 : Int64)) = (0 : Int32))).2) ?_
          show Steps p.tables e below (T125.setTop (mkF m 191 #[.val (.int p1), .val (.int p2), .val (.int p3), .val (.int p4), .val (.int p5), .val (.int cap), .val (.int (Int32.ofNat kn)), .val (.int fi), .val (.ref b110), .val (.long (1 : Int64)), .second, .val (.long (1 : Int64)), .second] [])) _
          refine XS.aload X125.here hx rfl (hb hby at_191) rfl rfl ?_
          show Steps p.tables e below (T125.setTop (mkF m 193 #[.val (.int p1), .val (.int p2), .val (.int p3), .val (.int p4), .val (.int p5), .val (.int cap), .val (.int (Int32.ofNat kn)), .val (.int fi), .val (.ref b110), .val (.long (1 : Int64)), .second, .val (.long (1 : Int64)), .second] [(.ref b110)])) _
          refine st126.trans ?_
          show Steps p.tables e below (T126.setTop (mkF m 196 #[.val (.int p1), .val (.int p2), .val (.int p3), .val (.int p4), .val (.int p5), .val (.int cap), .val (.int (Int32.ofNat kn)), .val (.int fi), .val (.ref b110), .val (.long (1 : Int64)), .second, .val (.long (1 : Int64)), .second] [(.int (Int32.ofNat 0))])) _
          refine XS.iload X126.here hx rfl (hb hby at_196) rfl ?_
          show Steps p.tables e below (T126.setTop (mkF m 198 #[.val (.int p1), .val (.int p2), .val (.int p3), .val (.int p4), .val (.int p5), .val (.int cap), .val (.int (Int32.ofNat kn)), .val (.int fi), .val (.ref b110), .val (.long (1 : Int64)), .second, .val (.long (1 : Int64)), .second] [(.int (Int32.ofNat kn)), (.int (Int32.ofNat 0))])) _
          refine XS.icmpNo X126.here hx rfl (hb hby at_198) rfl (teq ((congrArg Int32.ofNat hj.symm) : (Int32.ofNat 0) = (Int32.ofNat kn))).2 ?_
          show Steps p.tables e below (T126.setTop (mkF m 201 #[.val (.int p1), .val (.int p2), .val (.int p3), .val (.int p4), .val (.int p5), .val (.int cap), .val (.int (Int32.ofNat kn)), .val (.int fi), .val (.ref b110), .val (.long (1 : Int64)), .second, .val (.long (1 : Int64)), .second] [])) _
          refine XS.iconst X126.here hx rfl (hb hby at_201) ?_
          show Steps p.tables e below (T126.setTop (mkF m 202 #[.val (.int p1), .val (.int p2), .val (.int p3), .val (.int p4), .val (.int p5), .val (.int cap), .val (.int (Int32.ofNat kn)), .val (.int fi), .val (.ref b110), .val (.long (1 : Int64)), .second, .val (.long (1 : Int64)), .second] [(.int (1 : Int32))])) _
          refine XS.goto X126.here hx rfl (pc0 := 202) (pc' := 206) rfl (hb hby at_202) (by decide) (by decide) ?_
          exact kt)
      obtain ⟨fs, hr, hrun, hended, hW, hsame⟩ := X126.leave (v := some (.int (1 : Int32))) (fun h => by rw [Bd.returns] at h; cases h)
      refine ⟨_, _, pre127 _ ?_, hrun, hended, _, _, rfl, ?_, ⟨_, rfl⟩, hW, hsame.mono (by decide) (by decide)⟩
      · show Steps p.tables e below (T126.setTop (mkF m 206 #[.val (.int p1), .val (.int p2), .val (.int p3), .val (.int p4), .val (.int p5), .val (.int cap), .val (.int (Int32.ofNat kn)), .val (.int fi), .val (.ref b110), .val (.long (1 : Int64)), .second, .val (.long (1 : Int64)), .second] [(.int (1 : Int32))])) _
        exact retN X126 hx (t := .boolean) Bd.returns (by simp) (hb hby at_206) hr
      · show Q0 Z p1 p2 p3 p4 p5 DC h0 n0 _ T126.heap _
        rw [e126]
        exact ⟨rfl, N126⟩
  · skip
    obtain ⟨cq128, kq128, q128a, q128b, q128c⟩ := isOf hZ e118 f117
    obtain ⟨_, _, ⟨T128, L128, kk128, nn128⟩, -, X128, ⟨Lc128, hQ128, l128, y128, z128⟩, st128⟩ := X118.virtualBack hx (y := (⟨"com/example/attacca/attacca/DecimatingBuffer", "accept", "(D)V"⟩ : MethodName)) (z := (⟨"com/example/attacca/attacca/DecimatingBuffer", "accept", "(D)V"⟩ : MethodName)) hown (mvT hZ (hw _ (List.mem_of_getElem? (i := 60) rfl))) (mvT hZ (hw _ (List.mem_of_getElem? (i := 61) rfl))) (notFace_of_selects (args := #[]) (mvT hZ (hw _ (List.mem_of_getElem? (i := 63) rfl)))) (mvT hZ (hw _ (List.mem_of_getElem? (i := 63) rfl))) (mvT hZ (hw _ (List.mem_of_getElem? (i := 62) rfl))) (by decide) (backOf (W := 0) (rmacc l Z a0 hw [] b110 (FP.i2d p3) l1_113 v1_113 kv_113 cap (List.replicate 7 (Value.double 0)) 0 T113.heap n0 z116 f117 x113_3 x113_4 x113_5 x113_6 x113_7 x113_8 x113_9 g_b110 g_v1_113 ne115 ne114 x113_2 (hcap) (by decide) (by simp only [List.length_set, List.length_replicate])) hZ (hw _ (List.mem_of_getElem? (i := 64) rfl)) (hw _ (List.mem_of_getElem? (i := 2) rfl)) (by decide) (by decide)) q128a q128c (g := (mkF m 66 #[.val (.int p1), .val (.int p2), .val (.int p3), .val (.int p4), .val (.int p5), .val (.int cap), .val (.int (Int32.ofNat kn)), .val (.int fi), .val (.ref b110), .val (.long (1 : Int64)), .second, .unset, .unset] [(.double (FP.i2d p3)), (.ref b110)])) rfl (by rw [hml]; rfl) (Steps.refl _) (argsL := [(.double (FP.i2d p3))]) (rest := []) (lenOf pd__28D_29V rfl) rfl (by show 2 * 0 + _ ≤ _; exact Nat.le_of_eq rfl) (hb hby at_66) (fun _ _ => ⟨rfl, e118, (by decide : 3 + 0 ≤ _), (by decide : 4103 + 0 ≤ _)⟩)
    dsimp only [Pt.U, Pt.locs, Pt.cells, Pt.slots] at X128 l128 y128 z128 st128 hQ128
    subst l128 y128 z128
    obtain ⟨rfl, N128q, K128, x128_0, x128_1, x128_2, x128_3, x128_4⟩ := hQ128
    have N128 := Fr.app N118 N128q
    have z129 : n0 ≤ T128.heap.size := Nat.le_trans z116 K128.1
    have pre130 : ∀ t_, Steps p.tables e below (T128.setTop (mkF m 162 #[.val (.int p1), .val (.int p2), .val (.int p3), .val (.int p4), .val (.int p5), .val (.int cap), .val (.int (Int32.ofNat kn)), .val (.int fi), .val (.ref b110), .val (.long (1 : Int64)), .second, .unset, .unset] [(.int fi)])) t_ → Steps p.tables e below (s₁.setTop (entryFrame m #[(.int p1), (.int p2), (.int p3), (.int p4), (.int p5)] maxLocals)) t_ := fun t_ kt => pre119 t_ (by
        show Steps p.tables e below (T118.setTop (mkF m 59 #[.val (.int p1), .val (.int p2), .val (.int p3), .val (.int p4), .val (.int p5), .val (.int cap), .val (.int (Int32.ofNat kn)), .val (.int fi), .val (.ref b110), .val (.long (1 : Int64)), .second, .unset, .unset] [(.int (Int32.ofNat kn))])) _
        refine XS.ifNo X118.here hx rfl (hb hby at_59) rfl ((if0 _ _).trans (tlt (lt32 (i := 0) (n := kn) (by omega) (by omega) : (0 : Int32) < (Int32.ofNat kn))).2.2.2) ?_
        show Steps p.tables e below (T118.setTop (mkF m 62 #[.val (.int p1), .val (.int p2), .val (.int p3), .val (.int p4), .val (.int p5), .val (.int cap), .val (.int (Int32.ofNat kn)), .val (.int fi), .val (.ref b110), .val (.long (1 : Int64)), .second, .unset, .unset] [])) _
        refine XS.aload X118.here hx rfl (hb hby at_62) rfl rfl ?_
        show Steps p.tables e below (T118.setTop (mkF m 64 #[.val (.int p1), .val (.int p2), .val (.int p3), .val (.int p4), .val (.int p5), .val (.int cap), .val (.int (Int32.ofNat kn)), .val (.int fi), .val (.ref b110), .val (.long (1 : Int64)), .second, .unset, .unset] [(.ref b110)])) _
        refine XS.iloadN X118.here hx rfl (hb hby at_64) rfl ?_
        show Steps p.tables e below (T118.setTop (mkF m 65 #[.val (.int p1), .val (.int p2), .val (.int p3), .val (.int p4), .val (.int p5), .val (.int cap), .val (.int (Int32.ofNat kn)), .val (.int fi), .val (.ref b110), .val (.long (1 : Int64)), .second, .unset, .unset] [(.int p3), (.ref b110)])) _
        refine XS.i2dS X118.here hx rfl (hb hby at_65) rfl (v := (FP.i2d p3)) rfl ?_
        show Steps p.tables e below (T118.setTop (mkF m 66 #[.val (.int p1), .val (.int p2), .val (.int p3), .val (.int p4), .val (.int p5), .val (.int cap), .val (.int (Int32.ofNat kn)), .val (.int fi), .val (.ref b110), .val (.long (1 : Int64)), .second, .unset, .unset] [(.double (FP.i2d p3)), (.ref b110)])) _
        refine st128.trans ?_
        show Steps p.tables e below (T128.setTop (mkF m 69 #[.val (.int p1), .val (.int p2), .val (.int p3), .val (.int p4), .val (.int p5), .val (.int cap), .val (.int (Int32.ofNat kn)), .val (.int fi), .val (.ref b110), .val (.long (1 : Int64)), .second, .unset, .unset] [])) _
        refine XS.iload X128.here hx rfl (hb hby at_69) rfl ?_
        show Steps p.tables e below (T128.setTop (mkF m 71 #[.val (.int p1), .val (.int p2), .val (.int p3), .val (.int p4), .val (.int p5), .val (.int cap), .val (.int (Int32.ofNat kn)), .val (.int fi), .val (.ref b110), .val (.long (1 : Int64)), .second, .unset, .unset] [(.int (Int32.ofNat kn))])) _
        refine XS.iconst X128.here hx rfl (hb hby at_71) ?_
        show Steps p.tables e below (T128.setTop (mkF m 72 #[.val (.int p1), .val (.int p2), .val (.int p3), .val (.int p4), .val (.int p5), .val (.int cap), .val (.int (Int32.ofNat kn)), .val (.int fi), .val (.ref b110), .val (.long (1 : Int64)), .second, .unset, .unset] [(.int (1 : Int32)), (.int (Int32.ofNat kn))])) _
        refine XS.icmpYes X128.here hx rfl (pc0 := 72) (pc' := 82) rfl (hb hby at_72) rfl (flt (nlt32 (i := 1) (n := kn) (by omega) (by omega) : ¬ ((1 : Int32) < (Int32.ofNat kn)))).2.2.2 (by decide) (by decide) ?_
        show Steps p.tables e below (T128.setTop (mkF m 82 #[.val (.int p1), .val (.int p2), .val (.int p3), .val (.int p4), .val (.int p5), .val (.int cap), .val (.int (Int32.ofNat kn)), .val (.int fi), .val (.ref b110), .val (.long (1 : Int64)), .second, .unset, .unset] [])) _
        refine XS.iload X128.here hx rfl (hb hby at_82) rfl ?_
        show Steps p.tables e below (T128.setTop (mkF m 84 #[.val (.int p1), .val (.int p2), .val (.int p3), .val (.int p4), .val (.int p5), .val (.int cap), .val (.int (Int32.ofNat kn)), .val (.int fi), .val (.ref b110), .val (.long (1 : Int64)), .second, .unset, .unset] [(.int (Int32.ofNat kn))])) _
        refine XS.iconst X128.here hx rfl (hb hby at_84) ?_
        show Steps p.tables e below (T128.setTop (mkF m 85 #[.val (.int p1), .val (.int p2), .val (.int p3), .val (.int p4), .val (.int p5), .val (.int cap), .val (.int (Int32.ofNat kn)), .val (.int fi), .val (.ref b110), .val (.long (1 : Int64)), .second, .unset, .unset] [(.int (2 : Int32)), (.int (Int32.ofNat kn))])) _
        refine XS.icmpYes X128.here hx rfl (pc0 := 85) (pc' := 96) rfl (hb hby at_85) rfl (flt (nlt32 (i := 2) (n := kn) (by omega) (by omega) : ¬ ((2 : Int32) < (Int32.ofNat kn)))).2.2.2 (by decide) (by decide) ?_
        show Steps p.tables e below (T128.setTop (mkF m 96 #[.val (.int p1), .val (.int p2), .val (.int p3), .val (.int p4), .val (.int p5), .val (.int cap), .val (.int (Int32.ofNat kn)), .val (.int fi), .val (.ref b110), .val (.long (1 : Int64)), .second, .unset, .unset] [])) _
        refine XS.iload X128.here hx rfl (hb hby at_96) rfl ?_
        show Steps p.tables e below (T128.setTop (mkF m 98 #[.val (.int p1), .val (.int p2), .val (.int p3), .val (.int p4), .val (.int p5), .val (.int cap), .val (.int (Int32.ofNat kn)), .val (.int fi), .val (.ref b110), .val (.long (1 : Int64)), .second, .unset, .unset] [(.int (Int32.ofNat kn))])) _
        refine XS.iconst X128.here hx rfl (hb hby at_98) ?_
        show Steps p.tables e below (T128.setTop (mkF m 99 #[.val (.int p1), .val (.int p2), .val (.int p3), .val (.int p4), .val (.int p5), .val (.int cap), .val (.int (Int32.ofNat kn)), .val (.int fi), .val (.ref b110), .val (.long (1 : Int64)), .second, .unset, .unset] [(.int (3 : Int32)), (.int (Int32.ofNat kn))])) _
        refine XS.icmpYes X128.here hx rfl (pc0 := 99) (pc' := 111) rfl (hb hby at_99) rfl (flt (nlt32 (i := 3) (n := kn) (by omega) (by omega) : ¬ ((3 : Int32) < (Int32.ofNat kn)))).2.2.2 (by decide) (by decide) ?_
        show Steps p.tables e below (T128.setTop (mkF m 111 #[.val (.int p1), .val (.int p2), .val (.int p3), .val (.int p4), .val (.int p5), .val (.int cap), .val (.int (Int32.ofNat kn)), .val (.int fi), .val (.ref b110), .val (.long (1 : Int64)), .second, .unset, .unset] [])) _
        refine XS.iload X128.here hx rfl (hb hby at_111) rfl ?_
        show Steps p.tables e below (T128.setTop (mkF m 113 #[.val (.int p1), .val (.int p2), .val (.int p3), .val (.int p4), .val (.int p5), .val (.int cap), .val (.int (Int32.ofNat kn)), .val (.int fi), .val (.ref b110), .val (.long (1 : Int64)), .second, .unset, .unset] [(.int (Int32.ofNat kn))])) _
        refine XS.iconst X128.here hx rfl (hb hby at_113) ?_
        show Steps p.tables e below (T128.setTop (mkF m 114 #[.val (.int p1), .val (.int p2), .val (.int p3), .val (.int p4), .val (.int p5), .val (.int cap), .val (.int (Int32.ofNat kn)), .val (.int fi), .val (.ref b110), .val (.long (1 : Int64)), .second, .unset, .unset] [(.int (4 : Int32)), (.int (Int32.ofNat kn))])) _
        refine XS.icmpYes X128.here hx rfl (pc0 := 114) (pc' := 127) rfl (hb hby at_114) rfl (flt (nlt32 (i := 4) (n := kn) (by omega) (by omega) : ¬ ((4 : Int32) < (Int32.ofNat kn)))).2.2.2 (by decide) (by decide) ?_
        show Steps p.tables e below (T128.setTop (mkF m 127 #[.val (.int p1), .val (.int p2), .val (.int p3), .val (.int p4), .val (.int p5), .val (.int cap), .val (.int (Int32.ofNat kn)), .val (.int fi), .val (.ref b110), .val (.long (1 : Int64)), .second, .unset, .unset] [])) _
        refine XS.iload X128.here hx rfl (hb hby at_127) rfl ?_
        show Steps p.tables e below (T128.setTop (mkF m 129 #[.val (.int p1), .val (.int p2), .val (.int p3), .val (.int p4), .val (.int p5), .val (.int cap), .val (.int (Int32.ofNat kn)), .val (.int fi), .val (.ref b110), .val (.long (1 : Int64)), .second, .unset, .unset] [(.int (Int32.ofNat kn))])) _
        refine XS.iconst X128.here hx rfl (hb hby at_129) ?_
        show Steps p.tables e below (T128.setTop (mkF m 130 #[.val (.int p1), .val (.int p2), .val (.int p3), .val (.int p4), .val (.int p5), .val (.int cap), .val (.int (Int32.ofNat kn)), .val (.int fi), .val (.ref b110), .val (.long (1 : Int64)), .second, .unset, .unset] [(.int (5 : Int32)), (.int (Int32.ofNat kn))])) _
        refine XS.icmpYes X128.here hx rfl (pc0 := 130) (pc' := 143) rfl (hb hby at_130) rfl (flt (nlt32 (i := 5) (n := kn) (by omega) (by omega) : ¬ ((5 : Int32) < (Int32.ofNat kn)))).2.2.2 (by decide) (by decide) ?_
        show Steps p.tables e below (T128.setTop (mkF m 143 #[.val (.int p1), .val (.int p2), .val (.int p3), .val (.int p4), .val (.int p5), .val (.int cap), .val (.int (Int32.ofNat kn)), .val (.int fi), .val (.ref b110), .val (.long (1 : Int64)), .second, .unset, .unset] [])) _
        refine XS.iload X128.here hx rfl (hb hby at_143) rfl ?_
        show Steps p.tables e below (T128.setTop (mkF m 145 #[.val (.int p1), .val (.int p2), .val (.int p3), .val (.int p4), .val (.int p5), .val (.int cap), .val (.int (Int32.ofNat kn)), .val (.int fi), .val (.ref b110), .val (.long (1 : Int64)), .second, .unset, .unset] [(.int (Int32.ofNat kn))])) _
        refine XS.bipush X128.here hx rfl (hb hby at_145) ?_
        show Steps p.tables e below (T128.setTop (mkF m 147 #[.val (.int p1), .val (.int p2), .val (.int p3), .val (.int p4), .val (.int p5), .val (.int cap), .val (.int (Int32.ofNat kn)), .val (.int fi), .val (.ref b110), .val (.long (1 : Int64)), .second, .unset, .unset] [(.int (6 : Int32)), (.int (Int32.ofNat kn))])) _
        refine XS.icmpYes X128.here hx rfl (pc0 := 147) (pc' := 160) rfl (hb hby at_147) rfl (flt (nlt32 (i := 6) (n := kn) (by omega) (by omega) : ¬ ((6 : Int32) < (Int32.ofNat kn)))).2.2.2 (by decide) (by decide) ?_
        show Steps p.tables e below (T128.setTop (mkF m 160 #[.val (.int p1), .val (.int p2), .val (.int p3), .val (.int p4), .val (.int p5), .val (.int cap), .val (.int (Int32.ofNat kn)), .val (.int fi), .val (.ref b110), .val (.long (1 : Int64)), .second, .unset, .unset] [])) _
        refine XS.iload X128.here hx rfl (hb hby at_160) rfl ?_
        exact kt)
    by_cases hF : fi = (0 : Int32)
    · skip
      have f131 : Exa Z T128.heap b110 "com/example/attacca/attacca/DecimatingBuffer" := (f117.keep K128)
      have f132 : Exa Z T128.heap l1_113 "java/util/ArrayList" := (x113_7.keep K128)
      have f133 : Fld Z T128.heap l1_113 "java/util/ArrayList" "size" "I" (.int (0 : Int32)) := (x113_8.keep K128 (own_nmc (Ne.symm ne114) (own_nmc x113_2 own_nm0)))
      obtain ⟨cq134, kq134, q134a, q134b, q134c⟩ := isOf hZ rfl f131
      obtain ⟨_, _, ⟨T134, L134, kk134, nn134⟩, -, X134, ⟨Lc134, hQ134, l134, y134, z134⟩, st134⟩ := X128.virtualBack hx (y := (⟨"com/example/attacca/attacca/DecimatingBuffer", "stride", "()J"⟩ : MethodName)) (z := (⟨"com/example/attacca/attacca/DecimatingBuffer", "stride", "()J"⟩ : MethodName)) hown (mvT hZ (hw _ (List.mem_of_getElem? (i := 44) rfl))) (mvT hZ (hw _ (List.mem_of_getElem? (i := 45) rfl))) (notFace_of_selects (args := #[]) (mvT hZ (hw _ (List.mem_of_getElem? (i := 47) rfl)))) (mvT hZ (hw _ (List.mem_of_getElem? (i := 47) rfl))) (mvT hZ (hw _ (List.mem_of_getElem? (i := 46) rfl))) (by decide) (backOf (W := 0) (rmstride l Z a0 hw [] b110 l1_113 T128.heap n0 z129 f131 x128_0 f132 f133) hZ (hw _ (List.mem_of_getElem? (i := 48) rfl)) (hw _ (List.mem_of_getElem? (i := 2) rfl)) (by decide) (by decide)) q134a q134c (g := (mkF m 172 #[.val (.int p1), .val (.int p2), .val (.int p3), .val (.int p4), .val (.int p5), .val (.int cap), .val (.int (Int32.ofNat kn)), .val (.int fi), .val (.ref b110), .val (.long (1 : Int64)), .second, .unset, .unset] [(.ref b110)])) rfl (by rw [hml]; rfl) (Steps.refl _) (argsL := []) (rest := []) (lenOf pd__28_29J rfl) rfl (by show 2 * 0 + _ ≤ _; exact Nat.le_of_eq rfl) (hb hby at_172) (fun _ _ => ⟨rfl, rfl, (by decide : 3 + 0 ≤ _), (by decide : 4103 + 0 ≤ _)⟩)
      dsimp only [Pt.U, Pt.locs, Pt.cells, Pt.slots] at X134 l134 y134 z134 st134 hQ134
      subst l134 y134 z134
      obtain ⟨rfl, N134q, e134⟩ := hQ134
      have N134 := Fr.app N128 N134q
      obtain ⟨cq135, kq135, q135a, q135b, q135c⟩ := isOf hZ e134 f131
      obtain ⟨_, _, ⟨T135, L135, kk135, nn135⟩, -, X135, ⟨Lc135, hQ135, l135, y135, z135⟩, st135⟩ := X134.virtualBack hx (y := (⟨"com/example/attacca/attacca/DecimatingBuffer", "count", "()I"⟩ : MethodName)) (z := (⟨"com/example/attacca/attacca/DecimatingBuffer", "count", "()I"⟩ : MethodName)) hown (mvT hZ (hw _ (List.mem_of_getElem? (i := 71) rfl))) (mvT hZ (hw _ (List.mem_of_getElem? (i := 72) rfl))) (notFace_of_selects (args := #[]) (mvT hZ (hw _ (List.mem_of_getElem? (i := 74) rfl)))) (mvT hZ (hw _ (List.mem_of_getElem? (i := 74) rfl))) (mvT hZ (hw _ (List.mem_of_getElem? (i := 73) rfl))) (by decide) (backOf (W := 0) (rmcount l Z a0 hw [] b110 1 T128.heap n0 z129 f131 x128_3) hZ (hw _ (List.mem_of_getElem? (i := 75) rfl)) (hw _ (List.mem_of_getElem? (i := 2) rfl)) (by decide) (by decide)) q135a q135c (g := (mkF m 193 #[.val (.int p1), .val (.int p2), .val (.int p3), .val (.int p4), .val (.int p5), .val (.int cap), .val (.int (Int32.ofNat kn)), .val (.int fi), .val (.ref b110), .val (.long (1 : Int64)), .second, .val (.long (1 : Int64)), .second] [(.ref b110)])) rfl (by rw [hml]; rfl) (Steps.refl _) (argsL := []) (rest := []) (lenOf pd__28_29I rfl) rfl (by show 2 * 0 + _ ≤ _; exact Nat.le_of_eq rfl) (hb hby at_193) (fun _ _ => ⟨rfl, e134, (by decide : 3 + 0 ≤ _), (by decide : 4103 + 0 ≤ _)⟩)
      dsimp only [Pt.U, Pt.locs, Pt.cells, Pt.slots] at X135 l135 y135 z135 st135 hQ135
      subst l135 y135 z135
      obtain ⟨rfl, N135q, e135⟩ := hQ135
      have N135 := Fr.app N134 N135q
      have pre136 : ∀ t_, Steps p.tables e below (T135.setTop (mkF m 206 #[.val (.int p1), .val (.int p2), .val (.int p3), .val (.int p4), .val (.int p5), .val (.int cap), .val (.int (Int32.ofNat kn)), .val (.int fi), .val (.ref b110), .val (.long (1 : Int64)), .second, .val (.long (1 : Int64)), .second] [(.int (1 : Int32))])) t_ → Steps p.tables e below (s₁.setTop (entryFrame m #[(.int p1), (.int p2), (.int p3), (.int p4), (.int p5)] maxLocals)) t_ := fun t_ kt => pre130 t_ (by
          show Steps p.tables e below (T128.setTop (mkF m 162 #[.val (.int p1), .val (.int p2), .val (.int p3), .val (.int p4), .val (.int p5), .val (.int cap), .val (.int (Int32.ofNat kn)), .val (.int fi), .val (.ref b110), .val (.long (1 : Int64)), .second, .unset, .unset] [(.int fi)])) _
          refine XS.ifYes X128.here hx rfl (pc0 := 162) (pc' := 170) rfl (hb hby at_162) rfl ((if0 _ _).trans (teq (hF : fi = (0 : Int32))).1) (by decide) (by decide) ?_
          show Steps p.tables e below (T128.setTop (mkF m 170 #[.val (.int p1), .val (.int p2), .val (.int p3), .val (.int p4), .val (.int p5), .val (.int cap), .val (.int (Int32.ofNat kn)), .val (.int fi), .val (.ref b110), .val (.long (1 : Int64)), .second, .unset, .unset] [])) _
          refine XS.aload X128.here hx rfl (hb hby at_170) rfl rfl ?_
          show Steps p.tables e below (T128.setTop (mkF m 172 #[.val (.int p1), .val (.int p2), .val (.int p3), .val (.int p4), .val (.int p5), .val (.int cap), .val (.int (Int32.ofNat kn)), .val (.int fi), .val (.ref b110), .val (.long (1 : Int64)), .second, .unset, .unset] [(.ref b110)])) _
          refine st134.trans ?_
          show Steps p.tables e below (T134.setTop (mkF m 175 #[.val (.int p1), .val (.int p2), .val (.int p3), .val (.int p4), .val (.int p5), .val (.int cap), .val (.int (Int32.ofNat kn)), .val (.int fi), .val (.ref b110), .val (.long (1 : Int64)), .second, .unset, .unset] [(.long (1 : Int64))])) _
          refine XS.lstore X134.here hx rfl (hb hby at_175) rfl (l' := #[.val (.int p1), .val (.int p2), .val (.int p3), .val (.int p4), .val (.int p5), .val (.int cap), .val (.int (Int32.ofNat kn)), .val (.int fi), .val (.ref b110), .val (.long (1 : Int64)), .second, .val (.long (1 : Int64)), .second]) rfl ?_
          show Steps p.tables e below (T134.setTop (mkF m 177 #[.val (.int p1), .val (.int p2), .val (.int p3), .val (.int p4), .val (.int p5), .val (.int cap), .val (.int (Int32.ofNat kn)), .val (.int fi), .val (.ref b110), .val (.long (1 : Int64)), .second, .val (.long (1 : Int64)), .second] [])) _
          refine XS.lload X134.here hx rfl (hb hby at_177) rfl ?_
          show Steps p.tables e below (T134.setTop (mkF m 179 #[.val (.int p1), .val (.int p2), .val (.int p3), .val (.int p4), .val (.int p5), .val (.int cap), .val (.int (Int32.ofNat kn)), .val (.int fi), .val (.ref b110), .val (.long (1 : Int64)), .second, .val (.long (1 : Int64)), .second] [(.long (1 : Int64))])) _
          refine XS.lconst X134.here hx rfl (hb hby at_179) ?_
          show Steps p.tables e below (T134.setTop (mkF m 180 #[.val (.int p1), .val (.int p2), .val (.int p3), .val (.int p4), .val (.int p5), .val (.int cap), .val (.int (Int32.ofNat kn)), .val (.int fi), .val (.ref b110), .val (.long (1 : Int64)), .second, .val (.long (1 : Int64)), .second] [(.long (1 : Int64)), (.long (1 : Int64))])) _
          refine XS.lcmp X134.here hx rfl (hb hby at_180) rfl ?_
          show Steps p.tables e below (T134.setTop (mkF m 181 #[.val (.int p1), .val (.int p2), .val (.int p3), .val (.int p4), .val (.int p5), .val (.int cap), .val (.int (Int32.ofNat kn)), .val (.int fi), .val (.ref b110), .val (.long (1 : Int64)), .second, .val (.long (1 : Int64)), .second] [(.int (lcmpW (1 : Int64) (1 : Int64)))])) _
          refine XS.ifNo X134.here hx rfl (hb hby at_181) rfl ((if0 _ _).trans (teq ((by decide) : (lcmpW (1 : Int64) (1 : Int64)) = (0 : Int32))).2) ?_
          show Steps p.tables e below (T134.setTop (mkF m 184 #[.val (.int p1), .val (.int p2), .val (.int p3), .val (.int p4), .val (.int p5), .val (.int cap), .val (.int (Int32.ofNat kn)), .val (.int fi), .val (.ref b110), .val (.long (1 : Int64)), .second, .val (.long (1 : Int64)), .second] [])) _
          refine XS.lload X134.here hx rfl (hb hby at_184) rfl ?_
          show Steps p.tables e below (T134.setTop (mkF m 186 #[.val (.int p1), .val (.int p2), .val (.int p3), .val (.int p4), .val (.int p5), .val (.int cap), .val (.int (Int32.ofNat kn)), .val (.int fi), .val (.ref b110), .val (.long (1 : Int64)), .second, .val (.long (1 : Int64)), .second] [(.long (1 : Int64))])) _
          refine XS.lconst X134.here hx rfl (hb hby at_186) ?_
          show Steps p.tables e below (T134.setTop (mkF m 187 #[.val (.int p1), .val (.int p2), .val (.int p3), .val (.int p4), .val (.int p5), .val (.int cap), .val (.int (Int32.ofNat kn)), .val (.int fi), .val (.ref b110), .val (.long (1 : Int64)), .second, .val (.long (1 : Int64)), .second] [(.long (1 : Int64)), (.long (1 : Int64))])) _
          refine XS.lcmp X134.here hx rfl (hb hby at_187) rfl ?_
          show Steps p.tables e below (T134.setTop (mkF m 188 #[.val (.int p1), .val (.int p2), .val (.int p3), .val (.int p4), .val (.int p5), .val (.int cap), .val (.int (Int32.ofNat kn)), .val (.int fi), .val (.ref b110), .val (.long (1 : Int64)), .second, .val (.long (1 : Int64)), .second] [(.int (lcmpW (1 : Int64) (1 : Int64)))])) _
          refine XS.ifNo X134.here hx rfl (hb hby at_188) rfl ((if0 _ _).trans (teq ((by decide) : (lcmpW (1 : Int64) (1 : Int64)) = (0 : Int32))).2) ?_
          show Steps p.tables e below (T134.setTop (mkF m 191 #[.val (.int p1), .val (.int p2), .val (.int p3), .val (.int p4), .val (.int p5), .val (.int cap), .val (.int (Int32.ofNat kn)), .val (.int fi), .val (.ref b110), .val (.long (1 : Int64)), .second, .val (.long (1 : Int64)), .second] [])) _
          refine XS.aload X134.here hx rfl (hb hby at_191) rfl rfl ?_
          show Steps p.tables e below (T134.setTop (mkF m 193 #[.val (.int p1), .val (.int p2), .val (.int p3), .val (.int p4), .val (.int p5), .val (.int cap), .val (.int (Int32.ofNat kn)), .val (.int fi), .val (.ref b110), .val (.long (1 : Int64)), .second, .val (.long (1 : Int64)), .second] [(.ref b110)])) _
          refine st135.trans ?_
          show Steps p.tables e below (T135.setTop (mkF m 196 #[.val (.int p1), .val (.int p2), .val (.int p3), .val (.int p4), .val (.int p5), .val (.int cap), .val (.int (Int32.ofNat kn)), .val (.int fi), .val (.ref b110), .val (.long (1 : Int64)), .second, .val (.long (1 : Int64)), .second] [(.int (Int32.ofNat 1))])) _
          refine XS.iload X135.here hx rfl (hb hby at_196) rfl ?_
          show Steps p.tables e below (T135.setTop (mkF m 198 #[.val (.int p1), .val (.int p2), .val (.int p3), .val (.int p4), .val (.int p5), .val (.int cap), .val (.int (Int32.ofNat kn)), .val (.int fi), .val (.ref b110), .val (.long (1 : Int64)), .second, .val (.long (1 : Int64)), .second] [(.int (Int32.ofNat kn)), (.int (Int32.ofNat 1))])) _
          refine XS.icmpNo X135.here hx rfl (hb hby at_198) rfl (teq ((congrArg Int32.ofNat hj.symm) : (Int32.ofNat 1) = (Int32.ofNat kn))).2 ?_
          show Steps p.tables e below (T135.setTop (mkF m 201 #[.val (.int p1), .val (.int p2), .val (.int p3), .val (.int p4), .val (.int p5), .val (.int cap), .val (.int (Int32.ofNat kn)), .val (.int fi), .val (.ref b110), .val (.long (1 : Int64)), .second, .val (.long (1 : Int64)), .second] [])) _
          refine XS.iconst X135.here hx rfl (hb hby at_201) ?_
          show Steps p.tables e below (T135.setTop (mkF m 202 #[.val (.int p1), .val (.int p2), .val (.int p3), .val (.int p4), .val (.int p5), .val (.int cap), .val (.int (Int32.ofNat kn)), .val (.int fi), .val (.ref b110), .val (.long (1 : Int64)), .second, .val (.long (1 : Int64)), .second] [(.int (1 : Int32))])) _
          refine XS.goto X135.here hx rfl (pc0 := 202) (pc' := 206) rfl (hb hby at_202) (by decide) (by decide) ?_
          exact kt)
      obtain ⟨fs, hr, hrun, hended, hW, hsame⟩ := X135.leave (v := some (.int (1 : Int32))) (fun h => by rw [Bd.returns] at h; cases h)
      refine ⟨_, _, pre136 _ ?_, hrun, hended, _, _, rfl, ?_, ⟨_, rfl⟩, hW, hsame.mono (by decide) (by decide)⟩
      · show Steps p.tables e below (T135.setTop (mkF m 206 #[.val (.int p1), .val (.int p2), .val (.int p3), .val (.int p4), .val (.int p5), .val (.int cap), .val (.int (Int32.ofNat kn)), .val (.int fi), .val (.ref b110), .val (.long (1 : Int64)), .second, .val (.long (1 : Int64)), .second] [(.int (1 : Int32))])) _
        exact retN X135 hx (t := .boolean) Bd.returns (by simp) (hb hby at_206) hr
      · show Q0 Z p1 p2 p3 p4 p5 DC h0 n0 _ T135.heap _
        rw [e135]
        exact ⟨rfl, N135⟩
    · skip
      have f137 : Exa Z T128.heap b110 "com/example/attacca/attacca/DecimatingBuffer" := (f117.keep K128)
      have f138 : Exa Z T128.heap l1_113 "java/util/ArrayList" := (x113_7.keep K128)
      have f139 : Fld Z T128.heap l1_113 "java/util/ArrayList" "size" "I" (.int (0 : Int32)) := (x113_8.keep K128 (own_nmc (Ne.symm ne114) (own_nmc x113_2 own_nm0)))
      obtain ⟨cq140, kq140, q140a, q140b, q140c⟩ := isOf hZ rfl f137
      obtain ⟨_, _, ⟨T140, L140, kk140, nn140⟩, -, X140, ⟨Lc140, hQ140, l140, y140, z140⟩, st140⟩ := X128.virtualBack hx (y := (⟨"com/example/attacca/attacca/DecimatingBuffer", "end", "()V"⟩ : MethodName)) (z := (⟨"com/example/attacca/attacca/DecimatingBuffer", "end", "()V"⟩ : MethodName)) hown (mvT hZ (hw _ (List.mem_of_getElem? (i := 76) rfl))) (mvT hZ (hw _ (List.mem_of_getElem? (i := 77) rfl))) (notFace_of_selects (args := #[]) (mvT hZ (hw _ (List.mem_of_getElem? (i := 79) rfl)))) (mvT hZ (hw _ (List.mem_of_getElem? (i := 79) rfl))) (mvT hZ (hw _ (List.mem_of_getElem? (i := 78) rfl))) (by decide) (backOf (W := 0) (rmend l Z a0 hw [] b110 l1_113 T128.heap n0 z129 f137 x128_0 f138 f139) hZ (hw _ (List.mem_of_getElem? (i := 80) rfl)) (hw _ (List.mem_of_getElem? (i := 2) rfl)) (by decide) (by decide)) q140a q140c (g := (mkF m 167 #[.val (.int p1), .val (.int p2), .val (.int p3), .val (.int p4), .val (.int p5), .val (.int cap), .val (.int (Int32.ofNat kn)), .val (.int fi), .val (.ref b110), .val (.long (1 : Int64)), .second, .unset, .unset] [(.ref b110)])) rfl (by rw [hml]; rfl) (Steps.refl _) (argsL := []) (rest := []) (lenOf pd__28_29V rfl) rfl (by show 2 * 0 + _ ≤ _; exact Nat.le_of_eq rfl) (hb hby at_167) (fun _ _ => ⟨rfl, rfl, (by decide : 3 + 0 ≤ _), (by decide : 4103 + 0 ≤ _)⟩)
      dsimp only [Pt.U, Pt.locs, Pt.cells, Pt.slots] at X140 l140 y140 z140 st140 hQ140
      subst l140 y140 z140
      obtain ⟨rfl, N140q, e140⟩ := hQ140
      have N140 := Fr.app N128 N140q
      obtain ⟨cq141, kq141, q141a, q141b, q141c⟩ := isOf hZ e140 f137
      obtain ⟨_, _, ⟨T141, L141, kk141, nn141⟩, -, X141, ⟨Lc141, hQ141, l141, y141, z141⟩, st141⟩ := X140.virtualBack hx (y := (⟨"com/example/attacca/attacca/DecimatingBuffer", "stride", "()J"⟩ : MethodName)) (z := (⟨"com/example/attacca/attacca/DecimatingBuffer", "stride", "()J"⟩ : MethodName)) hown (mvT hZ (hw _ (List.mem_of_getElem? (i := 44) rfl))) (mvT hZ (hw _ (List.mem_of_getElem? (i := 45) rfl))) (notFace_of_selects (args := #[]) (mvT hZ (hw _ (List.mem_of_getElem? (i := 47) rfl)))) (mvT hZ (hw _ (List.mem_of_getElem? (i := 47) rfl))) (mvT hZ (hw _ (List.mem_of_getElem? (i := 46) rfl))) (by decide) (backOf (W := 0) (rmstride l Z a0 hw [] b110 l1_113 T128.heap n0 z129 f137 x128_0 f138 f139) hZ (hw _ (List.mem_of_getElem? (i := 48) rfl)) (hw _ (List.mem_of_getElem? (i := 2) rfl)) (by decide) (by decide)) q141a q141c (g := (mkF m 172 #[.val (.int p1), .val (.int p2), .val (.int p3), .val (.int p4), .val (.int p5), .val (.int cap), .val (.int (Int32.ofNat kn)), .val (.int fi), .val (.ref b110), .val (.long (1 : Int64)), .second, .unset, .unset] [(.ref b110)])) rfl (by rw [hml]; rfl) (Steps.refl _) (argsL := []) (rest := []) (lenOf pd__28_29J rfl) rfl (by show 2 * 0 + _ ≤ _; exact Nat.le_of_eq rfl) (hb hby at_172) (fun _ _ => ⟨rfl, e140, (by decide : 3 + 0 ≤ _), (by decide : 4103 + 0 ≤ _)⟩)
      dsimp only [Pt.U, Pt.locs, Pt.cells, Pt.slots] at X141 l141 y141 z141 st141 hQ141
      subst l141 y141 z141
      obtain ⟨rfl, N141q, e141⟩ := hQ141
      have N141 := Fr.app N140 N141q
      obtain ⟨cq142, kq142, q142a, q142b, q142c⟩ := isOf hZ e141 f137
      obtain ⟨_, _, ⟨T142, L142, kk142, nn142⟩, -, X142, ⟨Lc142, hQ142, l142, y142, z142⟩, st142⟩ := X141.virtualBack hx (y := (⟨"com/example/attacca/attacca/DecimatingBuffer", "count", "()I"⟩ : MethodName)) (z := (⟨"com/example/attacca/attacca/DecimatingBuffer", "count", "()I"⟩ : MethodName)) hown (mvT hZ (hw _ (List.mem_of_getElem? (i := 71) rfl))) (mvT hZ (hw _ (List.mem_of_getElem? (i := 72) rfl))) (notFace_of_selects (args := #[]) (mvT hZ (hw _ (List.mem_of_getElem? (i := 74) rfl)))) (mvT hZ (hw _ (List.mem_of_getElem? (i := 74) rfl))) (mvT hZ (hw _ (List.mem_of_getElem? (i := 73) rfl))) (by decide) (backOf (W := 0) (rmcount l Z a0 hw [] b110 1 T128.heap n0 z129 f137 x128_3) hZ (hw _ (List.mem_of_getElem? (i := 75) rfl)) (hw _ (List.mem_of_getElem? (i := 2) rfl)) (by decide) (by decide)) q142a q142c (g := (mkF m 193 #[.val (.int p1), .val (.int p2), .val (.int p3), .val (.int p4), .val (.int p5), .val (.int cap), .val (.int (Int32.ofNat kn)), .val (.int fi), .val (.ref b110), .val (.long (1 : Int64)), .second, .val (.long (1 : Int64)), .second] [(.ref b110)])) rfl (by rw [hml]; rfl) (Steps.refl _) (argsL := []) (rest := []) (lenOf pd__28_29I rfl) rfl (by show 2 * 0 + _ ≤ _; exact Nat.le_of_eq rfl) (hb hby at_193) (fun _ _ => ⟨rfl, e141, (by decide : 3 + 0 ≤ _), (by decide : 4103 + 0 ≤ _)⟩)
      dsimp only [Pt.U, Pt.locs, Pt.cells, Pt.slots] at X142 l142 y142 z142 st142 hQ142
      subst l142 y142 z142
      obtain ⟨rfl, N142q, e142⟩ := hQ142
      have N142 := Fr.app N141 N142q
      have pre143 : ∀ t_, Steps p.tables e below (T142.setTop (mkF m 206 #[.val (.int p1), .val (.int p2), .val (.int p3), .val (.int p4), .val (.int p5), .val (.int cap), .val (.int (Int32.ofNat kn)), .val (.int fi), .val (.ref b110), .val (.long (1 : Int64)), .second, .val (.long (1 : Int64)), .second] [(.int (1 : Int32))])) t_ → Steps p.tables e below (s₁.setTop (entryFrame m #[(.int p1), (.int p2), (.int p3), (.int p4), (.int p5)] maxLocals)) t_ := fun t_ kt => pre130 t_ (by
          show Steps p.tables e below (T128.setTop (mkF m 162 #[.val (.int p1), .val (.int p2), .val (.int p3), .val (.int p4), .val (.int p5), .val (.int cap), .val (.int (Int32.ofNat kn)), .val (.int fi), .val (.ref b110), .val (.long (1 : Int64)), .second, .unset, .unset] [(.int fi)])) _
          refine XS.ifNo X128.here hx rfl (hb hby at_162) rfl ((if0 _ _).trans (feq (hF : ¬ (fi = (0 : Int32)))).1) ?_
          show Steps p.tables e below (T128.setTop (mkF m 165 #[.val (.int p1), .val (.int p2), .val (.int p3), .val (.int p4), .val (.int p5), .val (.int cap), .val (.int (Int32.ofNat kn)), .val (.int fi), .val (.ref b110), .val (.long (1 : Int64)), .second, .unset, .unset] [])) _
          refine XS.aload X128.here hx rfl (hb hby at_165) rfl rfl ?_
          show Steps p.tables e below (T128.setTop (mkF m 167 #[.val (.int p1), .val (.int p2), .val (.int p3), .val (.int p4), .val (.int p5), .val (.int cap), .val (.int (Int32.ofNat kn)), .val (.int fi), .val (.ref b110), .val (.long (1 : Int64)), .second, .unset, .unset] [(.ref b110)])) _
          refine st140.trans ?_
          show Steps p.tables e below (T140.setTop (mkF m 170 #[.val (.int p1), .val (.int p2), .val (.int p3), .val (.int p4), .val (.int p5), .val (.int cap), .val (.int (Int32.ofNat kn)), .val (.int fi), .val (.ref b110), .val (.long (1 : Int64)), .second, .unset, .unset] [])) _
          refine XS.aload X140.here hx rfl (hb hby at_170) rfl rfl ?_
          show Steps p.tables e below (T140.setTop (mkF m 172 #[.val (.int p1), .val (.int p2), .val (.int p3), .val (.int p4), .val (.int p5), .val (.int cap), .val (.int (Int32.ofNat kn)), .val (.int fi), .val (.ref b110), .val (.long (1 : Int64)), .second, .unset, .unset] [(.ref b110)])) _
          refine st141.trans ?_
          show Steps p.tables e below (T141.setTop (mkF m 175 #[.val (.int p1), .val (.int p2), .val (.int p3), .val (.int p4), .val (.int p5), .val (.int cap), .val (.int (Int32.ofNat kn)), .val (.int fi), .val (.ref b110), .val (.long (1 : Int64)), .second, .unset, .unset] [(.long (1 : Int64))])) _
          refine XS.lstore X141.here hx rfl (hb hby at_175) rfl (l' := #[.val (.int p1), .val (.int p2), .val (.int p3), .val (.int p4), .val (.int p5), .val (.int cap), .val (.int (Int32.ofNat kn)), .val (.int fi), .val (.ref b110), .val (.long (1 : Int64)), .second, .val (.long (1 : Int64)), .second]) rfl ?_
          show Steps p.tables e below (T141.setTop (mkF m 177 #[.val (.int p1), .val (.int p2), .val (.int p3), .val (.int p4), .val (.int p5), .val (.int cap), .val (.int (Int32.ofNat kn)), .val (.int fi), .val (.ref b110), .val (.long (1 : Int64)), .second, .val (.long (1 : Int64)), .second] [])) _
          refine XS.lload X141.here hx rfl (hb hby at_177) rfl ?_
          show Steps p.tables e below (T141.setTop (mkF m 179 #[.val (.int p1), .val (.int p2), .val (.int p3), .val (.int p4), .val (.int p5), .val (.int cap), .val (.int (Int32.ofNat kn)), .val (.int fi), .val (.ref b110), .val (.long (1 : Int64)), .second, .val (.long (1 : Int64)), .second] [(.long (1 : Int64))])) _
          refine XS.lconst X141.here hx rfl (hb hby at_179) ?_
          show Steps p.tables e below (T141.setTop (mkF m 180 #[.val (.int p1), .val (.int p2), .val (.int p3), .val (.int p4), .val (.int p5), .val (.int cap), .val (.int (Int32.ofNat kn)), .val (.int fi), .val (.ref b110), .val (.long (1 : Int64)), .second, .val (.long (1 : Int64)), .second] [(.long (1 : Int64)), (.long (1 : Int64))])) _
          refine XS.lcmp X141.here hx rfl (hb hby at_180) rfl ?_
          show Steps p.tables e below (T141.setTop (mkF m 181 #[.val (.int p1), .val (.int p2), .val (.int p3), .val (.int p4), .val (.int p5), .val (.int cap), .val (.int (Int32.ofNat kn)), .val (.int fi), .val (.ref b110), .val (.long (1 : Int64)), .second, .val (.long (1 : Int64)), .second] [(.int (lcmpW (1 : Int64) (1 : Int64)))])) _
          refine XS.ifNo X141.here hx rfl (hb hby at_181) rfl ((if0 _ _).trans (teq ((by decide) : (lcmpW (1 : Int64) (1 : Int64)) = (0 : Int32))).2) ?_
          show Steps p.tables e below (T141.setTop (mkF m 184 #[.val (.int p1), .val (.int p2), .val (.int p3), .val (.int p4), .val (.int p5), .val (.int cap), .val (.int (Int32.ofNat kn)), .val (.int fi), .val (.ref b110), .val (.long (1 : Int64)), .second, .val (.long (1 : Int64)), .second] [])) _
          refine XS.lload X141.here hx rfl (hb hby at_184) rfl ?_
          show Steps p.tables e below (T141.setTop (mkF m 186 #[.val (.int p1), .val (.int p2), .val (.int p3), .val (.int p4), .val (.int p5), .val (.int cap), .val (.int (Int32.ofNat kn)), .val (.int fi), .val (.ref b110), .val (.long (1 : Int64)), .second, .val (.long (1 : Int64)), .second] [(.long (1 : Int64))])) _
          refine XS.lconst X141.here hx rfl (hb hby at_186) ?_
          show Steps p.tables e below (T141.setTop (mkF m 187 #[.val (.int p1), .val (.int p2), .val (.int p3), .val (.int p4), .val (.int p5), .val (.int cap), .val (.int (Int32.ofNat kn)), .val (.int fi), .val (.ref b110), .val (.long (1 : Int64)), .second, .val (.long (1 : Int64)), .second] [(.long (1 : Int64)), (.long (1 : Int64))])) _
          refine XS.lcmp X141.here hx rfl (hb hby at_187) rfl ?_
          show Steps p.tables e below (T141.setTop (mkF m 188 #[.val (.int p1), .val (.int p2), .val (.int p3), .val (.int p4), .val (.int p5), .val (.int cap), .val (.int (Int32.ofNat kn)), .val (.int fi), .val (.ref b110), .val (.long (1 : Int64)), .second, .val (.long (1 : Int64)), .second] [(.int (lcmpW (1 : Int64) (1 : Int64)))])) _
          refine XS.ifNo X141.here hx rfl (hb hby at_188) rfl ((if0 _ _).trans (teq ((by decide) : (lcmpW (1 : Int64) (1 : Int64)) = (0 : Int32))).2) ?_
          show Steps p.tables e below (T141.setTop (mkF m 191 #[.val (.int p1), .val (.int p2), .val (.int p3), .val (.int p4), .val (.int p5), .val (.int cap), .val (.int (Int32.ofNat kn)), .val (.int fi), .val (.ref b110), .val (.long (1 : Int64)), .second, .val (.long (1 : Int64)), .second] [])) _
          refine XS.aload X141.here hx rfl (hb hby at_191) rfl rfl ?_
          show Steps p.tables e below (T141.setTop (mkF m 193 #[.val (.int p1), .val (.int p2), .val (.int p3), .val (.int p4), .val (.int p5), .val (.int cap), .val (.int (Int32.ofNat kn)), .val (.int fi), .val (.ref b110), .val (.long (1 : Int64)), .second, .val (.long (1 : Int64)), .second] [(.ref b110)])) _
          refine st142.trans ?_
          show Steps p.tables e below (T142.setTop (mkF m 196 #[.val (.int p1), .val (.int p2), .val (.int p3), .val (.int p4), .val (.int p5), .val (.int cap), .val (.int (Int32.ofNat kn)), .val (.int fi), .val (.ref b110), .val (.long (1 : Int64)), .second, .val (.long (1 : Int64)), .second] [(.int (Int32.ofNat 1))])) _
          refine XS.iload X142.here hx rfl (hb hby at_196) rfl ?_
          show Steps p.tables e below (T142.setTop (mkF m 198 #[.val (.int p1), .val (.int p2), .val (.int p3), .val (.int p4), .val (.int p5), .val (.int cap), .val (.int (Int32.ofNat kn)), .val (.int fi), .val (.ref b110), .val (.long (1 : Int64)), .second, .val (.long (1 : Int64)), .second] [(.int (Int32.ofNat kn)), (.int (Int32.ofNat 1))])) _
          refine XS.icmpNo X142.here hx rfl (hb hby at_198) rfl (teq ((congrArg Int32.ofNat hj.symm) : (Int32.ofNat 1) = (Int32.ofNat kn))).2 ?_
          show Steps p.tables e below (T142.setTop (mkF m 201 #[.val (.int p1), .val (.int p2), .val (.int p3), .val (.int p4), .val (.int p5), .val (.int cap), .val (.int (Int32.ofNat kn)), .val (.int fi), .val (.ref b110), .val (.long (1 : Int64)), .second, .val (.long (1 : Int64)), .second] [])) _
          refine XS.iconst X142.here hx rfl (hb hby at_201) ?_
          show Steps p.tables e below (T142.setTop (mkF m 202 #[.val (.int p1), .val (.int p2), .val (.int p3), .val (.int p4), .val (.int p5), .val (.int cap), .val (.int (Int32.ofNat kn)), .val (.int fi), .val (.ref b110), .val (.long (1 : Int64)), .second, .val (.long (1 : Int64)), .second] [(.int (1 : Int32))])) _
          refine XS.goto X142.here hx rfl (pc0 := 202) (pc' := 206) rfl (hb hby at_202) (by decide) (by decide) ?_
          exact kt)
      obtain ⟨fs, hr, hrun, hended, hW, hsame⟩ := X142.leave (v := some (.int (1 : Int32))) (fun h => by rw [Bd.returns] at h; cases h)
      refine ⟨_, _, pre143 _ ?_, hrun, hended, _, _, rfl, ?_, ⟨_, rfl⟩, hW, hsame.mono (by decide) (by decide)⟩
      · show Steps p.tables e below (T142.setTop (mkF m 206 #[.val (.int p1), .val (.int p2), .val (.int p3), .val (.int p4), .val (.int p5), .val (.int cap), .val (.int (Int32.ofNat kn)), .val (.int fi), .val (.ref b110), .val (.long (1 : Int64)), .second, .val (.long (1 : Int64)), .second] [(.int (1 : Int32))])) _
        exact retN X142 hx (t := .boolean) Bd.returns (by simp) (hb hby at_206) hr
      · show Q0 Z p1 p2 p3 p4 p5 DC h0 n0 _ T142.heap _
        rw [e142]
        exact ⟨rfl, N142⟩
  · skip
    obtain ⟨cq144, kq144, q144a, q144b, q144c⟩ := isOf hZ e118 f117
    obtain ⟨_, _, ⟨T144, L144, kk144, nn144⟩, -, X144, ⟨Lc144, hQ144, l144, y144, z144⟩, st144⟩ := X118.virtualBack hx (y := (⟨"com/example/attacca/attacca/DecimatingBuffer", "accept", "(D)V"⟩ : MethodName)) (z := (⟨"com/example/attacca/attacca/DecimatingBuffer", "accept", "(D)V"⟩ : MethodName)) hown (mvT hZ (hw _ (List.mem_of_getElem? (i := 60) rfl))) (mvT hZ (hw _ (List.mem_of_getElem? (i := 61) rfl))) (notFace_of_selects (args := #[]) (mvT hZ (hw _ (List.mem_of_getElem? (i := 63) rfl)))) (mvT hZ (hw _ (List.mem_of_getElem? (i := 63) rfl))) (mvT hZ (hw _ (List.mem_of_getElem? (i := 62) rfl))) (by decide) (backOf (W := 0) (rmacc l Z a0 hw [] b110 (FP.i2d p3) l1_113 v1_113 kv_113 cap (List.replicate 7 (Value.double 0)) 0 T113.heap n0 z116 f117 x113_3 x113_4 x113_5 x113_6 x113_7 x113_8 x113_9 g_b110 g_v1_113 ne115 ne114 x113_2 (hcap) (by decide) (by simp only [List.length_set, List.length_replicate])) hZ (hw _ (List.mem_of_getElem? (i := 64) rfl)) (hw _ (List.mem_of_getElem? (i := 2) rfl)) (by decide) (by decide)) q144a q144c (g := (mkF m 66 #[.val (.int p1), .val (.int p2), .val (.int p3), .val (.int p4), .val (.int p5), .val (.int cap), .val (.int (Int32.ofNat kn)), .val (.int fi), .val (.ref b110), .val (.long (1 : Int64)), .second, .unset, .unset] [(.double (FP.i2d p3)), (.ref b110)])) rfl (by rw [hml]; rfl) (Steps.refl _) (argsL := [(.double (FP.i2d p3))]) (rest := []) (lenOf pd__28D_29V rfl) rfl (by show 2 * 0 + _ ≤ _; exact Nat.le_of_eq rfl) (hb hby at_66) (fun _ _ => ⟨rfl, e118, (by decide : 3 + 0 ≤ _), (by decide : 4103 + 0 ≤ _)⟩)
    dsimp only [Pt.U, Pt.locs, Pt.cells, Pt.slots] at X144 l144 y144 z144 st144 hQ144
    subst l144 y144 z144
    obtain ⟨rfl, N144q, K144, x144_0, x144_1, x144_2, x144_3, x144_4⟩ := hQ144
    have N144 := Fr.app N118 N144q
    have z145 : n0 ≤ T144.heap.size := Nat.le_trans z116 K144.1
    have f146 : Exa Z T144.heap b110 "com/example/attacca/attacca/DecimatingBuffer" := (f117.keep K144)
    have f147 : Exa Z T144.heap l1_113 "java/util/ArrayList" := (x113_7.keep K144)
    have f148 : Fld Z T144.heap l1_113 "java/util/ArrayList" "size" "I" (.int (0 : Int32)) := (x113_8.keep K144 (own_nmc (Ne.symm ne114) (own_nmc x113_2 own_nm0)))
    obtain ⟨cq149, kq149, q149a, q149b, q149c⟩ := isOf hZ rfl f146
    obtain ⟨_, _, ⟨T149, L149, kk149, nn149⟩, -, X149, ⟨Lc149, hQ149, l149, y149, z149⟩, st149⟩ := X144.virtualBack hx (y := (⟨"com/example/attacca/attacca/DecimatingBuffer", "accept", "(D)V"⟩ : MethodName)) (z := (⟨"com/example/attacca/attacca/DecimatingBuffer", "accept", "(D)V"⟩ : MethodName)) hown (mvT hZ (hw _ (List.mem_of_getElem? (i := 60) rfl))) (mvT hZ (hw _ (List.mem_of_getElem? (i := 61) rfl))) (notFace_of_selects (args := #[]) (mvT hZ (hw _ (List.mem_of_getElem? (i := 63) rfl)))) (mvT hZ (hw _ (List.mem_of_getElem? (i := 63) rfl))) (mvT hZ (hw _ (List.mem_of_getElem? (i := 62) rfl))) (by decide) (backOf (W := 0) (rmacc l Z a0 hw [] b110 (FP.i2d p4) l1_113 v1_113 kv_113 cap ((List.replicate 7 (Value.double 0)).set 0 (.double (FP.i2d p3))) 1 T144.heap n0 z145 f146 x144_0 x144_1 x144_2 x144_3 f147 f148 x144_4 g_b110 g_v1_113 ne115 ne114 x113_2 (hcap) (by decide) (by simp only [List.length_set, List.length_replicate])) hZ (hw _ (List.mem_of_getElem? (i := 64) rfl)) (hw _ (List.mem_of_getElem? (i := 2) rfl)) (by decide) (by decide)) q149a q149c (g := (mkF m 79 #[.val (.int p1), .val (.int p2), .val (.int p3), .val (.int p4), .val (.int p5), .val (.int cap), .val (.int (Int32.ofNat kn)), .val (.int fi), .val (.ref b110), .val (.long (1 : Int64)), .second, .unset, .unset] [(.double (FP.i2d p4)), (.ref b110)])) rfl (by rw [hml]; rfl) (Steps.refl _) (argsL := [(.double (FP.i2d p4))]) (rest := []) (lenOf pd__28D_29V rfl) rfl (by show 2 * 0 + _ ≤ _; exact Nat.le_of_eq rfl) (hb hby at_79) (fun _ _ => ⟨rfl, rfl, (by decide : 3 + 0 ≤ _), (by decide : 4103 + 0 ≤ _)⟩)
    dsimp only [Pt.U, Pt.locs, Pt.cells, Pt.slots] at X149 l149 y149 z149 st149 hQ149
    subst l149 y149 z149
    obtain ⟨rfl, N149q, K149, x149_0, x149_1, x149_2, x149_3, x149_4⟩ := hQ149
    have N149 := Fr.app N144 N149q
    have z150 : n0 ≤ T149.heap.size := Nat.le_trans z145 K149.1
    have pre151 : ∀ t_, Steps p.tables e below (T149.setTop (mkF m 162 #[.val (.int p1), .val (.int p2), .val (.int p3), .val (.int p4), .val (.int p5), .val (.int cap), .val (.int (Int32.ofNat kn)), .val (.int fi), .val (.ref b110), .val (.long (1 : Int64)), .second, .unset, .unset] [(.int fi)])) t_ → Steps p.tables e below (s₁.setTop (entryFrame m #[(.int p1), (.int p2), (.int p3), (.int p4), (.int p5)] maxLocals)) t_ := fun t_ kt => pre119 t_ (by
        show Steps p.tables e below (T118.setTop (mkF m 59 #[.val (.int p1), .val (.int p2), .val (.int p3), .val (.int p4), .val (.int p5), .val (.int cap), .val (.int (Int32.ofNat kn)), .val (.int fi), .val (.ref b110), .val (.long (1 : Int64)), .second, .unset, .unset] [(.int (Int32.ofNat kn))])) _
        refine XS.ifNo X118.here hx rfl (hb hby at_59) rfl ((if0 _ _).trans (tlt (lt32 (i := 0) (n := kn) (by omega) (by omega) : (0 : Int32) < (Int32.ofNat kn))).2.2.2) ?_
        show Steps p.tables e below (T118.setTop (mkF m 62 #[.val (.int p1), .val (.int p2), .val (.int p3), .val (.int p4), .val (.int p5), .val (.int cap), .val (.int (Int32.ofNat kn)), .val (.int fi), .val (.ref b110), .val (.long (1 : Int64)), .second, .unset, .unset] [])) _
        refine XS.aload X118.here hx rfl (hb hby at_62) rfl rfl ?_
        show Steps p.tables e below (T118.setTop (mkF m 64 #[.val (.int p1), .val (.int p2), .val (.int p3), .val (.int p4), .val (.int p5), .val (.int cap), .val (.int (Int32.ofNat kn)), .val (.int fi), .val (.ref b110), .val (.long (1 : Int64)), .second, .unset, .unset] [(.ref b110)])) _
        refine XS.iloadN X118.here hx rfl (hb hby at_64) rfl ?_
        show Steps p.tables e below (T118.setTop (mkF m 65 #[.val (.int p1), .val (.int p2), .val (.int p3), .val (.int p4), .val (.int p5), .val (.int cap), .val (.int (Int32.ofNat kn)), .val (.int fi), .val (.ref b110), .val (.long (1 : Int64)), .second, .unset, .unset] [(.int p3), (.ref b110)])) _
        refine XS.i2dS X118.here hx rfl (hb hby at_65) rfl (v := (FP.i2d p3)) rfl ?_
        show Steps p.tables e below (T118.setTop (mkF m 66 #[.val (.int p1), .val (.int p2), .val (.int p3), .val (.int p4), .val (.int p5), .val (.int cap), .val (.int (Int32.ofNat kn)), .val (.int fi), .val (.ref b110), .val (.long (1 : Int64)), .second, .unset, .unset] [(.double (FP.i2d p3)), (.ref b110)])) _
        refine st144.trans ?_
        show Steps p.tables e below (T144.setTop (mkF m 69 #[.val (.int p1), .val (.int p2), .val (.int p3), .val (.int p4), .val (.int p5), .val (.int cap), .val (.int (Int32.ofNat kn)), .val (.int fi), .val (.ref b110), .val (.long (1 : Int64)), .second, .unset, .unset] [])) _
        refine XS.iload X144.here hx rfl (hb hby at_69) rfl ?_
        show Steps p.tables e below (T144.setTop (mkF m 71 #[.val (.int p1), .val (.int p2), .val (.int p3), .val (.int p4), .val (.int p5), .val (.int cap), .val (.int (Int32.ofNat kn)), .val (.int fi), .val (.ref b110), .val (.long (1 : Int64)), .second, .unset, .unset] [(.int (Int32.ofNat kn))])) _
        refine XS.iconst X144.here hx rfl (hb hby at_71) ?_
        show Steps p.tables e below (T144.setTop (mkF m 72 #[.val (.int p1), .val (.int p2), .val (.int p3), .val (.int p4), .val (.int p5), .val (.int cap), .val (.int (Int32.ofNat kn)), .val (.int fi), .val (.ref b110), .val (.long (1 : Int64)), .second, .unset, .unset] [(.int (1 : Int32)), (.int (Int32.ofNat kn))])) _
        refine XS.icmpNo X144.here hx rfl (hb hby at_72) rfl (tlt (lt32 (i := 1) (n := kn) (by omega) (by omega) : (1 : Int32) < (Int32.ofNat kn))).2.2.2 ?_
        show Steps p.tables e below (T144.setTop (mkF m 75 #[.val (.int p1), .val (.int p2), .val (.int p3), .val (.int p4), .val (.int p5), .val (.int cap), .val (.int (Int32.ofNat kn)), .val (.int fi), .val (.ref b110), .val (.long (1 : Int64)), .second, .unset, .unset] [])) _
        refine XS.aload X144.here hx rfl (hb hby at_75) rfl rfl ?_
        show Steps p.tables e below (T144.setTop (mkF m 77 #[.val (.int p1), .val (.int p2), .val (.int p3), .val (.int p4), .val (.int p5), .val (.int cap), .val (.int (Int32.ofNat kn)), .val (.int fi), .val (.ref b110), .val (.long (1 : Int64)), .second, .unset, .unset] [(.ref b110)])) _
        refine XS.iloadN X144.here hx rfl (hb hby at_77) rfl ?_
        show Steps p.tables e below (T144.setTop (mkF m 78 #[.val (.int p1), .val (.int p2), .val (.int p3), .val (.int p4), .val (.int p5), .val (.int cap), .val (.int (Int32.ofNat kn)), .val (.int fi), .val (.ref b110), .val (.long (1 : Int64)), .second, .unset, .unset] [(.int p4), (.ref b110)])) _
        refine XS.i2dS X144.here hx rfl (hb hby at_78) rfl (v := (FP.i2d p4)) rfl ?_
        show Steps p.tables e below (T144.setTop (mkF m 79 #[.val (.int p1), .val (.int p2), .val (.int p3), .val (.int p4), .val (.int p5), .val (.int cap), .val (.int (Int32.ofNat kn)), .val (.int fi), .val (.ref b110), .val (.long (1 : Int64)), .second, .unset, .unset] [(.double (FP.i2d p4)), (.ref b110)])) _
        refine st149.trans ?_
        show Steps p.tables e below (T149.setTop (mkF m 82 #[.val (.int p1), .val (.int p2), .val (.int p3), .val (.int p4), .val (.int p5), .val (.int cap), .val (.int (Int32.ofNat kn)), .val (.int fi), .val (.ref b110), .val (.long (1 : Int64)), .second, .unset, .unset] [])) _
        refine XS.iload X149.here hx rfl (hb hby at_82) rfl ?_
        show Steps p.tables e below (T149.setTop (mkF m 84 #[.val (.int p1), .val (.int p2), .val (.int p3), .val (.int p4), .val (.int p5), .val (.int cap), .val (.int (Int32.ofNat kn)), .val (.int fi), .val (.ref b110), .val (.long (1 : Int64)), .second, .unset, .unset] [(.int (Int32.ofNat kn))])) _
        refine XS.iconst X149.here hx rfl (hb hby at_84) ?_
        show Steps p.tables e below (T149.setTop (mkF m 85 #[.val (.int p1), .val (.int p2), .val (.int p3), .val (.int p4), .val (.int p5), .val (.int cap), .val (.int (Int32.ofNat kn)), .val (.int fi), .val (.ref b110), .val (.long (1 : Int64)), .second, .unset, .unset] [(.int (2 : Int32)), (.int (Int32.ofNat kn))])) _
        refine XS.icmpYes X149.here hx rfl (pc0 := 85) (pc' := 96) rfl (hb hby at_85) rfl (flt (nlt32 (i := 2) (n := kn) (by omega) (by omega) : ¬ ((2 : Int32) < (Int32.ofNat kn)))).2.2.2 (by decide) (by decide) ?_
        show Steps p.tables e below (T149.setTop (mkF m 96 #[.val (.int p1), .val (.int p2), .val (.int p3), .val (.int p4), .val (.int p5), .val (.int cap), .val (.int (Int32.ofNat kn)), .val (.int fi), .val (.ref b110), .val (.long (1 : Int64)), .second, .unset, .unset] [])) _
        refine XS.iload X149.here hx rfl (hb hby at_96) rfl ?_
        show Steps p.tables e below (T149.setTop (mkF m 98 #[.val (.int p1), .val (.int p2), .val (.int p3), .val (.int p4), .val (.int p5), .val (.int cap), .val (.int (Int32.ofNat kn)), .val (.int fi), .val (.ref b110), .val (.long (1 : Int64)), .second, .unset, .unset] [(.int (Int32.ofNat kn))])) _
        refine XS.iconst X149.here hx rfl (hb hby at_98) ?_
        show Steps p.tables e below (T149.setTop (mkF m 99 #[.val (.int p1), .val (.int p2), .val (.int p3), .val (.int p4), .val (.int p5), .val (.int cap), .val (.int (Int32.ofNat kn)), .val (.int fi), .val (.ref b110), .val (.long (1 : Int64)), .second, .unset, .unset] [(.int (3 : Int32)), (.int (Int32.ofNat kn))])) _
        refine XS.icmpYes X149.here hx rfl (pc0 := 99) (pc' := 111) rfl (hb hby at_99) rfl (flt (nlt32 (i := 3) (n := kn) (by omega) (by omega) : ¬ ((3 : Int32) < (Int32.ofNat kn)))).2.2.2 (by decide) (by decide) ?_
        show Steps p.tables e below (T149.setTop (mkF m 111 #[.val (.int p1), .val (.int p2), .val (.int p3), .val (.int p4), .val (.int p5), .val (.int cap), .val (.int (Int32.ofNat kn)), .val (.int fi), .val (.ref b110), .val (.long (1 : Int64)), .second, .unset, .unset] [])) _
        refine XS.iload X149.here hx rfl (hb hby at_111) rfl ?_
        show Steps p.tables e below (T149.setTop (mkF m 113 #[.val (.int p1), .val (.int p2), .val (.int p3), .val (.int p4), .val (.int p5), .val (.int cap), .val (.int (Int32.ofNat kn)), .val (.int fi), .val (.ref b110), .val (.long (1 : Int64)), .second, .unset, .unset] [(.int (Int32.ofNat kn))])) _
        refine XS.iconst X149.here hx rfl (hb hby at_113) ?_
        show Steps p.tables e below (T149.setTop (mkF m 114 #[.val (.int p1), .val (.int p2), .val (.int p3), .val (.int p4), .val (.int p5), .val (.int cap), .val (.int (Int32.ofNat kn)), .val (.int fi), .val (.ref b110), .val (.long (1 : Int64)), .second, .unset, .unset] [(.int (4 : Int32)), (.int (Int32.ofNat kn))])) _
        refine XS.icmpYes X149.here hx rfl (pc0 := 114) (pc' := 127) rfl (hb hby at_114) rfl (flt (nlt32 (i := 4) (n := kn) (by omega) (by omega) : ¬ ((4 : Int32) < (Int32.ofNat kn)))).2.2.2 (by decide) (by decide) ?_
        show Steps p.tables e below (T149.setTop (mkF m 127 #[.val (.int p1), .val (.int p2), .val (.int p3), .val (.int p4), .val (.int p5), .val (.int cap), .val (.int (Int32.ofNat kn)), .val (.int fi), .val (.ref b110), .val (.long (1 : Int64)), .second, .unset, .unset] [])) _
        refine XS.iload X149.here hx rfl (hb hby at_127) rfl ?_
        show Steps p.tables e below (T149.setTop (mkF m 129 #[.val (.int p1), .val (.int p2), .val (.int p3), .val (.int p4), .val (.int p5), .val (.int cap), .val (.int (Int32.ofNat kn)), .val (.int fi), .val (.ref b110), .val (.long (1 : Int64)), .second, .unset, .unset] [(.int (Int32.ofNat kn))])) _
        refine XS.iconst X149.here hx rfl (hb hby at_129) ?_
        show Steps p.tables e below (T149.setTop (mkF m 130 #[.val (.int p1), .val (.int p2), .val (.int p3), .val (.int p4), .val (.int p5), .val (.int cap), .val (.int (Int32.ofNat kn)), .val (.int fi), .val (.ref b110), .val (.long (1 : Int64)), .second, .unset, .unset] [(.int (5 : Int32)), (.int (Int32.ofNat kn))])) _
        refine XS.icmpYes X149.here hx rfl (pc0 := 130) (pc' := 143) rfl (hb hby at_130) rfl (flt (nlt32 (i := 5) (n := kn) (by omega) (by omega) : ¬ ((5 : Int32) < (Int32.ofNat kn)))).2.2.2 (by decide) (by decide) ?_
        show Steps p.tables e below (T149.setTop (mkF m 143 #[.val (.int p1), .val (.int p2), .val (.int p3), .val (.int p4), .val (.int p5), .val (.int cap), .val (.int (Int32.ofNat kn)), .val (.int fi), .val (.ref b110), .val (.long (1 : Int64)), .second, .unset, .unset] [])) _
        refine XS.iload X149.here hx rfl (hb hby at_143) rfl ?_
        show Steps p.tables e below (T149.setTop (mkF m 145 #[.val (.int p1), .val (.int p2), .val (.int p3), .val (.int p4), .val (.int p5), .val (.int cap), .val (.int (Int32.ofNat kn)), .val (.int fi), .val (.ref b110), .val (.long (1 : Int64)), .second, .unset, .unset] [(.int (Int32.ofNat kn))])) _
        refine XS.bipush X149.here hx rfl (hb hby at_145) ?_
        show Steps p.tables e below (T149.setTop (mkF m 147 #[.val (.int p1), .val (.int p2), .val (.int p3), .val (.int p4), .val (.int p5), .val (.int cap), .val (.int (Int32.ofNat kn)), .val (.int fi), .val (.ref b110), .val (.long (1 : Int64)), .second, .unset, .unset] [(.int (6 : Int32)), (.int (Int32.ofNat kn))])) _
        refine XS.icmpYes X149.here hx rfl (pc0 := 147) (pc' := 160) rfl (hb hby at_147) rfl (flt (nlt32 (i := 6) (n := kn) (by omega) (by omega) : ¬ ((6 : Int32) < (Int32.ofNat kn)))).2.2.2 (by decide) (by decide) ?_
        show Steps p.tables e below (T149.setTop (mkF m 160 #[.val (.int p1), .val (.int p2), .val (.int p3), .val (.int p4), .val (.int p5), .val (.int cap), .val (.int (Int32.ofNat kn)), .val (.int fi), .val (.ref b110), .val (.long (1 : Int64)), .second, .unset, .unset] [])) _
        refine XS.iload X149.here hx rfl (hb hby at_160) rfl ?_
        exact kt)
    by_cases hF : fi = (0 : Int32)
    · skip
      have f152 : Exa Z T149.heap b110 "com/example/attacca/attacca/DecimatingBuffer" := (f146.keep K149)
      have f153 : Exa Z T149.heap l1_113 "java/util/ArrayList" := (f147.keep K149)
      have f154 : Fld Z T149.heap l1_113 "java/util/ArrayList" "size" "I" (.int (0 : Int32)) := (f148.keep K149 (own_nmc (Ne.symm ne114) (own_nmc x113_2 own_nm0)))
      obtain ⟨cq155, kq155, q155a, q155b, q155c⟩ := isOf hZ rfl f152
      obtain ⟨_, _, ⟨T155, L155, kk155, nn155⟩, -, X155, ⟨Lc155, hQ155, l155, y155, z155⟩, st155⟩ := X149.virtualBack hx (y := (⟨"com/example/attacca/attacca/DecimatingBuffer", "stride", "()J"⟩ : MethodName)) (z := (⟨"com/example/attacca/attacca/DecimatingBuffer", "stride", "()J"⟩ : MethodName)) hown (mvT hZ (hw _ (List.mem_of_getElem? (i := 44) rfl))) (mvT hZ (hw _ (List.mem_of_getElem? (i := 45) rfl))) (notFace_of_selects (args := #[]) (mvT hZ (hw _ (List.mem_of_getElem? (i := 47) rfl)))) (mvT hZ (hw _ (List.mem_of_getElem? (i := 47) rfl))) (mvT hZ (hw _ (List.mem_of_getElem? (i := 46) rfl))) (by decide) (backOf (W := 0) (rmstride l Z a0 hw [] b110 l1_113 T149.heap n0 z150 f152 x149_0 f153 f154) hZ (hw _ (List.mem_of_getElem? (i := 48) rfl)) (hw _ (List.mem_of_getElem? (i := 2) rfl)) (by decide) (by decide)) q155a q155c (g := (mkF m 172 #[.val (.int p1), .val (.int p2), .val (.int p3), .val (.int p4), .val (.int p5), .val (.int cap), .val (.int (Int32.ofNat kn)), .val (.int fi), .val (.ref b110), .val (.long (1 : Int64)), .second, .unset, .unset] [(.ref b110)])) rfl (by rw [hml]; rfl) (Steps.refl _) (argsL := []) (rest := []) (lenOf pd__28_29J rfl) rfl (by show 2 * 0 + _ ≤ _; exact Nat.le_of_eq rfl) (hb hby at_172) (fun _ _ => ⟨rfl, rfl, (by decide : 3 + 0 ≤ _), (by decide : 4103 + 0 ≤ _)⟩)
      dsimp only [Pt.U, Pt.locs, Pt.cells, Pt.slots] at X155 l155 y155 z155 st155 hQ155
      subst l155 y155 z155
      obtain ⟨rfl, N155q, e155⟩ := hQ155
      have N155 := Fr.app N149 N155q
      obtain ⟨cq156, kq156, q156a, q156b, q156c⟩ := isOf hZ e155 f152
      obtain ⟨_, _, ⟨T156, L156, kk156, nn156⟩, -, X156, ⟨Lc156, hQ156, l156, y156, z156⟩, st156⟩ := X155.virtualBack hx (y := (⟨"com/example/attacca/attacca/DecimatingBuffer", "count", "()I"⟩ : MethodName)) (z := (⟨"com/example/attacca/attacca/DecimatingBuffer", "count", "()I"⟩ : MethodName)) hown (mvT hZ (hw _ (List.mem_of_getElem? (i := 71) rfl))) (mvT hZ (hw _ (List.mem_of_getElem? (i := 72) rfl))) (notFace_of_selects (args := #[]) (mvT hZ (hw _ (List.mem_of_getElem? (i := 74) rfl)))) (mvT hZ (hw _ (List.mem_of_getElem? (i := 74) rfl))) (mvT hZ (hw _ (List.mem_of_getElem? (i := 73) rfl))) (by decide) (backOf (W := 0) (rmcount l Z a0 hw [] b110 2 T149.heap n0 z150 f152 x149_3) hZ (hw _ (List.mem_of_getElem? (i := 75) rfl)) (hw _ (List.mem_of_getElem? (i := 2) rfl)) (by decide) (by decide)) q156a q156c (g := (mkF m 193 #[.val (.int p1), .val (.int p2), .val (.int p3), .val (.int p4), .val (.int p5), .val (.int cap), .val (.int (Int32.ofNat kn)), .val (.int fi), .val (.ref b110), .val (.long (1 : Int64)), .second, .val (.long (1 : Int64)), .second] [(.ref b110)])) rfl (by rw [hml]; rfl) (Steps.refl _) (argsL := []) (rest := []) (lenOf pd__28_29I rfl) rfl (by show 2 * 0 + _ ≤ _; exact Nat.le_of_eq rfl) (hb hby at_193) (fun _ _ => ⟨rfl, e155, (by decide : 3 + 0 ≤ _), (by decide : 4103 + 0 ≤ _)⟩)
      dsimp only [Pt.U, Pt.locs, Pt.cells, Pt.slots] at X156 l156 y156 z156 st156 hQ156
      subst l156 y156 z156
      obtain ⟨rfl, N156q, e156⟩ := hQ156
      have N156 := Fr.app N155 N156q
      have pre157 : ∀ t_, Steps p.tables e below (T156.setTop (mkF m 206 #[.val (.int p1), .val (.int p2), .val (.int p3), .val (.int p4), .val (.int p5), .val (.int cap), .val (.int (Int32.ofNat kn)), .val (.int fi), .val (.ref b110), .val (.long (1 : Int64)), .second, .val (.long (1 : Int64)), .second] [(.int (1 : Int32))])) t_ → Steps p.tables e below (s₁.setTop (entryFrame m #[(.int p1), (.int p2), (.int p3), (.int p4), (.int p5)] maxLocals)) t_ := fun t_ kt => pre151 t_ (by
          show Steps p.tables e below (T149.setTop (mkF m 162 #[.val (.int p1), .val (.int p2), .val (.int p3), .val (.int p4), .val (.int p5), .val (.int cap), .val (.int (Int32.ofNat kn)), .val (.int fi), .val (.ref b110), .val (.long (1 : Int64)), .second, .unset, .unset] [(.int fi)])) _
          refine XS.ifYes X149.here hx rfl (pc0 := 162) (pc' := 170) rfl (hb hby at_162) rfl ((if0 _ _).trans (teq (hF : fi = (0 : Int32))).1) (by decide) (by decide) ?_
          show Steps p.tables e below (T149.setTop (mkF m 170 #[.val (.int p1), .val (.int p2), .val (.int p3), .val (.int p4), .val (.int p5), .val (.int cap), .val (.int (Int32.ofNat kn)), .val (.int fi), .val (.ref b110), .val (.long (1 : Int64)), .second, .unset, .unset] [])) _
          refine XS.aload X149.here hx rfl (hb hby at_170) rfl rfl ?_
          show Steps p.tables e below (T149.setTop (mkF m 172 #[.val (.int p1), .val (.int p2), .val (.int p3), .val (.int p4), .val (.int p5), .val (.int cap), .val (.int (Int32.ofNat kn)), .val (.int fi), .val (.ref b110), .val (.long (1 : Int64)), .second, .unset, .unset] [(.ref b110)])) _
          refine st155.trans ?_
          show Steps p.tables e below (T155.setTop (mkF m 175 #[.val (.int p1), .val (.int p2), .val (.int p3), .val (.int p4), .val (.int p5), .val (.int cap), .val (.int (Int32.ofNat kn)), .val (.int fi), .val (.ref b110), .val (.long (1 : Int64)), .second, .unset, .unset] [(.long (1 : Int64))])) _
          refine XS.lstore X155.here hx rfl (hb hby at_175) rfl (l' := #[.val (.int p1), .val (.int p2), .val (.int p3), .val (.int p4), .val (.int p5), .val (.int cap), .val (.int (Int32.ofNat kn)), .val (.int fi), .val (.ref b110), .val (.long (1 : Int64)), .second, .val (.long (1 : Int64)), .second]) rfl ?_
          show Steps p.tables e below (T155.setTop (mkF m 177 #[.val (.int p1), .val (.int p2), .val (.int p3), .val (.int p4), .val (.int p5), .val (.int cap), .val (.int (Int32.ofNat kn)), .val (.int fi), .val (.ref b110), .val (.long (1 : Int64)), .second, .val (.long (1 : Int64)), .second] [])) _
          refine XS.lload X155.here hx rfl (hb hby at_177) rfl ?_
          show Steps p.tables e below (T155.setTop (mkF m 179 #[.val (.int p1), .val (.int p2), .val (.int p3), .val (.int p4), .val (.int p5), .val (.int cap), .val (.int (Int32.ofNat kn)), .val (.int fi), .val (.ref b110), .val (.long (1 : Int64)), .second, .val (.long (1 : Int64)), .second] [(.long (1 : Int64))])) _
          refine XS.lconst X155.here hx rfl (hb hby at_179) ?_
          show Steps p.tables e below (T155.setTop (mkF m 180 #[.val (.int p1), .val (.int p2), .val (.int p3), .val (.int p4), .val (.int p5), .val (.int cap), .val (.int (Int32.ofNat kn)), .val (.int fi), .val (.ref b110), .val (.long (1 : Int64)), .second, .val (.long (1 : Int64)), .second] [(.long (1 : Int64)), (.long (1 : Int64))])) _
          refine XS.lcmp X155.here hx rfl (hb hby at_180) rfl ?_
          show Steps p.tables e below (T155.setTop (mkF m 181 #[.val (.int p1), .val (.int p2), .val (.int p3), .val (.int p4), .val (.int p5), .val (.int cap), .val (.int (Int32.ofNat kn)), .val (.int fi), .val (.ref b110), .val (.long (1 : Int64)), .second, .val (.long (1 : Int64)), .second] [(.int (lcmpW (1 : Int64) (1 : Int64)))])) _
          refine XS.ifNo X155.here hx rfl (hb hby at_181) rfl ((if0 _ _).trans (teq ((by decide) : (lcmpW (1 : Int64) (1 : Int64)) = (0 : Int32))).2) ?_
          show Steps p.tables e below (T155.setTop (mkF m 184 #[.val (.int p1), .val (.int p2), .val (.int p3), .val (.int p4), .val (.int p5), .val (.int cap), .val (.int (Int32.ofNat kn)), .val (.int fi), .val (.ref b110), .val (.long (1 : Int64)), .second, .val (.long (1 : Int64)), .second] [])) _
          refine XS.lload X155.here hx rfl (hb hby at_184) rfl ?_
          show Steps p.tables e below (T155.setTop (mkF m 186 #[.val (.int p1), .val (.int p2), .val (.int p3), .val (.int p4), .val (.int p5), .val (.int cap), .val (.int (Int32.ofNat kn)), .val (.int fi), .val (.ref b110), .val (.long (1 : Int64)), .second, .val (.long (1 : Int64)), .second] [(.long (1 : Int64))])) _
          refine XS.lconst X155.here hx rfl (hb hby at_186) ?_
          show Steps p.tables e below (T155.setTop (mkF m 187 #[.val (.int p1), .val (.int p2), .val (.int p3), .val (.int p4), .val (.int p5), .val (.int cap), .val (.int (Int32.ofNat kn)), .val (.int fi), .val (.ref b110), .val (.long (1 : Int64)), .second, .val (.long (1 : Int64)), .second] [(.long (1 : Int64)), (.long (1 : Int64))])) _
          refine XS.lcmp X155.here hx rfl (hb hby at_187) rfl ?_
          show Steps p.tables e below (T155.setTop (mkF m 188 #[.val (.int p1), .val (.int p2), .val (.int p3), .val (.int p4), .val (.int p5), .val (.int cap), .val (.int (Int32.ofNat kn)), .val (.int fi), .val (.ref b110), .val (.long (1 : Int64)), .second, .val (.long (1 : Int64)), .second] [(.int (lcmpW (1 : Int64) (1 : Int64)))])) _
          refine XS.ifNo X155.here hx rfl (hb hby at_188) rfl ((if0 _ _).trans (teq ((by decide) : (lcmpW (1 : Int64) (1 : Int64)) = (0 : Int32))).2) ?_
          show Steps p.tables e below (T155.setTop (mkF m 191 #[.val (.int p1), .val (.int p2), .val (.int p3), .val (.int p4), .val (.int p5), .val (.int cap), .val (.int (Int32.ofNat kn)), .val (.int fi), .val (.ref b110), .val (.long (1 : Int64)), .second, .val (.long (1 : Int64)), .second] [])) _
          refine XS.aload X155.here hx rfl (hb hby at_191) rfl rfl ?_
          show Steps p.tables e below (T155.setTop (mkF m 193 #[.val (.int p1), .val (.int p2), .val (.int p3), .val (.int p4), .val (.int p5), .val (.int cap), .val (.int (Int32.ofNat kn)), .val (.int fi), .val (.ref b110), .val (.long (1 : Int64)), .second, .val (.long (1 : Int64)), .second] [(.ref b110)])) _
          refine st156.trans ?_
          show Steps p.tables e below (T156.setTop (mkF m 196 #[.val (.int p1), .val (.int p2), .val (.int p3), .val (.int p4), .val (.int p5), .val (.int cap), .val (.int (Int32.ofNat kn)), .val (.int fi), .val (.ref b110), .val (.long (1 : Int64)), .second, .val (.long (1 : Int64)), .second] [(.int (Int32.ofNat 2))])) _
          refine XS.iload X156.here hx rfl (hb hby at_196) rfl ?_
          show Steps p.tables e below (T156.setTop (mkF m 198 #[.val (.int p1), .val (.int p2), .val (.int p3), .val (.int p4), .val (.int p5), .val (.int cap), .val (.int (Int32.ofNat kn)), .val (.int fi), .val (.ref b110), .val (.long (1 : Int64)), .second, .val (.long (1 : Int64)), .second] [(.int (Int32.ofNat kn)), (.int (Int32.ofNat 2))])) _
          refine XS.icmpNo X156.here hx rfl (hb hby at_198) rfl (teq ((congrArg Int32.ofNat hj.symm) : (Int32.ofNat 2) = (Int32.ofNat kn))).2 ?_
          show Steps p.tables e below (T156.setTop (mkF m 201 #[.val (.int p1), .val (.int p2), .val (.int p3), .val (.int p4), .val (.int p5), .val (.int cap), .val (.int (Int32.ofNat kn)), .val (.int fi), .val (.ref b110), .val (.long (1 : Int64)), .second, .val (.long (1 : Int64)), .second] [])) _
          refine XS.iconst X156.here hx rfl (hb hby at_201) ?_
          show Steps p.tables e below (T156.setTop (mkF m 202 #[.val (.int p1), .val (.int p2), .val (.int p3), .val (.int p4), .val (.int p5), .val (.int cap), .val (.int (Int32.ofNat kn)), .val (.int fi), .val (.ref b110), .val (.long (1 : Int64)), .second, .val (.long (1 : Int64)), .second] [(.int (1 : Int32))])) _
          refine XS.goto X156.here hx rfl (pc0 := 202) (pc' := 206) rfl (hb hby at_202) (by decide) (by decide) ?_
          exact kt)
      obtain ⟨fs, hr, hrun, hended, hW, hsame⟩ := X156.leave (v := some (.int (1 : Int32))) (fun h => by rw [Bd.returns] at h; cases h)
      refine ⟨_, _, pre157 _ ?_, hrun, hended, _, _, rfl, ?_, ⟨_, rfl⟩, hW, hsame.mono (by decide) (by decide)⟩
      · show Steps p.tables e below (T156.setTop (mkF m 206 #[.val (.int p1), .val (.int p2), .val (.int p3), .val (.int p4), .val (.int p5), .val (.int cap), .val (.int (Int32.ofNat kn)), .val (.int fi), .val (.ref b110), .val (.long (1 : Int64)), .second, .val (.long (1 : Int64)), .second] [(.int (1 : Int32))])) _
        exact retN X156 hx (t := .boolean) Bd.returns (by simp) (hb hby at_206) hr
      · show Q0 Z p1 p2 p3 p4 p5 DC h0 n0 _ T156.heap _
        rw [e156]
        exact ⟨rfl, N156⟩
    · skip
      have f158 : Exa Z T149.heap b110 "com/example/attacca/attacca/DecimatingBuffer" := (f146.keep K149)
      have f159 : Exa Z T149.heap l1_113 "java/util/ArrayList" := (f147.keep K149)
      have f160 : Fld Z T149.heap l1_113 "java/util/ArrayList" "size" "I" (.int (0 : Int32)) := (f148.keep K149 (own_nmc (Ne.symm ne114) (own_nmc x113_2 own_nm0)))
      obtain ⟨cq161, kq161, q161a, q161b, q161c⟩ := isOf hZ rfl f158
      obtain ⟨_, _, ⟨T161, L161, kk161, nn161⟩, -, X161, ⟨Lc161, hQ161, l161, y161, z161⟩, st161⟩ := X149.virtualBack hx (y := (⟨"com/example/attacca/attacca/DecimatingBuffer", "end", "()V"⟩ : MethodName)) (z := (⟨"com/example/attacca/attacca/DecimatingBuffer", "end", "()V"⟩ : MethodName)) hown (mvT hZ (hw _ (List.mem_of_getElem? (i := 76) rfl))) (mvT hZ (hw _ (List.mem_of_getElem? (i := 77) rfl))) (notFace_of_selects (args := #[]) (mvT hZ (hw _ (List.mem_of_getElem? (i := 79) rfl)))) (mvT hZ (hw _ (List.mem_of_getElem? (i := 79) rfl))) (mvT hZ (hw _ (List.mem_of_getElem? (i := 78) rfl))) (by decide) (backOf (W := 0) (rmend l Z a0 hw [] b110 l1_113 T149.heap n0 z150 f158 x149_0 f159 f160) hZ (hw _ (List.mem_of_getElem? (i := 80) rfl)) (hw _ (List.mem_of_getElem? (i := 2) rfl)) (by decide) (by decide)) q161a q161c (g := (mkF m 167 #[.val (.int p1), .val (.int p2), .val (.int p3), .val (.int p4), .val (.int p5), .val (.int cap), .val (.int (Int32.ofNat kn)), .val (.int fi), .val (.ref b110), .val (.long (1 : Int64)), .second, .unset, .unset] [(.ref b110)])) rfl (by rw [hml]; rfl) (Steps.refl _) (argsL := []) (rest := []) (lenOf pd__28_29V rfl) rfl (by show 2 * 0 + _ ≤ _; exact Nat.le_of_eq rfl) (hb hby at_167) (fun _ _ => ⟨rfl, rfl, (by decide : 3 + 0 ≤ _), (by decide : 4103 + 0 ≤ _)⟩)
      dsimp only [Pt.U, Pt.locs, Pt.cells, Pt.slots] at X161 l161 y161 z161 st161 hQ161
      subst l161 y161 z161
      obtain ⟨rfl, N161q, e161⟩ := hQ161
      have N161 := Fr.app N149 N161q
      obtain ⟨cq162, kq162, q162a, q162b, q162c⟩ := isOf hZ e161 f158
      obtain ⟨_, _, ⟨T162, L162, kk162, nn162⟩, -, X162, ⟨Lc162, hQ162, l162, y162, z162⟩, st162⟩ := X161.virtualBack hx (y := (⟨"com/example/attacca/attacca/DecimatingBuffer", "stride", "()J"⟩ : MethodName)) (z := (⟨"com/example/attacca/attacca/DecimatingBuffer", "stride", "()J"⟩ : MethodName)) hown (mvT hZ (hw _ (List.mem_of_getElem? (i := 44) rfl))) (mvT hZ (hw _ (List.mem_of_getElem? (i := 45) rfl))) (notFace_of_selects (args := #[]) (mvT hZ (hw _ (List.mem_of_getElem? (i := 47) rfl)))) (mvT hZ (hw _ (List.mem_of_getElem? (i := 47) rfl))) (mvT hZ (hw _ (List.mem_of_getElem? (i := 46) rfl))) (by decide) (backOf (W := 0) (rmstride l Z a0 hw [] b110 l1_113 T149.heap n0 z150 f158 x149_0 f159 f160) hZ (hw _ (List.mem_of_getElem? (i := 48) rfl)) (hw _ (List.mem_of_getElem? (i := 2) rfl)) (by decide) (by decide)) q162a q162c (g := (mkF m 172 #[.val (.int p1), .val (.int p2), .val (.int p3), .val (.int p4), .val (.int p5), .val (.int cap), .val (.int (Int32.ofNat kn)), .val (.int fi), .val (.ref b110), .val (.long (1 : Int64)), .second, .unset, .unset] [(.ref b110)])) rfl (by rw [hml]; rfl) (Steps.refl _) (argsL := []) (rest := []) (lenOf pd__28_29J rfl) rfl (by show 2 * 0 + _ ≤ _; exact Nat.le_of_eq rfl) (hb hby at_172) (fun _ _ => ⟨rfl, e161, (by decide : 3 + 0 ≤ _), (by decide : 4103 + 0 ≤ _)⟩)
      dsimp only [Pt.U, Pt.locs, Pt.cells, Pt.slots] at X162 l162 y162 z162 st162 hQ162
      subst l162 y162 z162
      obtain ⟨rfl, N162q, e162⟩ := hQ162
      have N162 := Fr.app N161 N162q
      obtain ⟨cq163, kq163, q163a, q163b, q163c⟩ := isOf hZ e162 f158
      obtain ⟨_, _, ⟨T163, L163, kk163, nn163⟩, -, X163, ⟨Lc163, hQ163, l163, y163, z163⟩, st163⟩ := X162.virtualBack hx (y := (⟨"com/example/attacca/attacca/DecimatingBuffer", "count", "()I"⟩ : MethodName)) (z := (⟨"com/example/attacca/attacca/DecimatingBuffer", "count", "()I"⟩ : MethodName)) hown (mvT hZ (hw _ (List.mem_of_getElem? (i := 71) rfl))) (mvT hZ (hw _ (List.mem_of_getElem? (i := 72) rfl))) (notFace_of_selects (args := #[]) (mvT hZ (hw _ (List.mem_of_getElem? (i := 74) rfl)))) (mvT hZ (hw _ (List.mem_of_getElem? (i := 74) rfl))) (mvT hZ (hw _ (List.mem_of_getElem? (i := 73) rfl))) (by decide) (backOf (W := 0) (rmcount l Z a0 hw [] b110 2 T149.heap n0 z150 f158 x149_3) hZ (hw _ (List.mem_of_getElem? (i := 75) rfl)) (hw _ (List.mem_of_getElem? (i := 2) rfl)) (by decide) (by decide)) q163a q163c (g := (mkF m 193 #[.val (.int p1), .val (.int p2), .val (.int p3), .val (.int p4), .val (.int p5), .val (.int cap), .val (.int (Int32.ofNat kn)), .val (.int fi), .val (.ref b110), .val (.long (1 : Int64)), .second, .val (.long (1 : Int64)), .second] [(.ref b110)])) rfl (by rw [hml]; rfl) (Steps.refl _) (argsL := []) (rest := []) (lenOf pd__28_29I rfl) rfl (by show 2 * 0 + _ ≤ _; exact Nat.le_of_eq rfl) (hb hby at_193) (fun _ _ => ⟨rfl, e162, (by decide : 3 + 0 ≤ _), (by decide : 4103 + 0 ≤ _)⟩)
      dsimp only [Pt.U, Pt.locs, Pt.cells, Pt.slots] at X163 l163 y163 z163 st163 hQ163
      subst l163 y163 z163
      obtain ⟨rfl, N163q, e163⟩ := hQ163
      have N163 := Fr.app N162 N163q
      have pre164 : ∀ t_, Steps p.tables e below (T163.setTop (mkF m 206 #[.val (.int p1), .val (.int p2), .val (.int p3), .val (.int p4), .val (.int p5), .val (.int cap), .val (.int (Int32.ofNat kn)), .val (.int fi), .val (.ref b110), .val (.long (1 : Int64)), .second, .val (.long (1 : Int64)), .second] [(.int (1 : Int32))])) t_ → Steps p.tables e below (s₁.setTop (entryFrame m #[(.int p1), (.int p2), (.int p3), (.int p4), (.int p5)] maxLocals)) t_ := fun t_ kt => pre151 t_ (by
          show Steps p.tables e below (T149.setTop (mkF m 162 #[.val (.int p1), .val (.int p2), .val (.int p3), .val (.int p4), .val (.int p5), .val (.int cap), .val (.int (Int32.ofNat kn)), .val (.int fi), .val (.ref b110), .val (.long (1 : Int64)), .second, .unset, .unset] [(.int fi)])) _
          refine XS.ifNo X149.here hx rfl (hb hby at_162) rfl ((if0 _ _).trans (feq (hF : ¬ (fi = (0 : Int32)))).1) ?_
          show Steps p.tables e below (T149.setTop (mkF m 165 #[.val (.int p1), .val (.int p2), .val (.int p3), .val (.int p4), .val (.int p5), .val (.int cap), .val (.int (Int32.ofNat kn)), .val (.int fi), .val (.ref b110), .val (.long (1 : Int64)), .second, .unset, .unset] [])) _
          refine XS.aload X149.here hx rfl (hb hby at_165) rfl rfl ?_
          show Steps p.tables e below (T149.setTop (mkF m 167 #[.val (.int p1), .val (.int p2), .val (.int p3), .val (.int p4), .val (.int p5), .val (.int cap), .val (.int (Int32.ofNat kn)), .val (.int fi), .val (.ref b110), .val (.long (1 : Int64)), .second, .unset, .unset] [(.ref b110)])) _
          refine st161.trans ?_
          show Steps p.tables e below (T161.setTop (mkF m 170 #[.val (.int p1), .val (.int p2), .val (.int p3), .val (.int p4), .val (.int p5), .val (.int cap), .val (.int (Int32.ofNat kn)), .val (.int fi), .val (.ref b110), .val (.long (1 : Int64)), .second, .unset, .unset] [])) _
          refine XS.aload X161.here hx rfl (hb hby at_170) rfl rfl ?_
          show Steps p.tables e below (T161.setTop (mkF m 172 #[.val (.int p1), .val (.int p2), .val (.int p3), .val (.int p4), .val (.int p5), .val (.int cap), .val (.int (Int32.ofNat kn)), .val (.int fi), .val (.ref b110), .val (.long (1 : Int64)), .second, .unset, .unset] [(.ref b110)])) _
          refine st162.trans ?_
          show Steps p.tables e below (T162.setTop (mkF m 175 #[.val (.int p1), .val (.int p2), .val (.int p3), .val (.int p4), .val (.int p5), .val (.int cap), .val (.int (Int32.ofNat kn)), .val (.int fi), .val (.ref b110), .val (.long (1 : Int64)), .second, .unset, .unset] [(.long (1 : Int64))])) _
          refine XS.lstore X162.here hx rfl (hb hby at_175) rfl (l' := #[.val (.int p1), .val (.int p2), .val (.int p3), .val (.int p4), .val (.int p5), .val (.int cap), .val (.int (Int32.ofNat kn)), .val (.int fi), .val (.ref b110), .val (.long (1 : Int64)), .second, .val (.long (1 : Int64)), .second]) rfl ?_
          show Steps p.tables e below (T162.setTop (mkF m 177 #[.val (.int p1), .val (.int p2), .val (.int p3), .val (.int p4), .val (.int p5), .val (.int cap), .val (.int (Int32.ofNat kn)), .val (.int fi), .val (.ref b110), .val (.long (1 : Int64)), .second, .val (.long (1 : Int64)), .second] [])) _
          refine XS.lload X162.here hx rfl (hb hby at_177) rfl ?_
          show Steps p.tables e below (T162.setTop (mkF m 179 #[.val (.int p1), .val (.int p2), .val (.int p3), .val (.int p4), .val (.int p5), .val (.int cap), .val (.int (Int32.ofNat kn)), .val (.int fi), .val (.ref b110), .val (.long (1 : Int64)), .second, .val (.long (1 : Int64)), .second] [(.long (1 : Int64))])) _
          refine XS.lconst X162.here hx rfl (hb hby at_179) ?_
          show Steps p.tables e below (T162.setTop (mkF m 180 #[.val (.int p1), .val (.int p2), .val (.int p3), .val (.int p4), .val (.int p5), .val (.int cap), .val (.int (Int32.ofNat kn)), .val (.int fi), .val (.ref b110), .val (.long (1 : Int64)), .second, .val (.long (1 : Int64)), .second] [(.long (1 : Int64)), (.long (1 : Int64))])) _
          refine XS.lcmp X162.here hx rfl (hb hby at_180) rfl ?_
          show Steps p.tables e below (T162.setTop (mkF m 181 #[.val (.int p1), .val (.int p2), .val (.int p3), .val (.int p4), .val (.int p5), .val (.int cap), .val (.int (Int32.ofNat kn)), .val (.int fi), .val (.ref b110), .val (.long (1 : Int64)), .second, .val (.long (1 : Int64)), .second] [(.int (lcmpW (1 : Int64) (1 : Int64)))])) _
          refine XS.ifNo X162.here hx rfl (hb hby at_181) rfl ((if0 _ _).trans (teq ((by decide) : (lcmpW (1 : Int64) (1 : Int64)) = (0 : Int32))).2) ?_
          show Steps p.tables e below (T162.setTop (mkF m 184 #[.val (.int p1), .val (.int p2), .val (.int p3), .val (.int p4), .val (.int p5), .val (.int cap), .val (.int (Int32.ofNat kn)), .val (.int fi), .val (.ref b110), .val (.long (1 : Int64)), .second, .val (.long (1 : Int64)), .second] [])) _
          refine XS.lload X162.here hx rfl (hb hby at_184) rfl ?_
          show Steps p.tables e below (T162.setTop (mkF m 186 #[.val (.int p1), .val (.int p2), .val (.int p3), .val (.int p4), .val (.int p5), .val (.int cap), .val (.int (Int32.ofNat kn)), .val (.int fi), .val (.ref b110), .val (.long (1 : Int64)), .second, .val (.long (1 : Int64)), .second] [(.long (1 : Int64))])) _
          refine XS.lconst X162.here hx rfl (hb hby at_186) ?_
          show Steps p.tables e below (T162.setTop (mkF m 187 #[.val (.int p1), .val (.int p2), .val (.int p3), .val (.int p4), .val (.int p5), .val (.int cap), .val (.int (Int32.ofNat kn)), .val (.int fi), .val (.ref b110), .val (.long (1 : Int64)), .second, .val (.long (1 : Int64)), .second] [(.long (1 : Int64)), (.long (1 : Int64))])) _
          refine XS.lcmp X162.here hx rfl (hb hby at_187) rfl ?_
          show Steps p.tables e below (T162.setTop (mkF m 188 #[.val (.int p1), .val (.int p2), .val (.int p3), .val (.int p4), .val (.int p5), .val (.int cap), .val (.int (Int32.ofNat kn)), .val (.int fi), .val (.ref b110), .val (.long (1 : Int64)), .second, .val (.long (1 : Int64)), .second] [(.int (lcmpW (1 : Int64) (1 : Int64)))])) _
          refine XS.ifNo X162.here hx rfl (hb hby at_188) rfl ((if0 _ _).trans (teq ((by decide) : (lcmpW (1 : Int64) (1 : Int64)) = (0 : Int32))).2) ?_
          show Steps p.tables e below (T162.setTop (mkF m 191 #[.val (.int p1), .val (.int p2), .val (.int p3), .val (.int p4), .val (.int p5), .val (.int cap), .val (.int (Int32.ofNat kn)), .val (.int fi), .val (.ref b110), .val (.long (1 : Int64)), .second, .val (.long (1 : Int64)), .second] [])) _
          refine XS.aload X162.here hx rfl (hb hby at_191) rfl rfl ?_
          show Steps p.tables e below (T162.setTop (mkF m 193 #[.val (.int p1), .val (.int p2), .val (.int p3), .val (.int p4), .val (.int p5), .val (.int cap), .val (.int (Int32.ofNat kn)), .val (.int fi), .val (.ref b110), .val (.long (1 : Int64)), .second, .val (.long (1 : Int64)), .second] [(.ref b110)])) _
          refine st163.trans ?_
          show Steps p.tables e below (T163.setTop (mkF m 196 #[.val (.int p1), .val (.int p2), .val (.int p3), .val (.int p4), .val (.int p5), .val (.int cap), .val (.int (Int32.ofNat kn)), .val (.int fi), .val (.ref b110), .val (.long (1 : Int64)), .second, .val (.long (1 : Int64)), .second] [(.int (Int32.ofNat 2))])) _
          refine XS.iload X163.here hx rfl (hb hby at_196) rfl ?_
          show Steps p.tables e below (T163.setTop (mkF m 198 #[.val (.int p1), .val (.int p2), .val (.int p3), .val (.int p4), .val (.int p5), .val (.int cap), .val (.int (Int32.ofNat kn)), .val (.int fi), .val (.ref b110), .val (.long (1 : Int64)), .second, .val (.long (1 : Int64)), .second] [(.int (Int32.ofNat kn)), (.int (Int32.ofNat 2))])) _
          refine XS.icmpNo X163.here hx rfl (hb hby at_198) rfl (teq ((congrArg Int32.ofNat hj.symm) : (Int32.ofNat 2) = (Int32.ofNat kn))).2 ?_
          show Steps p.tables e below (T163.setTop (mkF m 201 #[.val (.int p1), .val (.int p2), .val (.int p3), .val (.int p4), .val (.int p5), .val (.int cap), .val (.int (Int32.ofNat kn)), .val (.int fi), .val (.ref b110), .val (.long (1 : Int64)), .second, .val (.long (1 : Int64)), .second] [])) _
          refine XS.iconst X163.here hx rfl (hb hby at_201) ?_
          show Steps p.tables e below (T163.setTop (mkF m 202 #[.val (.int p1), .val (.int p2), .val (.int p3), .val (.int p4), .val (.int p5), .val (.int cap), .val (.int (Int32.ofNat kn)), .val (.int fi), .val (.ref b110), .val (.long (1 : Int64)), .second, .val (.long (1 : Int64)), .second] [(.int (1 : Int32))])) _
          refine XS.goto X163.here hx rfl (pc0 := 202) (pc' := 206) rfl (hb hby at_202) (by decide) (by decide) ?_
          exact kt)
      obtain ⟨fs, hr, hrun, hended, hW, hsame⟩ := X163.leave (v := some (.int (1 : Int32))) (fun h => by rw [Bd.returns] at h; cases h)
      refine ⟨_, _, pre164 _ ?_, hrun, hended, _, _, rfl, ?_, ⟨_, rfl⟩, hW, hsame.mono (by decide) (by decide)⟩
      · show Steps p.tables e below (T163.setTop (mkF m 206 #[.val (.int p1), .val (.int p2), .val (.int p3), .val (.int p4), .val (.int p5), .val (.int cap), .val (.int (Int32.ofNat kn)), .val (.int fi), .val (.ref b110), .val (.long (1 : Int64)), .second, .val (.long (1 : Int64)), .second] [(.int (1 : Int32))])) _
        exact retN X163 hx (t := .boolean) Bd.returns (by simp) (hb hby at_206) hr
      · show Q0 Z p1 p2 p3 p4 p5 DC h0 n0 _ T163.heap _
        rw [e163]
        exact ⟨rfl, N163⟩
  · skip
    obtain ⟨cq165, kq165, q165a, q165b, q165c⟩ := isOf hZ e118 f117
    obtain ⟨_, _, ⟨T165, L165, kk165, nn165⟩, -, X165, ⟨Lc165, hQ165, l165, y165, z165⟩, st165⟩ := X118.virtualBack hx (y := (⟨"com/example/attacca/attacca/DecimatingBuffer", "accept", "(D)V"⟩ : MethodName)) (z := (⟨"com/example/attacca/attacca/DecimatingBuffer", "accept", "(D)V"⟩ : MethodName)) hown (mvT hZ (hw _ (List.mem_of_getElem? (i := 60) rfl))) (mvT hZ (hw _ (List.mem_of_getElem? (i := 61) rfl))) (notFace_of_selects (args := #[]) (mvT hZ (hw _ (List.mem_of_getElem? (i := 63) rfl)))) (mvT hZ (hw _ (List.mem_of_getElem? (i := 63) rfl))) (mvT hZ (hw _ (List.mem_of_getElem? (i := 62) rfl))) (by decide) (backOf (W := 0) (rmacc l Z a0 hw [] b110 (FP.i2d p3) l1_113 v1_113 kv_113 cap (List.replicate 7 (Value.double 0)) 0 T113.heap n0 z116 f117 x113_3 x113_4 x113_5 x113_6 x113_7 x113_8 x113_9 g_b110 g_v1_113 ne115 ne114 x113_2 (hcap) (by decide) (by simp only [List.length_set, List.length_replicate])) hZ (hw _ (List.mem_of_getElem? (i := 64) rfl)) (hw _ (List.mem_of_getElem? (i := 2) rfl)) (by decide) (by decide)) q165a q165c (g := (mkF m 66 #[.val (.int p1), .val (.int p2), .val (.int p3), .val (.int p4), .val (.int p5), .val (.int cap), .val (.int (Int32.ofNat kn)), .val (.int fi), .val (.ref b110), .val (.long (1 : Int64)), .second, .unset, .unset] [(.double (FP.i2d p3)), (.ref b110)])) rfl (by rw [hml]; rfl) (Steps.refl _) (argsL := [(.double (FP.i2d p3))]) (rest := []) (lenOf pd__28D_29V rfl) rfl (by show 2 * 0 + _ ≤ _; exact Nat.le_of_eq rfl) (hb hby at_66) (fun _ _ => ⟨rfl, e118, (by decide : 3 + 0 ≤ _), (by decide : 4103 + 0 ≤ _)⟩)
    dsimp only [Pt.U, Pt.locs, Pt.cells, Pt.slots] at X165 l165 y165 z165 st165 hQ165
    subst l165 y165 z165
    obtain ⟨rfl, N165q, K165, x165_0, x165_1, x165_2, x165_3, x165_4⟩ := hQ165
    have N165 := Fr.app N118 N165q
    have z166 : n0 ≤ T165.heap.size := Nat.le_trans z116 K165.1
    have f167 : Exa Z T165.heap b110 "com/example/attacca/attacca/DecimatingBuffer" := (f117.keep K165)
    have f168 : Exa Z T165.heap l1_113 "java/util/ArrayList" := (x113_7.keep K165)
    have f169 : Fld Z T165.heap l1_113 "java/util/ArrayList" "size" "I" (.int (0 : Int32)) := (x113_8.keep K165 (own_nmc (Ne.symm ne114) (own_nmc x113_2 own_nm0)))
    obtain ⟨cq170, kq170, q170a, q170b, q170c⟩ := isOf hZ rfl f167
    obtain ⟨_, _, ⟨T170, L170, kk170, nn170⟩, -, X170, ⟨Lc170, hQ170, l170, y170, z170⟩, st170⟩ := X165.virtualBack hx (y := (⟨"com/example/attacca/attacca/DecimatingBuffer", "accept", "(D)V"⟩ : MethodName)) (z := (⟨"com/example/attacca/attacca/DecimatingBuffer", "accept", "(D)V"⟩ : MethodName)) hown (mvT hZ (hw _ (List.mem_of_getElem? (i := 60) rfl))) (mvT hZ (hw _ (List.mem_of_getElem? (i := 61) rfl))) (notFace_of_selects (args := #[]) (mvT hZ (hw _ (List.mem_of_getElem? (i := 63) rfl)))) (mvT hZ (hw _ (List.mem_of_getElem? (i := 63) rfl))) (mvT hZ (hw _ (List.mem_of_getElem? (i := 62) rfl))) (by decide) (backOf (W := 0) (rmacc l Z a0 hw [] b110 (FP.i2d p4) l1_113 v1_113 kv_113 cap ((List.replicate 7 (Value.double 0)).set 0 (.double (FP.i2d p3))) 1 T165.heap n0 z166 f167 x165_0 x165_1 x165_2 x165_3 f168 f169 x165_4 g_b110 g_v1_113 ne115 ne114 x113_2 (hcap) (by decide) (by simp only [List.length_set, List.length_replicate])) hZ (hw _ (List.mem_of_getElem? (i := 64) rfl)) (hw _ (List.mem_of_getElem? (i := 2) rfl)) (by decide) (by decide)) q170a q170c (g := (mkF m 79 #[.val (.int p1), .val (.int p2), .val (.int p3), .val (.int p4), .val (.int p5), .val (.int cap), .val (.int (Int32.ofNat kn)), .val (.int fi), .val (.ref b110), .val (.long (1 : Int64)), .second, .unset, .unset] [(.double (FP.i2d p4)), (.ref b110)])) rfl (by rw [hml]; rfl) (Steps.refl _) (argsL := [(.double (FP.i2d p4))]) (rest := []) (lenOf pd__28D_29V rfl) rfl (by show 2 * 0 + _ ≤ _; exact Nat.le_of_eq rfl) (hb hby at_79) (fun _ _ => ⟨rfl, rfl, (by decide : 3 + 0 ≤ _), (by decide : 4103 + 0 ≤ _)⟩)
    dsimp only [Pt.U, Pt.locs, Pt.cells, Pt.slots] at X170 l170 y170 z170 st170 hQ170
    subst l170 y170 z170
    obtain ⟨rfl, N170q, K170, x170_0, x170_1, x170_2, x170_3, x170_4⟩ := hQ170
    have N170 := Fr.app N165 N170q
    have z171 : n0 ≤ T170.heap.size := Nat.le_trans z166 K170.1
    have f172 : Exa Z T170.heap b110 "com/example/attacca/attacca/DecimatingBuffer" := (f167.keep K170)
    have f173 : Exa Z T170.heap l1_113 "java/util/ArrayList" := (f168.keep K170)
    have f174 : Fld Z T170.heap l1_113 "java/util/ArrayList" "size" "I" (.int (0 : Int32)) := (f169.keep K170 (own_nmc (Ne.symm ne114) (own_nmc x113_2 own_nm0)))
    obtain ⟨cq175, kq175, q175a, q175b, q175c⟩ := isOf hZ rfl f172
    obtain ⟨_, _, ⟨T175, L175, kk175, nn175⟩, -, X175, ⟨Lc175, hQ175, l175, y175, z175⟩, st175⟩ := X170.virtualBack hx (y := (⟨"com/example/attacca/attacca/DecimatingBuffer", "accept", "(D)V"⟩ : MethodName)) (z := (⟨"com/example/attacca/attacca/DecimatingBuffer", "accept", "(D)V"⟩ : MethodName)) hown (mvT hZ (hw _ (List.mem_of_getElem? (i := 60) rfl))) (mvT hZ (hw _ (List.mem_of_getElem? (i := 61) rfl))) (notFace_of_selects (args := #[]) (mvT hZ (hw _ (List.mem_of_getElem? (i := 63) rfl)))) (mvT hZ (hw _ (List.mem_of_getElem? (i := 63) rfl))) (mvT hZ (hw _ (List.mem_of_getElem? (i := 62) rfl))) (by decide) (backOf (W := 0) (rmacc l Z a0 hw [] b110 (FP.i2d p5) l1_113 v1_113 kv_113 cap (((List.replicate 7 (Value.double 0)).set 0 (.double (FP.i2d p3))).set 1 (.double (FP.i2d p4))) 2 T170.heap n0 z171 f172 x170_0 x170_1 x170_2 x170_3 f173 f174 x170_4 g_b110 g_v1_113 ne115 ne114 x113_2 (hcap) (by decide) (by simp only [List.length_set, List.length_replicate])) hZ (hw _ (List.mem_of_getElem? (i := 64) rfl)) (hw _ (List.mem_of_getElem? (i := 2) rfl)) (by decide) (by decide)) q175a q175c (g := (mkF m 93 #[.val (.int p1), .val (.int p2), .val (.int p3), .val (.int p4), .val (.int p5), .val (.int cap), .val (.int (Int32.ofNat kn)), .val (.int fi), .val (.ref b110), .val (.long (1 : Int64)), .second, .unset, .unset] [(.double (FP.i2d p5)), (.ref b110)])) rfl (by rw [hml]; rfl) (Steps.refl _) (argsL := [(.double (FP.i2d p5))]) (rest := []) (lenOf pd__28D_29V rfl) rfl (by show 2 * 0 + _ ≤ _; exact Nat.le_of_eq rfl) (hb hby at_93) (fun _ _ => ⟨rfl, rfl, (by decide : 3 + 0 ≤ _), (by decide : 4103 + 0 ≤ _)⟩)
    dsimp only [Pt.U, Pt.locs, Pt.cells, Pt.slots] at X175 l175 y175 z175 st175 hQ175
    subst l175 y175 z175
    obtain ⟨rfl, N175q, K175, x175_0, x175_1, x175_2, x175_3, x175_4⟩ := hQ175
    have N175 := Fr.app N170 N175q
    have z176 : n0 ≤ T175.heap.size := Nat.le_trans z171 K175.1
    have pre177 : ∀ t_, Steps p.tables e below (T175.setTop (mkF m 162 #[.val (.int p1), .val (.int p2), .val (.int p3), .val (.int p4), .val (.int p5), .val (.int cap), .val (.int (Int32.ofNat kn)), .val (.int fi), .val (.ref b110), .val (.long (1 : Int64)), .second, .unset, .unset] [(.int fi)])) t_ → Steps p.tables e below (s₁.setTop (entryFrame m #[(.int p1), (.int p2), (.int p3), (.int p4), (.int p5)] maxLocals)) t_ := fun t_ kt => pre119 t_ (by
        show Steps p.tables e below (T118.setTop (mkF m 59 #[.val (.int p1), .val (.int p2), .val (.int p3), .val (.int p4), .val (.int p5), .val (.int cap), .val (.int (Int32.ofNat kn)), .val (.int fi), .val (.ref b110), .val (.long (1 : Int64)), .second, .unset, .unset] [(.int (Int32.ofNat kn))])) _
        refine XS.ifNo X118.here hx rfl (hb hby at_59) rfl ((if0 _ _).trans (tlt (lt32 (i := 0) (n := kn) (by omega) (by omega) : (0 : Int32) < (Int32.ofNat kn))).2.2.2) ?_
        show Steps p.tables e below (T118.setTop (mkF m 62 #[.val (.int p1), .val (.int p2), .val (.int p3), .val (.int p4), .val (.int p5), .val (.int cap), .val (.int (Int32.ofNat kn)), .val (.int fi), .val (.ref b110), .val (.long (1 : Int64)), .second, .unset, .unset] [])) _
        refine XS.aload X118.here hx rfl (hb hby at_62) rfl rfl ?_
        show Steps p.tables e below (T118.setTop (mkF m 64 #[.val (.int p1), .val (.int p2), .val (.int p3), .val (.int p4), .val (.int p5), .val (.int cap), .val (.int (Int32.ofNat kn)), .val (.int fi), .val (.ref b110), .val (.long (1 : Int64)), .second, .unset, .unset] [(.ref b110)])) _
        refine XS.iloadN X118.here hx rfl (hb hby at_64) rfl ?_
        show Steps p.tables e below (T118.setTop (mkF m 65 #[.val (.int p1), .val (.int p2), .val (.int p3), .val (.int p4), .val (.int p5), .val (.int cap), .val (.int (Int32.ofNat kn)), .val (.int fi), .val (.ref b110), .val (.long (1 : Int64)), .second, .unset, .unset] [(.int p3), (.ref b110)])) _
        refine XS.i2dS X118.here hx rfl (hb hby at_65) rfl (v := (FP.i2d p3)) rfl ?_
        show Steps p.tables e below (T118.setTop (mkF m 66 #[.val (.int p1), .val (.int p2), .val (.int p3), .val (.int p4), .val (.int p5), .val (.int cap), .val (.int (Int32.ofNat kn)), .val (.int fi), .val (.ref b110), .val (.long (1 : Int64)), .second, .unset, .unset] [(.double (FP.i2d p3)), (.ref b110)])) _
        refine st165.trans ?_
        show Steps p.tables e below (T165.setTop (mkF m 69 #[.val (.int p1), .val (.int p2), .val (.int p3), .val (.int p4), .val (.int p5), .val (.int cap), .val (.int (Int32.ofNat kn)), .val (.int fi), .val (.ref b110), .val (.long (1 : Int64)), .second, .unset, .unset] [])) _
        refine XS.iload X165.here hx rfl (hb hby at_69) rfl ?_
        show Steps p.tables e below (T165.setTop (mkF m 71 #[.val (.int p1), .val (.int p2), .val (.int p3), .val (.int p4), .val (.int p5), .val (.int cap), .val (.int (Int32.ofNat kn)), .val (.int fi), .val (.ref b110), .val (.long (1 : Int64)), .second, .unset, .unset] [(.int (Int32.ofNat kn))])) _
        refine XS.iconst X165.here hx rfl (hb hby at_71) ?_
        show Steps p.tables e below (T165.setTop (mkF m 72 #[.val (.int p1), .val (.int p2), .val (.int p3), .val (.int p4), .val (.int p5), .val (.int cap), .val (.int (Int32.ofNat kn)), .val (.int fi), .val (.ref b110), .val (.long (1 : Int64)), .second, .unset, .unset] [(.int (1 : Int32)), (.int (Int32.ofNat kn))])) _
        refine XS.icmpNo X165.here hx rfl (hb hby at_72) rfl (tlt (lt32 (i := 1) (n := kn) (by omega) (by omega) : (1 : Int32) < (Int32.ofNat kn))).2.2.2 ?_
        show Steps p.tables e below (T165.setTop (mkF m 75 #[.val (.int p1), .val (.int p2), .val (.int p3), .val (.int p4), .val (.int p5), .val (.int cap), .val (.int (Int32.ofNat kn)), .val (.int fi), .val (.ref b110), .val (.long (1 : Int64)), .second, .unset, .unset] [])) _
        refine XS.aload X165.here hx rfl (hb hby at_75) rfl rfl ?_
        show Steps p.tables e below (T165.setTop (mkF m 77 #[.val (.int p1), .val (.int p2), .val (.int p3), .val (.int p4), .val (.int p5), .val (.int cap), .val (.int (Int32.ofNat kn)), .val (.int fi), .val (.ref b110), .val (.long (1 : Int64)), .second, .unset, .unset] [(.ref b110)])) _
        refine XS.iloadN X165.here hx rfl (hb hby at_77) rfl ?_
        show Steps p.tables e below (T165.setTop (mkF m 78 #[.val (.int p1), .val (.int p2), .val (.int p3), .val (.int p4), .val (.int p5), .val (.int cap), .val (.int (Int32.ofNat kn)), .val (.int fi), .val (.ref b110), .val (.long (1 : Int64)), .second, .unset, .unset] [(.int p4), (.ref b110)])) _
        refine XS.i2dS X165.here hx rfl (hb hby at_78) rfl (v := (FP.i2d p4)) rfl ?_
        show Steps p.tables e below (T165.setTop (mkF m 79 #[.val (.int p1), .val (.int p2), .val (.int p3), .val (.int p4), .val (.int p5), .val (.int cap), .val (.int (Int32.ofNat kn)), .val (.int fi), .val (.ref b110), .val (.long (1 : Int64)), .second, .unset, .unset] [(.double (FP.i2d p4)), (.ref b110)])) _
        refine st170.trans ?_
        show Steps p.tables e below (T170.setTop (mkF m 82 #[.val (.int p1), .val (.int p2), .val (.int p3), .val (.int p4), .val (.int p5), .val (.int cap), .val (.int (Int32.ofNat kn)), .val (.int fi), .val (.ref b110), .val (.long (1 : Int64)), .second, .unset, .unset] [])) _
        refine XS.iload X170.here hx rfl (hb hby at_82) rfl ?_
        show Steps p.tables e below (T170.setTop (mkF m 84 #[.val (.int p1), .val (.int p2), .val (.int p3), .val (.int p4), .val (.int p5), .val (.int cap), .val (.int (Int32.ofNat kn)), .val (.int fi), .val (.ref b110), .val (.long (1 : Int64)), .second, .unset, .unset] [(.int (Int32.ofNat kn))])) _
        refine XS.iconst X170.here hx rfl (hb hby at_84) ?_
        show Steps p.tables e below (T170.setTop (mkF m 85 #[.val (.int p1), .val (.int p2), .val (.int p3), .val (.int p4), .val (.int p5), .val (.int cap), .val (.int (Int32.ofNat kn)), .val (.int fi), .val (.ref b110), .val (.long (1 : Int64)), .second, .unset, .unset] [(.int (2 : Int32)), (.int (Int32.ofNat kn))])) _
        refine XS.icmpNo X170.here hx rfl (hb hby at_85) rfl (tlt (lt32 (i := 2) (n := kn) (by omega) (by omega) : (2 : Int32) < (Int32.ofNat kn))).2.2.2 ?_
        show Steps p.tables e below (T170.setTop (mkF m 88 #[.val (.int p1), .val (.int p2), .val (.int p3), .val (.int p4), .val (.int p5), .val (.int cap), .val (.int (Int32.ofNat kn)), .val (.int fi), .val (.ref b110), .val (.long (1 : Int64)), .second, .unset, .unset] [])) _
        refine XS.aload X170.here hx rfl (hb hby at_88) rfl rfl ?_
        show Steps p.tables e below (T170.setTop (mkF m 90 #[.val (.int p1), .val (.int p2), .val (.int p3), .val (.int p4), .val (.int p5), .val (.int cap), .val (.int (Int32.ofNat kn)), .val (.int fi), .val (.ref b110), .val (.long (1 : Int64)), .second, .unset, .unset] [(.ref b110)])) _
        refine XS.iload X170.here hx rfl (hb hby at_90) rfl ?_
        show Steps p.tables e below (T170.setTop (mkF m 92 #[.val (.int p1), .val (.int p2), .val (.int p3), .val (.int p4), .val (.int p5), .val (.int cap), .val (.int (Int32.ofNat kn)), .val (.int fi), .val (.ref b110), .val (.long (1 : Int64)), .second, .unset, .unset] [(.int p5), (.ref b110)])) _
        refine XS.i2dS X170.here hx rfl (hb hby at_92) rfl (v := (FP.i2d p5)) rfl ?_
        show Steps p.tables e below (T170.setTop (mkF m 93 #[.val (.int p1), .val (.int p2), .val (.int p3), .val (.int p4), .val (.int p5), .val (.int cap), .val (.int (Int32.ofNat kn)), .val (.int fi), .val (.ref b110), .val (.long (1 : Int64)), .second, .unset, .unset] [(.double (FP.i2d p5)), (.ref b110)])) _
        refine st175.trans ?_
        show Steps p.tables e below (T175.setTop (mkF m 96 #[.val (.int p1), .val (.int p2), .val (.int p3), .val (.int p4), .val (.int p5), .val (.int cap), .val (.int (Int32.ofNat kn)), .val (.int fi), .val (.ref b110), .val (.long (1 : Int64)), .second, .unset, .unset] [])) _
        refine XS.iload X175.here hx rfl (hb hby at_96) rfl ?_
        show Steps p.tables e below (T175.setTop (mkF m 98 #[.val (.int p1), .val (.int p2), .val (.int p3), .val (.int p4), .val (.int p5), .val (.int cap), .val (.int (Int32.ofNat kn)), .val (.int fi), .val (.ref b110), .val (.long (1 : Int64)), .second, .unset, .unset] [(.int (Int32.ofNat kn))])) _
        refine XS.iconst X175.here hx rfl (hb hby at_98) ?_
        show Steps p.tables e below (T175.setTop (mkF m 99 #[.val (.int p1), .val (.int p2), .val (.int p3), .val (.int p4), .val (.int p5), .val (.int cap), .val (.int (Int32.ofNat kn)), .val (.int fi), .val (.ref b110), .val (.long (1 : Int64)), .second, .unset, .unset] [(.int (3 : Int32)), (.int (Int32.ofNat kn))])) _
        refine XS.icmpYes X175.here hx rfl (pc0 := 99) (pc' := 111) rfl (hb hby at_99) rfl (flt (nlt32 (i := 3) (n := kn) (by omega) (by omega) : ¬ ((3 : Int32) < (Int32.ofNat kn)))).2.2.2 (by decide) (by decide) ?_
        show Steps p.tables e below (T175.setTop (mkF m 111 #[.val (.int p1), .val (.int p2), .val (.int p3), .val (.int p4), .val (.int p5), .val (.int cap), .val (.int (Int32.ofNat kn)), .val (.int fi), .val (.ref b110), .val (.long (1 : Int64)), .second, .unset, .unset] [])) _
        refine XS.iload X175.here hx rfl (hb hby at_111) rfl ?_
        show Steps p.tables e below (T175.setTop (mkF m 113 #[.val (.int p1), .val (.int p2), .val (.int p3), .val (.int p4), .val (.int p5), .val (.int cap), .val (.int (Int32.ofNat kn)), .val (.int fi), .val (.ref b110), .val (.long (1 : Int64)), .second, .unset, .unset] [(.int (Int32.ofNat kn))])) _
        refine XS.iconst X175.here hx rfl (hb hby at_113) ?_
        show Steps p.tables e below (T175.setTop (mkF m 114 #[.val (.int p1), .val (.int p2), .val (.int p3), .val (.int p4), .val (.int p5), .val (.int cap), .val (.int (Int32.ofNat kn)), .val (.int fi), .val (.ref b110), .val (.long (1 : Int64)), .second, .unset, .unset] [(.int (4 : Int32)), (.int (Int32.ofNat kn))])) _
        refine XS.icmpYes X175.here hx rfl (pc0 := 114) (pc' := 127) rfl (hb hby at_114) rfl (flt (nlt32 (i := 4) (n := kn) (by omega) (by omega) : ¬ ((4 : Int32) < (Int32.ofNat kn)))).2.2.2 (by decide) (by decide) ?_
        show Steps p.tables e below (T175.setTop (mkF m 127 #[.val (.int p1), .val (.int p2), .val (.int p3), .val (.int p4), .val (.int p5), .val (.int cap), .val (.int (Int32.ofNat kn)), .val (.int fi), .val (.ref b110), .val (.long (1 : Int64)), .second, .unset, .unset] [])) _
        refine XS.iload X175.here hx rfl (hb hby at_127) rfl ?_
        show Steps p.tables e below (T175.setTop (mkF m 129 #[.val (.int p1), .val (.int p2), .val (.int p3), .val (.int p4), .val (.int p5), .val (.int cap), .val (.int (Int32.ofNat kn)), .val (.int fi), .val (.ref b110), .val (.long (1 : Int64)), .second, .unset, .unset] [(.int (Int32.ofNat kn))])) _
        refine XS.iconst X175.here hx rfl (hb hby at_129) ?_
        show Steps p.tables e below (T175.setTop (mkF m 130 #[.val (.int p1), .val (.int p2), .val (.int p3), .val (.int p4), .val (.int p5), .val (.int cap), .val (.int (Int32.ofNat kn)), .val (.int fi), .val (.ref b110), .val (.long (1 : Int64)), .second, .unset, .unset] [(.int (5 : Int32)), (.int (Int32.ofNat kn))])) _
        refine XS.icmpYes X175.here hx rfl (pc0 := 130) (pc' := 143) rfl (hb hby at_130) rfl (flt (nlt32 (i := 5) (n := kn) (by omega) (by omega) : ¬ ((5 : Int32) < (Int32.ofNat kn)))).2.2.2 (by decide) (by decide) ?_
        show Steps p.tables e below (T175.setTop (mkF m 143 #[.val (.int p1), .val (.int p2), .val (.int p3), .val (.int p4), .val (.int p5), .val (.int cap), .val (.int (Int32.ofNat kn)), .val (.int fi), .val (.ref b110), .val (.long (1 : Int64)), .second, .unset, .unset] [])) _
        refine XS.iload X175.here hx rfl (hb hby at_143) rfl ?_
        show Steps p.tables e below (T175.setTop (mkF m 145 #[.val (.int p1), .val (.int p2), .val (.int p3), .val (.int p4), .val (.int p5), .val (.int cap), .val (.int (Int32.ofNat kn)), .val (.int fi), .val (.ref b110), .val (.long (1 : Int64)), .second, .unset, .unset] [(.int (Int32.ofNat kn))])) _
        refine XS.bipush X175.here hx rfl (hb hby at_145) ?_
        show Steps p.tables e below (T175.setTop (mkF m 147 #[.val (.int p1), .val (.int p2), .val (.int p3), .val (.int p4), .val (.int p5), .val (.int cap), .val (.int (Int32.ofNat kn)), .val (.int fi), .val (.ref b110), .val (.long (1 : Int64)), .second, .unset, .unset] [(.int (6 : Int32)), (.int (Int32.ofNat kn))])) _
        refine XS.icmpYes X175.here hx rfl (pc0 := 147) (pc' := 160) rfl (hb hby at_147) rfl (flt (nlt32 (i := 6) (n := kn) (by omega) (by omega) : ¬ ((6 : Int32) < (Int32.ofNat kn)))).2.2.2 (by decide) (by decide) ?_
        show Steps p.tables e below (T175.setTop (mkF m 160 #[.val (.int p1), .val (.int p2), .val (.int p3), .val (.int p4), .val (.int p5), .val (.int cap), .val (.int (Int32.ofNat kn)), .val (.int fi), .val (.ref b110), .val (.long (1 : Int64)), .second, .unset, .unset] [])) _
        refine XS.iload X175.here hx rfl (hb hby at_160) rfl ?_
        exact kt)
    by_cases hF : fi = (0 : Int32)
    · skip
      have f178 : Exa Z T175.heap b110 "com/example/attacca/attacca/DecimatingBuffer" := (f172.keep K175)
      have f179 : Exa Z T175.heap l1_113 "java/util/ArrayList" := (f173.keep K175)
      have f180 : Fld Z T175.heap l1_113 "java/util/ArrayList" "size" "I" (.int (0 : Int32)) := (f174.keep K175 (own_nmc (Ne.symm ne114) (own_nmc x113_2 own_nm0)))
      obtain ⟨cq181, kq181, q181a, q181b, q181c⟩ := isOf hZ rfl f178
      obtain ⟨_, _, ⟨T181, L181, kk181, nn181⟩, -, X181, ⟨Lc181, hQ181, l181, y181, z181⟩, st181⟩ := X175.virtualBack hx (y := (⟨"com/example/attacca/attacca/DecimatingBuffer", "stride", "()J"⟩ : MethodName)) (z := (⟨"com/example/attacca/attacca/DecimatingBuffer", "stride", "()J"⟩ : MethodName)) hown (mvT hZ (hw _ (List.mem_of_getElem? (i := 44) rfl))) (mvT hZ (hw _ (List.mem_of_getElem? (i := 45) rfl))) (notFace_of_selects (args := #[]) (mvT hZ (hw _ (List.mem_of_getElem? (i := 47) rfl)))) (mvT hZ (hw _ (List.mem_of_getElem? (i := 47) rfl))) (mvT hZ (hw _ (List.mem_of_getElem? (i := 46) rfl))) (by decide) (backOf (W := 0) (rmstride l Z a0 hw [] b110 l1_113 T175.heap n0 z176 f178 x175_0 f179 f180) hZ (hw _ (List.mem_of_getElem? (i := 48) rfl)) (hw _ (List.mem_of_getElem? (i := 2) rfl)) (by decide) (by decide)) q181a q181c (g := (mkF m 172 #[.val (.int p1), .val (.int p2), .val (.int p3), .val (.int p4), .val (.int p5), .val (.int cap), .val (.int (Int32.ofNat kn)), .val (.int fi), .val (.ref b110), .val (.long (1 : Int64)), .second, .unset, .unset] [(.ref b110)])) rfl (by rw [hml]; rfl) (Steps.refl _) (argsL := []) (rest := []) (lenOf pd__28_29J rfl) rfl (by show 2 * 0 + _ ≤ _; exact Nat.le_of_eq rfl) (hb hby at_172) (fun _ _ => ⟨rfl, rfl, (by decide : 3 + 0 ≤ _), (by decide : 4103 + 0 ≤ _)⟩)
      dsimp only [Pt.U, Pt.locs, Pt.cells, Pt.slots] at X181 l181 y181 z181 st181 hQ181
      subst l181 y181 z181
      obtain ⟨rfl, N181q, e181⟩ := hQ181
      have N181 := Fr.app N175 N181q
      obtain ⟨cq182, kq182, q182a, q182b, q182c⟩ := isOf hZ e181 f178
      obtain ⟨_, _, ⟨T182, L182, kk182, nn182⟩, -, X182, ⟨Lc182, hQ182, l182, y182, z182⟩, st182⟩ := X181.virtualBack hx (y := (⟨"com/example/attacca/attacca/DecimatingBuffer", "count", "()I"⟩ : MethodName)) (z := (⟨"com/example/attacca/attacca/DecimatingBuffer", "count", "()I"⟩ : MethodName)) hown (mvT hZ (hw _ (List.mem_of_getElem? (i := 71) rfl))) (mvT hZ (hw _ (List.mem_of_getElem? (i := 72) rfl))) (notFace_of_selects (args := #[]) (mvT hZ (hw _ (List.mem_of_getElem? (i := 74) rfl)))) (mvT hZ (hw _ (List.mem_of_getElem? (i := 74) rfl))) (mvT hZ (hw _ (List.mem_of_getElem? (i := 73) rfl))) (by decide) (backOf (W := 0) (rmcount l Z a0 hw [] b110 3 T175.heap n0 z176 f178 x175_3) hZ (hw _ (List.mem_of_getElem? (i := 75) rfl)) (hw _ (List.mem_of_getElem? (i := 2) rfl)) (by decide) (by decide)) q182a q182c (g := (mkF m 193 #[.val (.int p1), .val (.int p2), .val (.int p3), .val (.int p4), .val (.int p5), .val (.int cap), .val (.int (Int32.ofNat kn)), .val (.int fi), .val (.ref b110), .val (.long (1 : Int64)), .second, .val (.long (1 : Int64)), .second] [(.ref b110)])) rfl (by rw [hml]; rfl) (Steps.refl _) (argsL := []) (rest := []) (lenOf pd__28_29I rfl) rfl (by show 2 * 0 + _ ≤ _; exact Nat.le_of_eq rfl) (hb hby at_193) (fun _ _ => ⟨rfl, e181, (by decide : 3 + 0 ≤ _), (by decide : 4103 + 0 ≤ _)⟩)
      dsimp only [Pt.U, Pt.locs, Pt.cells, Pt.slots] at X182 l182 y182 z182 st182 hQ182
      subst l182 y182 z182
      obtain ⟨rfl, N182q, e182⟩ := hQ182
      have N182 := Fr.app N181 N182q
      have pre183 : ∀ t_, Steps p.tables e below (T182.setTop (mkF m 206 #[.val (.int p1), .val (.int p2), .val (.int p3), .val (.int p4), .val (.int p5), .val (.int cap), .val (.int (Int32.ofNat kn)), .val (.int fi), .val (.ref b110), .val (.long (1 : Int64)), .second, .val (.long (1 : Int64)), .second] [(.int (1 : Int32))])) t_ → Steps p.tables e below (s₁.setTop (entryFrame m #[(.int p1), (.int p2), (.int p3), (.int p4), (.int p5)] maxLocals)) t_ := fun t_ kt => pre177 t_ (by
          show Steps p.tables e below (T175.setTop (mkF m 162 #[.val (.int p1), .val (.int p2), .val (.int p3), .val (.int p4), .val (.int p5), .val (.int cap), .val (.int (Int32.ofNat kn)), .val (.int fi), .val (.ref b110), .val (.long (1 : Int64)), .second, .unset, .unset] [(.int fi)])) _
          refine XS.ifYes X175.here hx rfl (pc0 := 162) (pc' := 170) rfl (hb hby at_162) rfl ((if0 _ _).trans (teq (hF : fi = (0 : Int32))).1) (by decide) (by decide) ?_
          show Steps p.tables e below (T175.setTop (mkF m 170 #[.val (.int p1), .val (.int p2), .val (.int p3), .val (.int p4), .val (.int p5), .val (.int cap), .val (.int (Int32.ofNat kn)), .val (.int fi), .val (.ref b110), .val (.long (1 : Int64)), .second, .unset, .unset] [])) _
          refine XS.aload X175.here hx rfl (hb hby at_170) rfl rfl ?_
          show Steps p.tables e below (T175.setTop (mkF m 172 #[.val (.int p1), .val (.int p2), .val (.int p3), .val (.int p4), .val (.int p5), .val (.int cap), .val (.int (Int32.ofNat kn)), .val (.int fi), .val (.ref b110), .val (.long (1 : Int64)), .second, .unset, .unset] [(.ref b110)])) _
          refine st181.trans ?_
          show Steps p.tables e below (T181.setTop (mkF m 175 #[.val (.int p1), .val (.int p2), .val (.int p3), .val (.int p4), .val (.int p5), .val (.int cap), .val (.int (Int32.ofNat kn)), .val (.int fi), .val (.ref b110), .val (.long (1 : Int64)), .second, .unset, .unset] [(.long (1 : Int64))])) _
          refine XS.lstore X181.here hx rfl (hb hby at_175) rfl (l' := #[.val (.int p1), .val (.int p2), .val (.int p3), .val (.int p4), .val (.int p5), .val (.int cap), .val (.int (Int32.ofNat kn)), .val (.int fi), .val (.ref b110), .val (.long (1 : Int64)), .second, .val (.long (1 : Int64)), .second]) rfl ?_
          show Steps p.tables e below (T181.setTop (mkF m 177 #[.val (.int p1), .val (.int p2), .val (.int p3), .val (.int p4), .val (.int p5), .val (.int cap), .val (.int (Int32.ofNat kn)), .val (.int fi), .val (.ref b110), .val (.long (1 : Int64)), .second, .val (.long (1 : Int64)), .second] [])) _
          refine XS.lload X181.here hx rfl (hb hby at_177) rfl ?_
          show Steps p.tables e below (T181.setTop (mkF m 179 #[.val (.int p1), .val (.int p2), .val (.int p3), .val (.int p4), .val (.int p5), .val (.int cap), .val (.int (Int32.ofNat kn)), .val (.int fi), .val (.ref b110), .val (.long (1 : Int64)), .second, .val (.long (1 : Int64)), .second] [(.long (1 : Int64))])) _
          refine XS.lconst X181.here hx rfl (hb hby at_179) ?_
          show Steps p.tables e below (T181.setTop (mkF m 180 #[.val (.int p1), .val (.int p2), .val (.int p3), .val (.int p4), .val (.int p5), .val (.int cap), .val (.int (Int32.ofNat kn)), .val (.int fi), .val (.ref b110), .val (.long (1 : Int64)), .second, .val (.long (1 : Int64)), .second] [(.long (1 : Int64)), (.long (1 : Int64))])) _
          refine XS.lcmp X181.here hx rfl (hb hby at_180) rfl ?_
          show Steps p.tables e below (T181.setTop (mkF m 181 #[.val (.int p1), .val (.int p2), .val (.int p3), .val (.int p4), .val (.int p5), .val (.int cap), .val (.int (Int32.ofNat kn)), .val (.int fi), .val (.ref b110), .val (.long (1 : Int64)), .second, .val (.long (1 : Int64)), .second] [(.int (lcmpW (1 : Int64) (1 : Int64)))])) _
          refine XS.ifNo X181.here hx rfl (hb hby at_181) rfl ((if0 _ _).trans (teq ((by decide) : (lcmpW (1 : Int64) (1 : Int64)) = (0 : Int32))).2) ?_
          show Steps p.tables e below (T181.setTop (mkF m 184 #[.val (.int p1), .val (.int p2), .val (.int p3), .val (.int p4), .val (.int p5), .val (.int cap), .val (.int (Int32.ofNat kn)), .val (.int fi), .val (.ref b110), .val (.long (1 : Int64)), .second, .val (.long (1 : Int64)), .second] [])) _
          refine XS.lload X181.here hx rfl (hb hby at_184) rfl ?_
          show Steps p.tables e below (T181.setTop (mkF m 186 #[.val (.int p1), .val (.int p2), .val (.int p3), .val (.int p4), .val (.int p5), .val (.int cap), .val (.int (Int32.ofNat kn)), .val (.int fi), .val (.ref b110), .val (.long (1 : Int64)), .second, .val (.long (1 : Int64)), .second] [(.long (1 : Int64))])) _
          refine XS.lconst X181.here hx rfl (hb hby at_186) ?_
          show Steps p.tables e below (T181.setTop (mkF m 187 #[.val (.int p1), .val (.int p2), .val (.int p3), .val (.int p4), .val (.int p5), .val (.int cap), .val (.int (Int32.ofNat kn)), .val (.int fi), .val (.ref b110), .val (.long (1 : Int64)), .second, .val (.long (1 : Int64)), .second] [(.long (1 : Int64)), (.long (1 : Int64))])) _
          refine XS.lcmp X181.here hx rfl (hb hby at_187) rfl ?_
          show Steps p.tables e below (T181.setTop (mkF m 188 #[.val (.int p1), .val (.int p2), .val (.int p3), .val (.int p4), .val (.int p5), .val (.int cap), .val (.int (Int32.ofNat kn)), .val (.int fi), .val (.ref b110), .val (.long (1 : Int64)), .second, .val (.long (1 : Int64)), .second] [(.int (lcmpW (1 : Int64) (1 : Int64)))])) _
          refine XS.ifNo X181.here hx rfl (hb hby at_188) rfl ((if0 _ _).trans (teq ((by decide) : (lcmpW (1 : Int64) (1 : Int64)) = (0 : Int32))).2) ?_
          show Steps p.tables e below (T181.setTop (mkF m 191 #[.val (.int p1), .val (.int p2), .val (.int p3), .val (.int p4), .val (.int p5), .val (.int cap), .val (.int (Int32.ofNat kn)), .val (.int fi), .val (.ref b110), .val (.long (1 : Int64)), .second, .val (.long (1 : Int64)), .second] [])) _
          refine XS.aload X181.here hx rfl (hb hby at_191) rfl rfl ?_
          show Steps p.tables e below (T181.setTop (mkF m 193 #[.val (.int p1), .val (.int p2), .val (.int p3), .val (.int p4), .val (.int p5), .val (.int cap), .val (.int (Int32.ofNat kn)), .val (.int fi), .val (.ref b110), .val (.long (1 : Int64)), .second, .val (.long (1 : Int64)), .second] [(.ref b110)])) _
          refine st182.trans ?_
          show Steps p.tables e below (T182.setTop (mkF m 196 #[.val (.int p1), .val (.int p2), .val (.int p3), .val (.int p4), .val (.int p5), .val (.int cap), .val (.int (Int32.ofNat kn)), .val (.int fi), .val (.ref b110), .val (.long (1 : Int64)), .second, .val (.long (1 : Int64)), .second] [(.int (Int32.ofNat 3))])) _
          refine XS.iload X182.here hx rfl (hb hby at_196) rfl ?_
          show Steps p.tables e below (T182.setTop (mkF m 198 #[.val (.int p1), .val (.int p2), .val (.int p3), .val (.int p4), .val (.int p5), .val (.int cap), .val (.int (Int32.ofNat kn)), .val (.int fi), .val (.ref b110), .val (.long (1 : Int64)), .second, .val (.long (1 : Int64)), .second] [(.int (Int32.ofNat kn)), (.int (Int32.ofNat 3))])) _
          refine XS.icmpNo X182.here hx rfl (hb hby at_198) rfl (teq ((congrArg Int32.ofNat hj.symm) : (Int32.ofNat 3) = (Int32.ofNat kn))).2 ?_
          show Steps p.tables e below (T182.setTop (mkF m 201 #[.val (.int p1), .val (.int p2), .val (.int p3), .val (.int p4), .val (.int p5), .val (.int cap), .val (.int (Int32.ofNat kn)), .val (.int fi), .val (.ref b110), .val (.long (1 : Int64)), .second, .val (.long (1 : Int64)), .second] [])) _
          refine XS.iconst X182.here hx rfl (hb hby at_201) ?_
          show Steps p.tables e below (T182.setTop (mkF m 202 #[.val (.int p1), .val (.int p2), .val (.int p3), .val (.int p4), .val (.int p5), .val (.int cap), .val (.int (Int32.ofNat kn)), .val (.int fi), .val (.ref b110), .val (.long (1 : Int64)), .second, .val (.long (1 : Int64)), .second] [(.int (1 : Int32))])) _
          refine XS.goto X182.here hx rfl (pc0 := 202) (pc' := 206) rfl (hb hby at_202) (by decide) (by decide) ?_
          exact kt)
      obtain ⟨fs, hr, hrun, hended, hW, hsame⟩ := X182.leave (v := some (.int (1 : Int32))) (fun h => by rw [Bd.returns] at h; cases h)
      refine ⟨_, _, pre183 _ ?_, hrun, hended, _, _, rfl, ?_, ⟨_, rfl⟩, hW, hsame.mono (by decide) (by decide)⟩
      · show Steps p.tables e below (T182.setTop (mkF m 206 #[.val (.int p1), .val (.int p2), .val (.int p3), .val (.int p4), .val (.int p5), .val (.int cap), .val (.int (Int32.ofNat kn)), .val (.int fi), .val (.ref b110), .val (.long (1 : Int64)), .second, .val (.long (1 : Int64)), .second] [(.int (1 : Int32))])) _
        exact retN X182 hx (t := .boolean) Bd.returns (by simp) (hb hby at_206) hr
      · show Q0 Z p1 p2 p3 p4 p5 DC h0 n0 _ T182.heap _
        rw [e182]
        exact ⟨rfl, N182⟩
    · skip
      have f184 : Exa Z T175.heap b110 "com/example/attacca/attacca/DecimatingBuffer" := (f172.keep K175)
      have f185 : Exa Z T175.heap l1_113 "java/util/ArrayList" := (f173.keep K175)
      have f186 : Fld Z T175.heap l1_113 "java/util/ArrayList" "size" "I" (.int (0 : Int32)) := (f174.keep K175 (own_nmc (Ne.symm ne114) (own_nmc x113_2 own_nm0)))
      obtain ⟨cq187, kq187, q187a, q187b, q187c⟩ := isOf hZ rfl f184
      obtain ⟨_, _, ⟨T187, L187, kk187, nn187⟩, -, X187, ⟨Lc187, hQ187, l187, y187, z187⟩, st187⟩ := X175.virtualBack hx (y := (⟨"com/example/attacca/attacca/DecimatingBuffer", "end", "()V"⟩ : MethodName)) (z := (⟨"com/example/attacca/attacca/DecimatingBuffer", "end", "()V"⟩ : MethodName)) hown (mvT hZ (hw _ (List.mem_of_getElem? (i := 76) rfl))) (mvT hZ (hw _ (List.mem_of_getElem? (i := 77) rfl))) (notFace_of_selects (args := #[]) (mvT hZ (hw _ (List.mem_of_getElem? (i := 79) rfl)))) (mvT hZ (hw _ (List.mem_of_getElem? (i := 79) rfl))) (mvT hZ (hw _ (List.mem_of_getElem? (i := 78) rfl))) (by decide) (backOf (W := 0) (rmend l Z a0 hw [] b110 l1_113 T175.heap n0 z176 f184 x175_0 f185 f186) hZ (hw _ (List.mem_of_getElem? (i := 80) rfl)) (hw _ (List.mem_of_getElem? (i := 2) rfl)) (by decide) (by decide)) q187a q187c (g := (mkF m 167 #[.val (.int p1), .val (.int p2), .val (.int p3), .val (.int p4), .val (.int p5), .val (.int cap), .val (.int (Int32.ofNat kn)), .val (.int fi), .val (.ref b110), .val (.long (1 : Int64)), .second, .unset, .unset] [(.ref b110)])) rfl (by rw [hml]; rfl) (Steps.refl _) (argsL := []) (rest := []) (lenOf pd__28_29V rfl) rfl (by show 2 * 0 + _ ≤ _; exact Nat.le_of_eq rfl) (hb hby at_167) (fun _ _ => ⟨rfl, rfl, (by decide : 3 + 0 ≤ _), (by decide : 4103 + 0 ≤ _)⟩)
      dsimp only [Pt.U, Pt.locs, Pt.cells, Pt.slots] at X187 l187 y187 z187 st187 hQ187
      subst l187 y187 z187
      obtain ⟨rfl, N187q, e187⟩ := hQ187
      have N187 := Fr.app N175 N187q
      obtain ⟨cq188, kq188, q188a, q188b, q188c⟩ := isOf hZ e187 f184
      obtain ⟨_, _, ⟨T188, L188, kk188, nn188⟩, -, X188, ⟨Lc188, hQ188, l188, y188, z188⟩, st188⟩ := X187.virtualBack hx (y := (⟨"com/example/attacca/attacca/DecimatingBuffer", "stride", "()J"⟩ : MethodName)) (z := (⟨"com/example/attacca/attacca/DecimatingBuffer", "stride", "()J"⟩ : MethodName)) hown (mvT hZ (hw _ (List.mem_of_getElem? (i := 44) rfl))) (mvT hZ (hw _ (List.mem_of_getElem? (i := 45) rfl))) (notFace_of_selects (args := #[]) (mvT hZ (hw _ (List.mem_of_getElem? (i := 47) rfl)))) (mvT hZ (hw _ (List.mem_of_getElem? (i := 47) rfl))) (mvT hZ (hw _ (List.mem_of_getElem? (i := 46) rfl))) (by decide) (backOf (W := 0) (rmstride l Z a0 hw [] b110 l1_113 T175.heap n0 z176 f184 x175_0 f185 f186) hZ (hw _ (List.mem_of_getElem? (i := 48) rfl)) (hw _ (List.mem_of_getElem? (i := 2) rfl)) (by decide) (by decide)) q188a q188c (g := (mkF m 172 #[.val (.int p1), .val (.int p2), .val (.int p3), .val (.int p4), .val (.int p5), .val (.int cap), .val (.int (Int32.ofNat kn)), .val (.int fi), .val (.ref b110), .val (.long (1 : Int64)), .second, .unset, .unset] [(.ref b110)])) rfl (by rw [hml]; rfl) (Steps.refl _) (argsL := []) (rest := []) (lenOf pd__28_29J rfl) rfl (by show 2 * 0 + _ ≤ _; exact Nat.le_of_eq rfl) (hb hby at_172) (fun _ _ => ⟨rfl, e187, (by decide : 3 + 0 ≤ _), (by decide : 4103 + 0 ≤ _)⟩)
      dsimp only [Pt.U, Pt.locs, Pt.cells, Pt.slots] at X188 l188 y188 z188 st188 hQ188
      subst l188 y188 z188
      obtain ⟨rfl, N188q, e188⟩ := hQ188
      have N188 := Fr.app N187 N188q
      obtain ⟨cq189, kq189, q189a, q189b, q189c⟩ := isOf hZ e188 f184
      obtain ⟨_, _, ⟨T189, L189, kk189, nn189⟩, -, X189, ⟨Lc189, hQ189, l189, y189, z189⟩, st189⟩ := X188.virtualBack hx (y := (⟨"com/example/attacca/attacca/DecimatingBuffer", "count", "()I"⟩ : MethodName)) (z := (⟨"com/example/attacca/attacca/DecimatingBuffer", "count", "()I"⟩ : MethodName)) hown (mvT hZ (hw _ (List.mem_of_getElem? (i := 71) rfl))) (mvT hZ (hw _ (List.mem_of_getElem? (i := 72) rfl))) (notFace_of_selects (args := #[]) (mvT hZ (hw _ (List.mem_of_getElem? (i := 74) rfl)))) (mvT hZ (hw _ (List.mem_of_getElem? (i := 74) rfl))) (mvT hZ (hw _ (List.mem_of_getElem? (i := 73) rfl))) (by decide) (backOf (W := 0) (rmcount l Z a0 hw [] b110 3 T175.heap n0 z176 f184 x175_3) hZ (hw _ (List.mem_of_getElem? (i := 75) rfl)) (hw _ (List.mem_of_getElem? (i := 2) rfl)) (by decide) (by decide)) q189a q189c (g := (mkF m 193 #[.val (.int p1), .val (.int p2), .val (.int p3), .val (.int p4), .val (.int p5), .val (.int cap), .val (.int (Int32.ofNat kn)), .val (.int fi), .val (.ref b110), .val (.long (1 : Int64)), .second, .val (.long (1 : Int64)), .second] [(.ref b110)])) rfl (by rw [hml]; rfl) (Steps.refl _) (argsL := []) (rest := []) (lenOf pd__28_29I rfl) rfl (by show 2 * 0 + _ ≤ _; exact Nat.le_of_eq rfl) (hb hby at_193) (fun _ _ => ⟨rfl, e188, (by decide : 3 + 0 ≤ _), (by decide : 4103 + 0 ≤ _)⟩)
      dsimp only [Pt.U, Pt.locs, Pt.cells, Pt.slots] at X189 l189 y189 z189 st189 hQ189
      subst l189 y189 z189
      obtain ⟨rfl, N189q, e189⟩ := hQ189
      have N189 := Fr.app N188 N189q
      have pre190 : ∀ t_, Steps p.tables e below (T189.setTop (mkF m 206 #[.val (.int p1), .val (.int p2), .val (.int p3), .val (.int p4), .val (.int p5), .val (.int cap), .val (.int (Int32.ofNat kn)), .val (.int fi), .val (.ref b110), .val (.long (1 : Int64)), .second, .val (.long (1 : Int64)), .second] [(.int (1 : Int32))])) t_ → Steps p.tables e below (s₁.setTop (entryFrame m #[(.int p1), (.int p2), (.int p3), (.int p4), (.int p5)] maxLocals)) t_ := fun t_ kt => pre177 t_ (by
          show Steps p.tables e below (T175.setTop (mkF m 162 #[.val (.int p1), .val (.int p2), .val (.int p3), .val (.int p4), .val (.int p5), .val (.int cap), .val (.int (Int32.ofNat kn)), .val (.int fi), .val (.ref b110), .val (.long (1 : Int64)), .second, .unset, .unset] [(.int fi)])) _
          refine XS.ifNo X175.here hx rfl (hb hby at_162) rfl ((if0 _ _).trans (feq (hF : ¬ (fi = (0 : Int32)))).1) ?_
          show Steps p.tables e below (T175.setTop (mkF m 165 #[.val (.int p1), .val (.int p2), .val (.int p3), .val (.int p4), .val (.int p5), .val (.int cap), .val (.int (Int32.ofNat kn)), .val (.int fi), .val (.ref b110), .val (.long (1 : Int64)), .second, .unset, .unset] [])) _
          refine XS.aload X175.here hx rfl (hb hby at_165) rfl rfl ?_
          show Steps p.tables e below (T175.setTop (mkF m 167 #[.val (.int p1), .val (.int p2), .val (.int p3), .val (.int p4), .val (.int p5), .val (.int cap), .val (.int (Int32.ofNat kn)), .val (.int fi), .val (.ref b110), .val (.long (1 : Int64)), .second, .unset, .unset] [(.ref b110)])) _
          refine st187.trans ?_
          show Steps p.tables e below (T187.setTop (mkF m 170 #[.val (.int p1), .val (.int p2), .val (.int p3), .val (.int p4), .val (.int p5), .val (.int cap), .val (.int (Int32.ofNat kn)), .val (.int fi), .val (.ref b110), .val (.long (1 : Int64)), .second, .unset, .unset] [])) _
          refine XS.aload X187.here hx rfl (hb hby at_170) rfl rfl ?_
          show Steps p.tables e below (T187.setTop (mkF m 172 #[.val (.int p1), .val (.int p2), .val (.int p3), .val (.int p4), .val (.int p5), .val (.int cap), .val (.int (Int32.ofNat kn)), .val (.int fi), .val (.ref b110), .val (.long (1 : Int64)), .second, .unset, .unset] [(.ref b110)])) _
          refine st188.trans ?_
          show Steps p.tables e below (T188.setTop (mkF m 175 #[.val (.int p1), .val (.int p2), .val (.int p3), .val (.int p4), .val (.int p5), .val (.int cap), .val (.int (Int32.ofNat kn)), .val (.int fi), .val (.ref b110), .val (.long (1 : Int64)), .second, .unset, .unset] [(.long (1 : Int64))])) _
          refine XS.lstore X188.here hx rfl (hb hby at_175) rfl (l' := #[.val (.int p1), .val (.int p2), .val (.int p3), .val (.int p4), .val (.int p5), .val (.int cap), .val (.int (Int32.ofNat kn)), .val (.int fi), .val (.ref b110), .val (.long (1 : Int64)), .second, .val (.long (1 : Int64)), .second]) rfl ?_
          show Steps p.tables e below (T188.setTop (mkF m 177 #[.val (.int p1), .val (.int p2), .val (.int p3), .val (.int p4), .val (.int p5), .val (.int cap), .val (.int (Int32.ofNat kn)), .val (.int fi), .val (.ref b110), .val (.long (1 : Int64)), .second, .val (.long (1 : Int64)), .second] [])) _
          refine XS.lload X188.here hx rfl (hb hby at_177) rfl ?_
          show Steps p.tables e below (T188.setTop (mkF m 179 #[.val (.int p1), .val (.int p2), .val (.int p3), .val (.int p4), .val (.int p5), .val (.int cap), .val (.int (Int32.ofNat kn)), .val (.int fi), .val (.ref b110), .val (.long (1 : Int64)), .second, .val (.long (1 : Int64)), .second] [(.long (1 : Int64))])) _
          refine XS.lconst X188.here hx rfl (hb hby at_179) ?_
          show Steps p.tables e below (T188.setTop (mkF m 180 #[.val (.int p1), .val (.int p2), .val (.int p3), .val (.int p4), .val (.int p5), .val (.int cap), .val (.int (Int32.ofNat kn)), .val (.int fi), .val (.ref b110), .val (.long (1 : Int64)), .second, .val (.long (1 : Int64)), .second] [(.long (1 : Int64)), (.long (1 : Int64))])) _
          refine XS.lcmp X188.here hx rfl (hb hby at_180) rfl ?_
          show Steps p.tables e below (T188.setTop (mkF m 181 #[.val (.int p1), .val (.int p2), .val (.int p3), .val (.int p4), .val (.int p5), .val (.int cap), .val (.int (Int32.ofNat kn)), .val (.int fi), .val (.ref b110), .val (.long (1 : Int64)), .second, .val (.long (1 : Int64)), .second] [(.int (lcmpW (1 : Int64) (1 : Int64)))])) _
          refine XS.ifNo X188.here hx rfl (hb hby at_181) rfl ((if0 _ _).trans (teq ((by decide) : (lcmpW (1 : Int64) (1 : Int64)) = (0 : Int32))).2) ?_
          show Steps p.tables e below (T188.setTop (mkF m 184 #[.val (.int p1), .val (.int p2), .val (.int p3), .val (.int p4), .val (.int p5), .val (.int cap), .val (.int (Int32.ofNat kn)), .val (.int fi), .val (.ref b110), .val (.long (1 : Int64)), .second, .val (.long (1 : Int64)), .second] [])) _
          refine XS.lload X188.here hx rfl (hb hby at_184) rfl ?_
          show Steps p.tables e below (T188.setTop (mkF m 186 #[.val (.int p1), .val (.int p2), .val (.int p3), .val (.int p4), .val (.int p5), .val (.int cap), .val (.int (Int32.ofNat kn)), .val (.int fi), .val (.ref b110), .val (.long (1 : Int64)), .second, .val (.long (1 : Int64)), .second] [(.long (1 : Int64))])) _
          refine XS.lconst X188.here hx rfl (hb hby at_186) ?_
          show Steps p.tables e below (T188.setTop (mkF m 187 #[.val (.int p1), .val (.int p2), .val (.int p3), .val (.int p4), .val (.int p5), .val (.int cap), .val (.int (Int32.ofNat kn)), .val (.int fi), .val (.ref b110), .val (.long (1 : Int64)), .second, .val (.long (1 : Int64)), .second] [(.long (1 : Int64)), (.long (1 : Int64))])) _
          refine XS.lcmp X188.here hx rfl (hb hby at_187) rfl ?_
          show Steps p.tables e below (T188.setTop (mkF m 188 #[.val (.int p1), .val (.int p2), .val (.int p3), .val (.int p4), .val (.int p5), .val (.int cap), .val (.int (Int32.ofNat kn)), .val (.int fi), .val (.ref b110), .val (.long (1 : Int64)), .second, .val (.long (1 : Int64)), .second] [(.int (lcmpW (1 : Int64) (1 : Int64)))])) _
          refine XS.ifNo X188.here hx rfl (hb hby at_188) rfl ((if0 _ _).trans (teq ((by decide) : (lcmpW (1 : Int64) (1 : Int64)) = (0 : Int32))).2) ?_
          show Steps p.tables e below (T188.setTop (mkF m 191 #[.val (.int p1), .val (.int p2), .val (.int p3), .val (.int p4), .val (.int p5), .val (.int cap), .val (.int (Int32.ofNat kn)), .val (.int fi), .val (.ref b110), .val (.long (1 : Int64)), .second, .val (.long (1 : Int64)), .second] [])) _
          refine XS.aload X188.here hx rfl (hb hby at_191) rfl rfl ?_
          show Steps p.tables e below (T188.setTop (mkF m 193 #[.val (.int p1), .val (.int p2), .val (.int p3), .val (.int p4), .val (.int p5), .val (.int cap), .val (.int (Int32.ofNat kn)), .val (.int fi), .val (.ref b110), .val (.long (1 : Int64)), .second, .val (.long (1 : Int64)), .second] [(.ref b110)])) _
          refine st189.trans ?_
          show Steps p.tables e below (T189.setTop (mkF m 196 #[.val (.int p1), .val (.int p2), .val (.int p3), .val (.int p4), .val (.int p5), .val (.int cap), .val (.int (Int32.ofNat kn)), .val (.int fi), .val (.ref b110), .val (.long (1 : Int64)), .second, .val (.long (1 : Int64)), .second] [(.int (Int32.ofNat 3))])) _
          refine XS.iload X189.here hx rfl (hb hby at_196) rfl ?_
          show Steps p.tables e below (T189.setTop (mkF m 198 #[.val (.int p1), .val (.int p2), .val (.int p3), .val (.int p4), .val (.int p5), .val (.int cap), .val (.int (Int32.ofNat kn)), .val (.int fi), .val (.ref b110), .val (.long (1 : Int64)), .second, .val (.long (1 : Int64)), .second] [(.int (Int32.ofNat kn)), (.int (Int32.ofNat 3))])) _
          refine XS.icmpNo X189.here hx rfl (hb hby at_198) rfl (teq ((congrArg Int32.ofNat hj.symm) : (Int32.ofNat 3) = (Int32.ofNat kn))).2 ?_
          show Steps p.tables e below (T189.setTop (mkF m 201 #[.val (.int p1), .val (.int p2), .val (.int p3), .val (.int p4), .val (.int p5), .val (.int cap), .val (.int (Int32.ofNat kn)), .val (.int fi), .val (.ref b110), .val (.long (1 : Int64)), .second, .val (.long (1 : Int64)), .second] [])) _
          refine XS.iconst X189.here hx rfl (hb hby at_201) ?_
          show Steps p.tables e below (T189.setTop (mkF m 202 #[.val (.int p1), .val (.int p2), .val (.int p3), .val (.int p4), .val (.int p5), .val (.int cap), .val (.int (Int32.ofNat kn)), .val (.int fi), .val (.ref b110), .val (.long (1 : Int64)), .second, .val (.long (1 : Int64)), .second] [(.int (1 : Int32))])) _
          refine XS.goto X189.here hx rfl (pc0 := 202) (pc' := 206) rfl (hb hby at_202) (by decide) (by decide) ?_
          exact kt)
      obtain ⟨fs, hr, hrun, hended, hW, hsame⟩ := X189.leave (v := some (.int (1 : Int32))) (fun h => by rw [Bd.returns] at h; cases h)
      refine ⟨_, _, pre190 _ ?_, hrun, hended, _, _, rfl, ?_, ⟨_, rfl⟩, hW, hsame.mono (by decide) (by decide)⟩
      · show Steps p.tables e below (T189.setTop (mkF m 206 #[.val (.int p1), .val (.int p2), .val (.int p3), .val (.int p4), .val (.int p5), .val (.int cap), .val (.int (Int32.ofNat kn)), .val (.int fi), .val (.ref b110), .val (.long (1 : Int64)), .second, .val (.long (1 : Int64)), .second] [(.int (1 : Int32))])) _
        exact retN X189 hx (t := .boolean) Bd.returns (by simp) (hb hby at_206) hr
      · show Q0 Z p1 p2 p3 p4 p5 DC h0 n0 _ T189.heap _
        rw [e189]
        exact ⟨rfl, N189⟩
  · skip
    obtain ⟨cq191, kq191, q191a, q191b, q191c⟩ := isOf hZ e118 f117
    obtain ⟨_, _, ⟨T191, L191, kk191, nn191⟩, -, X191, ⟨Lc191, hQ191, l191, y191, z191⟩, st191⟩ := X118.virtualBack hx (y := (⟨"com/example/attacca/attacca/DecimatingBuffer", "accept", "(D)V"⟩ : MethodName)) (z := (⟨"com/example/attacca/attacca/DecimatingBuffer", "accept", "(D)V"⟩ : MethodName)) hown (mvT hZ (hw _ (List.mem_of_getElem? (i := 60) rfl))) (mvT hZ (hw _ (List.mem_of_getElem? (i := 61) rfl))) (notFace_of_selects (args := #[]) (mvT hZ (hw _ (List.mem_of_getElem? (i := 63) rfl)))) (mvT hZ (hw _ (List.mem_of_getElem? (i := 63) rfl))) (mvT hZ (hw _ (List.mem_of_getElem? (i := 62) rfl))) (by decide) (backOf (W := 0) (rmacc l Z a0 hw [] b110 (FP.i2d p3) l1_113 v1_113 kv_113 cap (List.replicate 7 (Value.double 0)) 0 T113.heap n0 z116 f117 x113_3 x113_4 x113_5 x113_6 x113_7 x113_8 x113_9 g_b110 g_v1_113 ne115 ne114 x113_2 (hcap) (by decide) (by simp only [List.length_set, List.length_replicate])) hZ (hw _ (List.mem_of_getElem? (i := 64) rfl)) (hw _ (List.mem_of_getElem? (i := 2) rfl)) (by decide) (by decide)) q191a q191c (g := (mkF m 66 #[.val (.int p1), .val (.int p2), .val (.int p3), .val (.int p4), .val (.int p5), .val (.int cap), .val (.int (Int32.ofNat kn)), .val (.int fi), .val (.ref b110), .val (.long (1 : Int64)), .second, .unset, .unset] [(.double (FP.i2d p3)), (.ref b110)])) rfl (by rw [hml]; rfl) (Steps.refl _) (argsL := [(.double (FP.i2d p3))]) (rest := []) (lenOf pd__28D_29V rfl) rfl (by show 2 * 0 + _ ≤ _; exact Nat.le_of_eq rfl) (hb hby at_66) (fun _ _ => ⟨rfl, e118, (by decide : 3 + 0 ≤ _), (by decide : 4103 + 0 ≤ _)⟩)
    dsimp only [Pt.U, Pt.locs, Pt.cells, Pt.slots] at X191 l191 y191 z191 st191 hQ191
    subst l191 y191 z191
    obtain ⟨rfl, N191q, K191, x191_0, x191_1, x191_2, x191_3, x191_4⟩ := hQ191
    have N191 := Fr.app N118 N191q
    have z192 : n0 ≤ T191.heap.size := Nat.le_trans z116 K191.1
    have f193 : Exa Z T191.heap b110 "com/example/attacca/attacca/DecimatingBuffer" := (f117.keep K191)
    have f194 : Exa Z T191.heap l1_113 "java/util/ArrayList" := (x113_7.keep K191)
    have f195 : Fld Z T191.heap l1_113 "java/util/ArrayList" "size" "I" (.int (0 : Int32)) := (x113_8.keep K191 (own_nmc (Ne.symm ne114) (own_nmc x113_2 own_nm0)))
    obtain ⟨cq196, kq196, q196a, q196b, q196c⟩ := isOf hZ rfl f193
    obtain ⟨_, _, ⟨T196, L196, kk196, nn196⟩, -, X196, ⟨Lc196, hQ196, l196, y196, z196⟩, st196⟩ := X191.virtualBack hx (y := (⟨"com/example/attacca/attacca/DecimatingBuffer", "accept", "(D)V"⟩ : MethodName)) (z := (⟨"com/example/attacca/attacca/DecimatingBuffer", "accept", "(D)V"⟩ : MethodName)) hown (mvT hZ (hw _ (List.mem_of_getElem? (i := 60) rfl))) (mvT hZ (hw _ (List.mem_of_getElem? (i := 61) rfl))) (notFace_of_selects (args := #[]) (mvT hZ (hw _ (List.mem_of_getElem? (i := 63) rfl)))) (mvT hZ (hw _ (List.mem_of_getElem? (i := 63) rfl))) (mvT hZ (hw _ (List.mem_of_getElem? (i := 62) rfl))) (by decide) (backOf (W := 0) (rmacc l Z a0 hw [] b110 (FP.i2d p4) l1_113 v1_113 kv_113 cap ((List.replicate 7 (Value.double 0)).set 0 (.double (FP.i2d p3))) 1 T191.heap n0 z192 f193 x191_0 x191_1 x191_2 x191_3 f194 f195 x191_4 g_b110 g_v1_113 ne115 ne114 x113_2 (hcap) (by decide) (by simp only [List.length_set, List.length_replicate])) hZ (hw _ (List.mem_of_getElem? (i := 64) rfl)) (hw _ (List.mem_of_getElem? (i := 2) rfl)) (by decide) (by decide)) q196a q196c (g := (mkF m 79 #[.val (.int p1), .val (.int p2), .val (.int p3), .val (.int p4), .val (.int p5), .val (.int cap), .val (.int (Int32.ofNat kn)), .val (.int fi), .val (.ref b110), .val (.long (1 : Int64)), .second, .unset, .unset] [(.double (FP.i2d p4)), (.ref b110)])) rfl (by rw [hml]; rfl) (Steps.refl _) (argsL := [(.double (FP.i2d p4))]) (rest := []) (lenOf pd__28D_29V rfl) rfl (by show 2 * 0 + _ ≤ _; exact Nat.le_of_eq rfl) (hb hby at_79) (fun _ _ => ⟨rfl, rfl, (by decide : 3 + 0 ≤ _), (by decide : 4103 + 0 ≤ _)⟩)
    dsimp only [Pt.U, Pt.locs, Pt.cells, Pt.slots] at X196 l196 y196 z196 st196 hQ196
    subst l196 y196 z196
    obtain ⟨rfl, N196q, K196, x196_0, x196_1, x196_2, x196_3, x196_4⟩ := hQ196
    have N196 := Fr.app N191 N196q
    have z197 : n0 ≤ T196.heap.size := Nat.le_trans z192 K196.1
    have f198 : Exa Z T196.heap b110 "com/example/attacca/attacca/DecimatingBuffer" := (f193.keep K196)
    have f199 : Exa Z T196.heap l1_113 "java/util/ArrayList" := (f194.keep K196)
    have f200 : Fld Z T196.heap l1_113 "java/util/ArrayList" "size" "I" (.int (0 : Int32)) := (f195.keep K196 (own_nmc (Ne.symm ne114) (own_nmc x113_2 own_nm0)))
    obtain ⟨cq201, kq201, q201a, q201b, q201c⟩ := isOf hZ rfl f198
    obtain ⟨_, _, ⟨T201, L201, kk201, nn201⟩, -, X201, ⟨Lc201, hQ201, l201, y201, z201⟩, st201⟩ := X196.virtualBack hx (y := (⟨"com/example/attacca/attacca/DecimatingBuffer", "accept", "(D)V"⟩ : MethodName)) (z := (⟨"com/example/attacca/attacca/DecimatingBuffer", "accept", "(D)V"⟩ : MethodName)) hown (mvT hZ (hw _ (List.mem_of_getElem? (i := 60) rfl))) (mvT hZ (hw _ (List.mem_of_getElem? (i := 61) rfl))) (notFace_of_selects (args := #[]) (mvT hZ (hw _ (List.mem_of_getElem? (i := 63) rfl)))) (mvT hZ (hw _ (List.mem_of_getElem? (i := 63) rfl))) (mvT hZ (hw _ (List.mem_of_getElem? (i := 62) rfl))) (by decide) (backOf (W := 0) (rmacc l Z a0 hw [] b110 (FP.i2d p5) l1_113 v1_113 kv_113 cap (((List.replicate 7 (Value.double 0)).set 0 (.double (FP.i2d p3))).set 1 (.double (FP.i2d p4))) 2 T196.heap n0 z197 f198 x196_0 x196_1 x196_2 x196_3 f199 f200 x196_4 g_b110 g_v1_113 ne115 ne114 x113_2 (hcap) (by decide) (by simp only [List.length_set, List.length_replicate])) hZ (hw _ (List.mem_of_getElem? (i := 64) rfl)) (hw _ (List.mem_of_getElem? (i := 2) rfl)) (by decide) (by decide)) q201a q201c (g := (mkF m 93 #[.val (.int p1), .val (.int p2), .val (.int p3), .val (.int p4), .val (.int p5), .val (.int cap), .val (.int (Int32.ofNat kn)), .val (.int fi), .val (.ref b110), .val (.long (1 : Int64)), .second, .unset, .unset] [(.double (FP.i2d p5)), (.ref b110)])) rfl (by rw [hml]; rfl) (Steps.refl _) (argsL := [(.double (FP.i2d p5))]) (rest := []) (lenOf pd__28D_29V rfl) rfl (by show 2 * 0 + _ ≤ _; exact Nat.le_of_eq rfl) (hb hby at_93) (fun _ _ => ⟨rfl, rfl, (by decide : 3 + 0 ≤ _), (by decide : 4103 + 0 ≤ _)⟩)
    dsimp only [Pt.U, Pt.locs, Pt.cells, Pt.slots] at X201 l201 y201 z201 st201 hQ201
    subst l201 y201 z201
    obtain ⟨rfl, N201q, K201, x201_0, x201_1, x201_2, x201_3, x201_4⟩ := hQ201
    have N201 := Fr.app N196 N201q
    have z202 : n0 ≤ T201.heap.size := Nat.le_trans z197 K201.1
    have f203 : Exa Z T201.heap b110 "com/example/attacca/attacca/DecimatingBuffer" := (f198.keep K201)
    have f204 : Exa Z T201.heap l1_113 "java/util/ArrayList" := (f199.keep K201)
    have f205 : Fld Z T201.heap l1_113 "java/util/ArrayList" "size" "I" (.int (0 : Int32)) := (f200.keep K201 (own_nmc (Ne.symm ne114) (own_nmc x113_2 own_nm0)))
    obtain ⟨cq206, kq206, q206a, q206b, q206c⟩ := isOf hZ rfl f203
    obtain ⟨_, _, ⟨T206, L206, kk206, nn206⟩, -, X206, ⟨Lc206, hQ206, l206, y206, z206⟩, st206⟩ := X201.virtualBack hx (y := (⟨"com/example/attacca/attacca/DecimatingBuffer", "accept", "(D)V"⟩ : MethodName)) (z := (⟨"com/example/attacca/attacca/DecimatingBuffer", "accept", "(D)V"⟩ : MethodName)) hown (mvT hZ (hw _ (List.mem_of_getElem? (i := 60) rfl))) (mvT hZ (hw _ (List.mem_of_getElem? (i := 61) rfl))) (notFace_of_selects (args := #[]) (mvT hZ (hw _ (List.mem_of_getElem? (i := 63) rfl)))) (mvT hZ (hw _ (List.mem_of_getElem? (i := 63) rfl))) (mvT hZ (hw _ (List.mem_of_getElem? (i := 62) rfl))) (by decide) (backOf (W := 0) (rmacc l Z a0 hw [] b110 (FP.i2d (p3 ^^^ p4)) l1_113 v1_113 kv_113 cap ((((List.replicate 7 (Value.double 0)).set 0 (.double (FP.i2d p3))).set 1 (.double (FP.i2d p4))).set 2 (.double (FP.i2d p5))) 3 T201.heap n0 z202 f203 x201_0 x201_1 x201_2 x201_3 f204 f205 x201_4 g_b110 g_v1_113 ne115 ne114 x113_2 (hcap) (by decide) (by simp only [List.length_set, List.length_replicate])) hZ (hw _ (List.mem_of_getElem? (i := 64) rfl)) (hw _ (List.mem_of_getElem? (i := 2) rfl)) (by decide) (by decide)) q206a q206c (g := (mkF m 108 #[.val (.int p1), .val (.int p2), .val (.int p3), .val (.int p4), .val (.int p5), .val (.int cap), .val (.int (Int32.ofNat kn)), .val (.int fi), .val (.ref b110), .val (.long (1 : Int64)), .second, .unset, .unset] [(.double (FP.i2d (p3 ^^^ p4))), (.ref b110)])) rfl (by rw [hml]; rfl) (Steps.refl _) (argsL := [(.double (FP.i2d (p3 ^^^ p4)))]) (rest := []) (lenOf pd__28D_29V rfl) rfl (by show 2 * 0 + _ ≤ _; exact Nat.le_of_eq rfl) (hb hby at_108) (fun _ _ => ⟨rfl, rfl, (by decide : 3 + 0 ≤ _), (by decide : 4103 + 0 ≤ _)⟩)
    dsimp only [Pt.U, Pt.locs, Pt.cells, Pt.slots] at X206 l206 y206 z206 st206 hQ206
    subst l206 y206 z206
    obtain ⟨rfl, N206q, K206, x206_0, x206_1, x206_2, x206_3, x206_4⟩ := hQ206
    have N206 := Fr.app N201 N206q
    have z207 : n0 ≤ T206.heap.size := Nat.le_trans z202 K206.1
    have pre208 : ∀ t_, Steps p.tables e below (T206.setTop (mkF m 162 #[.val (.int p1), .val (.int p2), .val (.int p3), .val (.int p4), .val (.int p5), .val (.int cap), .val (.int (Int32.ofNat kn)), .val (.int fi), .val (.ref b110), .val (.long (1 : Int64)), .second, .unset, .unset] [(.int fi)])) t_ → Steps p.tables e below (s₁.setTop (entryFrame m #[(.int p1), (.int p2), (.int p3), (.int p4), (.int p5)] maxLocals)) t_ := fun t_ kt => pre119 t_ (by
        show Steps p.tables e below (T118.setTop (mkF m 59 #[.val (.int p1), .val (.int p2), .val (.int p3), .val (.int p4), .val (.int p5), .val (.int cap), .val (.int (Int32.ofNat kn)), .val (.int fi), .val (.ref b110), .val (.long (1 : Int64)), .second, .unset, .unset] [(.int (Int32.ofNat kn))])) _
        refine XS.ifNo X118.here hx rfl (hb hby at_59) rfl ((if0 _ _).trans (tlt (lt32 (i := 0) (n := kn) (by omega) (by omega) : (0 : Int32) < (Int32.ofNat kn))).2.2.2) ?_
        show Steps p.tables e below (T118.setTop (mkF m 62 #[.val (.int p1), .val (.int p2), .val (.int p3), .val (.int p4), .val (.int p5), .val (.int cap), .val (.int (Int32.ofNat kn)), .val (.int fi), .val (.ref b110), .val (.long (1 : Int64)), .second, .unset, .unset] [])) _
        refine XS.aload X118.here hx rfl (hb hby at_62) rfl rfl ?_
        show Steps p.tables e below (T118.setTop (mkF m 64 #[.val (.int p1), .val (.int p2), .val (.int p3), .val (.int p4), .val (.int p5), .val (.int cap), .val (.int (Int32.ofNat kn)), .val (.int fi), .val (.ref b110), .val (.long (1 : Int64)), .second, .unset, .unset] [(.ref b110)])) _
        refine XS.iloadN X118.here hx rfl (hb hby at_64) rfl ?_
        show Steps p.tables e below (T118.setTop (mkF m 65 #[.val (.int p1), .val (.int p2), .val (.int p3), .val (.int p4), .val (.int p5), .val (.int cap), .val (.int (Int32.ofNat kn)), .val (.int fi), .val (.ref b110), .val (.long (1 : Int64)), .second, .unset, .unset] [(.int p3), (.ref b110)])) _
        refine XS.i2dS X118.here hx rfl (hb hby at_65) rfl (v := (FP.i2d p3)) rfl ?_
        show Steps p.tables e below (T118.setTop (mkF m 66 #[.val (.int p1), .val (.int p2), .val (.int p3), .val (.int p4), .val (.int p5), .val (.int cap), .val (.int (Int32.ofNat kn)), .val (.int fi), .val (.ref b110), .val (.long (1 : Int64)), .second, .unset, .unset] [(.double (FP.i2d p3)), (.ref b110)])) _
        refine st191.trans ?_
        show Steps p.tables e below (T191.setTop (mkF m 69 #[.val (.int p1), .val (.int p2), .val (.int p3), .val (.int p4), .val (.int p5), .val (.int cap), .val (.int (Int32.ofNat kn)), .val (.int fi), .val (.ref b110), .val (.long (1 : Int64)), .second, .unset, .unset] [])) _
        refine XS.iload X191.here hx rfl (hb hby at_69) rfl ?_
        show Steps p.tables e below (T191.setTop (mkF m 71 #[.val (.int p1), .val (.int p2), .val (.int p3), .val (.int p4), .val (.int p5), .val (.int cap), .val (.int (Int32.ofNat kn)), .val (.int fi), .val (.ref b110), .val (.long (1 : Int64)), .second, .unset, .unset] [(.int (Int32.ofNat kn))])) _
        refine XS.iconst X191.here hx rfl (hb hby at_71) ?_
        show Steps p.tables e below (T191.setTop (mkF m 72 #[.val (.int p1), .val (.int p2), .val (.int p3), .val (.int p4), .val (.int p5), .val (.int cap), .val (.int (Int32.ofNat kn)), .val (.int fi), .val (.ref b110), .val (.long (1 : Int64)), .second, .unset, .unset] [(.int (1 : Int32)), (.int (Int32.ofNat kn))])) _
        refine XS.icmpNo X191.here hx rfl (hb hby at_72) rfl (tlt (lt32 (i := 1) (n := kn) (by omega) (by omega) : (1 : Int32) < (Int32.ofNat kn))).2.2.2 ?_
        show Steps p.tables e below (T191.setTop (mkF m 75 #[.val (.int p1), .val (.int p2), .val (.int p3), .val (.int p4), .val (.int p5), .val (.int cap), .val (.int (Int32.ofNat kn)), .val (.int fi), .val (.ref b110), .val (.long (1 : Int64)), .second, .unset, .unset] [])) _
        refine XS.aload X191.here hx rfl (hb hby at_75) rfl rfl ?_
        show Steps p.tables e below (T191.setTop (mkF m 77 #[.val (.int p1), .val (.int p2), .val (.int p3), .val (.int p4), .val (.int p5), .val (.int cap), .val (.int (Int32.ofNat kn)), .val (.int fi), .val (.ref b110), .val (.long (1 : Int64)), .second, .unset, .unset] [(.ref b110)])) _
        refine XS.iloadN X191.here hx rfl (hb hby at_77) rfl ?_
        show Steps p.tables e below (T191.setTop (mkF m 78 #[.val (.int p1), .val (.int p2), .val (.int p3), .val (.int p4), .val (.int p5), .val (.int cap), .val (.int (Int32.ofNat kn)), .val (.int fi), .val (.ref b110), .val (.long (1 : Int64)), .second, .unset, .unset] [(.int p4), (.ref b110)])) _
        refine XS.i2dS X191.here hx rfl (hb hby at_78) rfl (v := (FP.i2d p4)) rfl ?_
        show Steps p.tables e below (T191.setTop (mkF m 79 #[.val (.int p1), .val (.int p2), .val (.int p3), .val (.int p4), .val (.int p5), .val (.int cap), .val (.int (Int32.ofNat kn)), .val (.int fi), .val (.ref b110), .val (.long (1 : Int64)), .second, .unset, .unset] [(.double (FP.i2d p4)), (.ref b110)])) _
        refine st196.trans ?_
        show Steps p.tables e below (T196.setTop (mkF m 82 #[.val (.int p1), .val (.int p2), .val (.int p3), .val (.int p4), .val (.int p5), .val (.int cap), .val (.int (Int32.ofNat kn)), .val (.int fi), .val (.ref b110), .val (.long (1 : Int64)), .second, .unset, .unset] [])) _
        refine XS.iload X196.here hx rfl (hb hby at_82) rfl ?_
        show Steps p.tables e below (T196.setTop (mkF m 84 #[.val (.int p1), .val (.int p2), .val (.int p3), .val (.int p4), .val (.int p5), .val (.int cap), .val (.int (Int32.ofNat kn)), .val (.int fi), .val (.ref b110), .val (.long (1 : Int64)), .second, .unset, .unset] [(.int (Int32.ofNat kn))])) _
        refine XS.iconst X196.here hx rfl (hb hby at_84) ?_
        show Steps p.tables e below (T196.setTop (mkF m 85 #[.val (.int p1), .val (.int p2), .val (.int p3), .val (.int p4), .val (.int p5), .val (.int cap), .val (.int (Int32.ofNat kn)), .val (.int fi), .val (.ref b110), .val (.long (1 : Int64)), .second, .unset, .unset] [(.int (2 : Int32)), (.int (Int32.ofNat kn))])) _
        refine XS.icmpNo X196.here hx rfl (hb hby at_85) rfl (tlt (lt32 (i := 2) (n := kn) (by omega) (by omega) : (2 : Int32) < (Int32.ofNat kn))).2.2.2 ?_
        show Steps p.tables e below (T196.setTop (mkF m 88 #[.val (.int p1), .val (.int p2), .val (.int p3), .val (.int p4), .val (.int p5), .val (.int cap), .val (.int (Int32.ofNat kn)), .val (.int fi), .val (.ref b110), .val (.long (1 : Int64)), .second, .unset, .unset] [])) _
        refine XS.aload X196.here hx rfl (hb hby at_88) rfl rfl ?_
        show Steps p.tables e below (T196.setTop (mkF m 90 #[.val (.int p1), .val (.int p2), .val (.int p3), .val (.int p4), .val (.int p5), .val (.int cap), .val (.int (Int32.ofNat kn)), .val (.int fi), .val (.ref b110), .val (.long (1 : Int64)), .second, .unset, .unset] [(.ref b110)])) _
        refine XS.iload X196.here hx rfl (hb hby at_90) rfl ?_
        show Steps p.tables e below (T196.setTop (mkF m 92 #[.val (.int p1), .val (.int p2), .val (.int p3), .val (.int p4), .val (.int p5), .val (.int cap), .val (.int (Int32.ofNat kn)), .val (.int fi), .val (.ref b110), .val (.long (1 : Int64)), .second, .unset, .unset] [(.int p5), (.ref b110)])) _
        refine XS.i2dS X196.here hx rfl (hb hby at_92) rfl (v := (FP.i2d p5)) rfl ?_
        show Steps p.tables e below (T196.setTop (mkF m 93 #[.val (.int p1), .val (.int p2), .val (.int p3), .val (.int p4), .val (.int p5), .val (.int cap), .val (.int (Int32.ofNat kn)), .val (.int fi), .val (.ref b110), .val (.long (1 : Int64)), .second, .unset, .unset] [(.double (FP.i2d p5)), (.ref b110)])) _
        refine st201.trans ?_
        show Steps p.tables e below (T201.setTop (mkF m 96 #[.val (.int p1), .val (.int p2), .val (.int p3), .val (.int p4), .val (.int p5), .val (.int cap), .val (.int (Int32.ofNat kn)), .val (.int fi), .val (.ref b110), .val (.long (1 : Int64)), .second, .unset, .unset] [])) _
        refine XS.iload X201.here hx rfl (hb hby at_96) rfl ?_
        show Steps p.tables e below (T201.setTop (mkF m 98 #[.val (.int p1), .val (.int p2), .val (.int p3), .val (.int p4), .val (.int p5), .val (.int cap), .val (.int (Int32.ofNat kn)), .val (.int fi), .val (.ref b110), .val (.long (1 : Int64)), .second, .unset, .unset] [(.int (Int32.ofNat kn))])) _
        refine XS.iconst X201.here hx rfl (hb hby at_98) ?_
        show Steps p.tables e below (T201.setTop (mkF m 99 #[.val (.int p1), .val (.int p2), .val (.int p3), .val (.int p4), .val (.int p5), .val (.int cap), .val (.int (Int32.ofNat kn)), .val (.int fi), .val (.ref b110), .val (.long (1 : Int64)), .second, .unset, .unset] [(.int (3 : Int32)), (.int (Int32.ofNat kn))])) _
        refine XS.icmpNo X201.here hx rfl (hb hby at_99) rfl (tlt (lt32 (i := 3) (n := kn) (by omega) (by omega) : (3 : Int32) < (Int32.ofNat kn))).2.2.2 ?_
        show Steps p.tables e below (T201.setTop (mkF m 102 #[.val (.int p1), .val (.int p2), .val (.int p3), .val (.int p4), .val (.int p5), .val (.int cap), .val (.int (Int32.ofNat kn)), .val (.int fi), .val (.ref b110), .val (.long (1 : Int64)), .second, .unset, .unset] [])) _
        refine XS.aload X201.here hx rfl (hb hby at_102) rfl rfl ?_
        show Steps p.tables e below (T201.setTop (mkF m 104 #[.val (.int p1), .val (.int p2), .val (.int p3), .val (.int p4), .val (.int p5), .val (.int cap), .val (.int (Int32.ofNat kn)), .val (.int fi), .val (.ref b110), .val (.long (1 : Int64)), .second, .unset, .unset] [(.ref b110)])) _
        refine XS.iloadN X201.here hx rfl (hb hby at_104) rfl ?_
        show Steps p.tables e below (T201.setTop (mkF m 105 #[.val (.int p1), .val (.int p2), .val (.int p3), .val (.int p4), .val (.int p5), .val (.int cap), .val (.int (Int32.ofNat kn)), .val (.int fi), .val (.ref b110), .val (.long (1 : Int64)), .second, .unset, .unset] [(.int p3), (.ref b110)])) _
        refine XS.iloadN X201.here hx rfl (hb hby at_105) rfl ?_
        show Steps p.tables e below (T201.setTop (mkF m 106 #[.val (.int p1), .val (.int p2), .val (.int p3), .val (.int p4), .val (.int p5), .val (.int cap), .val (.int (Int32.ofNat kn)), .val (.int fi), .val (.ref b110), .val (.long (1 : Int64)), .second, .unset, .unset] [(.int p4), (.int p3), (.ref b110)])) _
        refine XS.ixor X201.here hx rfl (hb hby at_106) rfl ?_
        show Steps p.tables e below (T201.setTop (mkF m 107 #[.val (.int p1), .val (.int p2), .val (.int p3), .val (.int p4), .val (.int p5), .val (.int cap), .val (.int (Int32.ofNat kn)), .val (.int fi), .val (.ref b110), .val (.long (1 : Int64)), .second, .unset, .unset] [(.int (p3 ^^^ p4)), (.ref b110)])) _
        refine XS.i2dS X201.here hx rfl (hb hby at_107) rfl (v := (FP.i2d (p3 ^^^ p4))) rfl ?_
        show Steps p.tables e below (T201.setTop (mkF m 108 #[.val (.int p1), .val (.int p2), .val (.int p3), .val (.int p4), .val (.int p5), .val (.int cap), .val (.int (Int32.ofNat kn)), .val (.int fi), .val (.ref b110), .val (.long (1 : Int64)), .second, .unset, .unset] [(.double (FP.i2d (p3 ^^^ p4))), (.ref b110)])) _
        refine st206.trans ?_
        show Steps p.tables e below (T206.setTop (mkF m 111 #[.val (.int p1), .val (.int p2), .val (.int p3), .val (.int p4), .val (.int p5), .val (.int cap), .val (.int (Int32.ofNat kn)), .val (.int fi), .val (.ref b110), .val (.long (1 : Int64)), .second, .unset, .unset] [])) _
        refine XS.iload X206.here hx rfl (hb hby at_111) rfl ?_
        show Steps p.tables e below (T206.setTop (mkF m 113 #[.val (.int p1), .val (.int p2), .val (.int p3), .val (.int p4), .val (.int p5), .val (.int cap), .val (.int (Int32.ofNat kn)), .val (.int fi), .val (.ref b110), .val (.long (1 : Int64)), .second, .unset, .unset] [(.int (Int32.ofNat kn))])) _
        refine XS.iconst X206.here hx rfl (hb hby at_113) ?_
        show Steps p.tables e below (T206.setTop (mkF m 114 #[.val (.int p1), .val (.int p2), .val (.int p3), .val (.int p4), .val (.int p5), .val (.int cap), .val (.int (Int32.ofNat kn)), .val (.int fi), .val (.ref b110), .val (.long (1 : Int64)), .second, .unset, .unset] [(.int (4 : Int32)), (.int (Int32.ofNat kn))])) _
        refine XS.icmpYes X206.here hx rfl (pc0 := 114) (pc' := 127) rfl (hb hby at_114) rfl (flt (nlt32 (i := 4) (n := kn) (by omega) (by omega) : ¬ ((4 : Int32) < (Int32.ofNat kn)))).2.2.2 (by decide) (by decide) ?_
        show Steps p.tables e below (T206.setTop (mkF m 127 #[.val (.int p1), .val (.int p2), .val (.int p3), .val (.int p4), .val (.int p5), .val (.int cap), .val (.int (Int32.ofNat kn)), .val (.int fi), .val (.ref b110), .val (.long (1 : Int64)), .second, .unset, .unset] [])) _
        refine XS.iload X206.here hx rfl (hb hby at_127) rfl ?_
        show Steps p.tables e below (T206.setTop (mkF m 129 #[.val (.int p1), .val (.int p2), .val (.int p3), .val (.int p4), .val (.int p5), .val (.int cap), .val (.int (Int32.ofNat kn)), .val (.int fi), .val (.ref b110), .val (.long (1 : Int64)), .second, .unset, .unset] [(.int (Int32.ofNat kn))])) _
        refine XS.iconst X206.here hx rfl (hb hby at_129) ?_
        show Steps p.tables e below (T206.setTop (mkF m 130 #[.val (.int p1), .val (.int p2), .val (.int p3), .val (.int p4), .val (.int p5), .val (.int cap), .val (.int (Int32.ofNat kn)), .val (.int fi), .val (.ref b110), .val (.long (1 : Int64)), .second, .unset, .unset] [(.int (5 : Int32)), (.int (Int32.ofNat kn))])) _
        refine XS.icmpYes X206.here hx rfl (pc0 := 130) (pc' := 143) rfl (hb hby at_130) rfl (flt (nlt32 (i := 5) (n := kn) (by omega) (by omega) : ¬ ((5 : Int32) < (Int32.ofNat kn)))).2.2.2 (by decide) (by decide) ?_
        show Steps p.tables e below (T206.setTop (mkF m 143 #[.val (.int p1), .val (.int p2), .val (.int p3), .val (.int p4), .val (.int p5), .val (.int cap), .val (.int (Int32.ofNat kn)), .val (.int fi), .val (.ref b110), .val (.long (1 : Int64)), .second, .unset, .unset] [])) _
        refine XS.iload X206.here hx rfl (hb hby at_143) rfl ?_
        show Steps p.tables e below (T206.setTop (mkF m 145 #[.val (.int p1), .val (.int p2), .val (.int p3), .val (.int p4), .val (.int p5), .val (.int cap), .val (.int (Int32.ofNat kn)), .val (.int fi), .val (.ref b110), .val (.long (1 : Int64)), .second, .unset, .unset] [(.int (Int32.ofNat kn))])) _
        refine XS.bipush X206.here hx rfl (hb hby at_145) ?_
        show Steps p.tables e below (T206.setTop (mkF m 147 #[.val (.int p1), .val (.int p2), .val (.int p3), .val (.int p4), .val (.int p5), .val (.int cap), .val (.int (Int32.ofNat kn)), .val (.int fi), .val (.ref b110), .val (.long (1 : Int64)), .second, .unset, .unset] [(.int (6 : Int32)), (.int (Int32.ofNat kn))])) _
        refine XS.icmpYes X206.here hx rfl (pc0 := 147) (pc' := 160) rfl (hb hby at_147) rfl (flt (nlt32 (i := 6) (n := kn) (by omega) (by omega) : ¬ ((6 : Int32) < (Int32.ofNat kn)))).2.2.2 (by decide) (by decide) ?_
        show Steps p.tables e below (T206.setTop (mkF m 160 #[.val (.int p1), .val (.int p2), .val (.int p3), .val (.int p4), .val (.int p5), .val (.int cap), .val (.int (Int32.ofNat kn)), .val (.int fi), .val (.ref b110), .val (.long (1 : Int64)), .second, .unset, .unset] [])) _
        refine XS.iload X206.here hx rfl (hb hby at_160) rfl ?_
        exact kt)
    by_cases hF : fi = (0 : Int32)
    · skip
      have f209 : Exa Z T206.heap b110 "com/example/attacca/attacca/DecimatingBuffer" := (f203.keep K206)
      have f210 : Exa Z T206.heap l1_113 "java/util/ArrayList" := (f204.keep K206)
      have f211 : Fld Z T206.heap l1_113 "java/util/ArrayList" "size" "I" (.int (0 : Int32)) := (f205.keep K206 (own_nmc (Ne.symm ne114) (own_nmc x113_2 own_nm0)))
      obtain ⟨cq212, kq212, q212a, q212b, q212c⟩ := isOf hZ rfl f209
      obtain ⟨_, _, ⟨T212, L212, kk212, nn212⟩, -, X212, ⟨Lc212, hQ212, l212, y212, z212⟩, st212⟩ := X206.virtualBack hx (y := (⟨"com/example/attacca/attacca/DecimatingBuffer", "stride", "()J"⟩ : MethodName)) (z := (⟨"com/example/attacca/attacca/DecimatingBuffer", "stride", "()J"⟩ : MethodName)) hown (mvT hZ (hw _ (List.mem_of_getElem? (i := 44) rfl))) (mvT hZ (hw _ (List.mem_of_getElem? (i := 45) rfl))) (notFace_of_selects (args := #[]) (mvT hZ (hw _ (List.mem_of_getElem? (i := 47) rfl)))) (mvT hZ (hw _ (List.mem_of_getElem? (i := 47) rfl))) (mvT hZ (hw _ (List.mem_of_getElem? (i := 46) rfl))) (by decide) (backOf (W := 0) (rmstride l Z a0 hw [] b110 l1_113 T206.heap n0 z207 f209 x206_0 f210 f211) hZ (hw _ (List.mem_of_getElem? (i := 48) rfl)) (hw _ (List.mem_of_getElem? (i := 2) rfl)) (by decide) (by decide)) q212a q212c (g := (mkF m 172 #[.val (.int p1), .val (.int p2), .val (.int p3), .val (.int p4), .val (.int p5), .val (.int cap), .val (.int (Int32.ofNat kn)), .val (.int fi), .val (.ref b110), .val (.long (1 : Int64)), .second, .unset, .unset] [(.ref b110)])) rfl (by rw [hml]; rfl) (Steps.refl _) (argsL := []) (rest := []) (lenOf pd__28_29J rfl) rfl (by show 2 * 0 + _ ≤ _; exact Nat.le_of_eq rfl) (hb hby at_172) (fun _ _ => ⟨rfl, rfl, (by decide : 3 + 0 ≤ _), (by decide : 4103 + 0 ≤ _)⟩)
      dsimp only [Pt.U, Pt.locs, Pt.cells, Pt.slots] at X212 l212 y212 z212 st212 hQ212
      subst l212 y212 z212
      obtain ⟨rfl, N212q, e212⟩ := hQ212
      have N212 := Fr.app N206 N212q
      obtain ⟨cq213, kq213, q213a, q213b, q213c⟩ := isOf hZ e212 f209
      obtain ⟨_, _, ⟨T213, L213, kk213, nn213⟩, -, X213, ⟨Lc213, hQ213, l213, y213, z213⟩, st213⟩ := X212.virtualBack hx (y := (⟨"com/example/attacca/attacca/DecimatingBuffer", "count", "()I"⟩ : MethodName)) (z := (⟨"com/example/attacca/attacca/DecimatingBuffer", "count", "()I"⟩ : MethodName)) hown (mvT hZ (hw _ (List.mem_of_getElem? (i := 71) rfl))) (mvT hZ (hw _ (List.mem_of_getElem? (i := 72) rfl))) (notFace_of_selects (args := #[]) (mvT hZ (hw _ (List.mem_of_getElem? (i := 74) rfl)))) (mvT hZ (hw _ (List.mem_of_getElem? (i := 74) rfl))) (mvT hZ (hw _ (List.mem_of_getElem? (i := 73) rfl))) (by decide) (backOf (W := 0) (rmcount l Z a0 hw [] b110 4 T206.heap n0 z207 f209 x206_3) hZ (hw _ (List.mem_of_getElem? (i := 75) rfl)) (hw _ (List.mem_of_getElem? (i := 2) rfl)) (by decide) (by decide)) q213a q213c (g := (mkF m 193 #[.val (.int p1), .val (.int p2), .val (.int p3), .val (.int p4), .val (.int p5), .val (.int cap), .val (.int (Int32.ofNat kn)), .val (.int fi), .val (.ref b110), .val (.long (1 : Int64)), .second, .val (.long (1 : Int64)), .second] [(.ref b110)])) rfl (by rw [hml]; rfl) (Steps.refl _) (argsL := []) (rest := []) (lenOf pd__28_29I rfl) rfl (by show 2 * 0 + _ ≤ _; exact Nat.le_of_eq rfl) (hb hby at_193) (fun _ _ => ⟨rfl, e212, (by decide : 3 + 0 ≤ _), (by decide : 4103 + 0 ≤ _)⟩)
      dsimp only [Pt.U, Pt.locs, Pt.cells, Pt.slots] at X213 l213 y213 z213 st213 hQ213
      subst l213 y213 z213
      obtain ⟨rfl, N213q, e213⟩ := hQ213
      have N213 := Fr.app N212 N213q
      have pre214 : ∀ t_, Steps p.tables e below (T213.setTop (mkF m 206 #[.val (.int p1), .val (.int p2), .val (.int p3), .val (.int p4), .val (.int p5), .val (.int cap), .val (.int (Int32.ofNat kn)), .val (.int fi), .val (.ref b110), .val (.long (1 : Int64)), .second, .val (.long (1 : Int64)), .second] [(.int (1 : Int32))])) t_ → Steps p.tables e below (s₁.setTop (entryFrame m #[(.int p1), (.int p2), (.int p3), (.int p4), (.int p5)] maxLocals)) t_ := fun t_ kt => pre208 t_ (by
          show Steps p.tables e below (T206.setTop (mkF m 162 #[.val (.int p1), .val (.int p2), .val (.int p3), .val (.int p4), .val (.int p5), .val (.int cap), .val (.int (Int32.ofNat kn)), .val (.int fi), .val (.ref b110), .val (.long (1 : Int64)), .second, .unset, .unset] [(.int fi)])) _
          refine XS.ifYes X206.here hx rfl (pc0 := 162) (pc' := 170) rfl (hb hby at_162) rfl ((if0 _ _).trans (teq (hF : fi = (0 : Int32))).1) (by decide) (by decide) ?_
          show Steps p.tables e below (T206.setTop (mkF m 170 #[.val (.int p1), .val (.int p2), .val (.int p3), .val (.int p4), .val (.int p5), .val (.int cap), .val (.int (Int32.ofNat kn)), .val (.int fi), .val (.ref b110), .val (.long (1 : Int64)), .second, .unset, .unset] [])) _
          refine XS.aload X206.here hx rfl (hb hby at_170) rfl rfl ?_
          show Steps p.tables e below (T206.setTop (mkF m 172 #[.val (.int p1), .val (.int p2), .val (.int p3), .val (.int p4), .val (.int p5), .val (.int cap), .val (.int (Int32.ofNat kn)), .val (.int fi), .val (.ref b110), .val (.long (1 : Int64)), .second, .unset, .unset] [(.ref b110)])) _
          refine st212.trans ?_
          show Steps p.tables e below (T212.setTop (mkF m 175 #[.val (.int p1), .val (.int p2), .val (.int p3), .val (.int p4), .val (.int p5), .val (.int cap), .val (.int (Int32.ofNat kn)), .val (.int fi), .val (.ref b110), .val (.long (1 : Int64)), .second, .unset, .unset] [(.long (1 : Int64))])) _
          refine XS.lstore X212.here hx rfl (hb hby at_175) rfl (l' := #[.val (.int p1), .val (.int p2), .val (.int p3), .val (.int p4), .val (.int p5), .val (.int cap), .val (.int (Int32.ofNat kn)), .val (.int fi), .val (.ref b110), .val (.long (1 : Int64)), .second, .val (.long (1 : Int64)), .second]) rfl ?_
          show Steps p.tables e below (T212.setTop (mkF m 177 #[.val (.int p1), .val (.int p2), .val (.int p3), .val (.int p4), .val (.int p5), .val (.int cap), .val (.int (Int32.ofNat kn)), .val (.int fi), .val (.ref b110), .val (.long (1 : Int64)), .second, .val (.long (1 : Int64)), .second] [])) _
          refine XS.lload X212.here hx rfl (hb hby at_177) rfl ?_
          show Steps p.tables e below (T212.setTop (mkF m 179 #[.val (.int p1), .val (.int p2), .val (.int p3), .val (.int p4), .val (.int p5), .val (.int cap), .val (.int (Int32.ofNat kn)), .val (.int fi), .val (.ref b110), .val (.long (1 : Int64)), .second, .val (.long (1 : Int64)), .second] [(.long (1 : Int64))])) _
          refine XS.lconst X212.here hx rfl (hb hby at_179) ?_
          show Steps p.tables e below (T212.setTop (mkF m 180 #[.val (.int p1), .val (.int p2), .val (.int p3), .val (.int p4), .val (.int p5), .val (.int cap), .val (.int (Int32.ofNat kn)), .val (.int fi), .val (.ref b110), .val (.long (1 : Int64)), .second, .val (.long (1 : Int64)), .second] [(.long (1 : Int64)), (.long (1 : Int64))])) _
          refine XS.lcmp X212.here hx rfl (hb hby at_180) rfl ?_
          show Steps p.tables e below (T212.setTop (mkF m 181 #[.val (.int p1), .val (.int p2), .val (.int p3), .val (.int p4), .val (.int p5), .val (.int cap), .val (.int (Int32.ofNat kn)), .val (.int fi), .val (.ref b110), .val (.long (1 : Int64)), .second, .val (.long (1 : Int64)), .second] [(.int (lcmpW (1 : Int64) (1 : Int64)))])) _
          refine XS.ifNo X212.here hx rfl (hb hby at_181) rfl ((if0 _ _).trans (teq ((by decide) : (lcmpW (1 : Int64) (1 : Int64)) = (0 : Int32))).2) ?_
          show Steps p.tables e below (T212.setTop (mkF m 184 #[.val (.int p1), .val (.int p2), .val (.int p3), .val (.int p4), .val (.int p5), .val (.int cap), .val (.int (Int32.ofNat kn)), .val (.int fi), .val (.ref b110), .val (.long (1 : Int64)), .second, .val (.long (1 : Int64)), .second] [])) _
          refine XS.lload X212.here hx rfl (hb hby at_184) rfl ?_
          show Steps p.tables e below (T212.setTop (mkF m 186 #[.val (.int p1), .val (.int p2), .val (.int p3), .val (.int p4), .val (.int p5), .val (.int cap), .val (.int (Int32.ofNat kn)), .val (.int fi), .val (.ref b110), .val (.long (1 : Int64)), .second, .val (.long (1 : Int64)), .second] [(.long (1 : Int64))])) _
          refine XS.lconst X212.here hx rfl (hb hby at_186) ?_
          show Steps p.tables e below (T212.setTop (mkF m 187 #[.val (.int p1), .val (.int p2), .val (.int p3), .val (.int p4), .val (.int p5), .val (.int cap), .val (.int (Int32.ofNat kn)), .val (.int fi), .val (.ref b110), .val (.long (1 : Int64)), .second, .val (.long (1 : Int64)), .second] [(.long (1 : Int64)), (.long (1 : Int64))])) _
          refine XS.lcmp X212.here hx rfl (hb hby at_187) rfl ?_
          show Steps p.tables e below (T212.setTop (mkF m 188 #[.val (.int p1), .val (.int p2), .val (.int p3), .val (.int p4), .val (.int p5), .val (.int cap), .val (.int (Int32.ofNat kn)), .val (.int fi), .val (.ref b110), .val (.long (1 : Int64)), .second, .val (.long (1 : Int64)), .second] [(.int (lcmpW (1 : Int64) (1 : Int64)))])) _
          refine XS.ifNo X212.here hx rfl (hb hby at_188) rfl ((if0 _ _).trans (teq ((by decide) : (lcmpW (1 : Int64) (1 : Int64)) = (0 : Int32))).2) ?_
          show Steps p.tables e below (T212.setTop (mkF m 191 #[.val (.int p1), .val (.int p2), .val (.int p3), .val (.int p4), .val (.int p5), .val (.int cap), .val (.int (Int32.ofNat kn)), .val (.int fi), .val (.ref b110), .val (.long (1 : Int64)), .second, .val (.long (1 : Int64)), .second] [])) _
          refine XS.aload X212.here hx rfl (hb hby at_191) rfl rfl ?_
          show Steps p.tables e below (T212.setTop (mkF m 193 #[.val (.int p1), .val (.int p2), .val (.int p3), .val (.int p4), .val (.int p5), .val (.int cap), .val (.int (Int32.ofNat kn)), .val (.int fi), .val (.ref b110), .val (.long (1 : Int64)), .second, .val (.long (1 : Int64)), .second] [(.ref b110)])) _
          refine st213.trans ?_
          show Steps p.tables e below (T213.setTop (mkF m 196 #[.val (.int p1), .val (.int p2), .val (.int p3), .val (.int p4), .val (.int p5), .val (.int cap), .val (.int (Int32.ofNat kn)), .val (.int fi), .val (.ref b110), .val (.long (1 : Int64)), .second, .val (.long (1 : Int64)), .second] [(.int (Int32.ofNat 4))])) _
          refine XS.iload X213.here hx rfl (hb hby at_196) rfl ?_
          show Steps p.tables e below (T213.setTop (mkF m 198 #[.val (.int p1), .val (.int p2), .val (.int p3), .val (.int p4), .val (.int p5), .val (.int cap), .val (.int (Int32.ofNat kn)), .val (.int fi), .val (.ref b110), .val (.long (1 : Int64)), .second, .val (.long (1 : Int64)), .second] [(.int (Int32.ofNat kn)), (.int (Int32.ofNat 4))])) _
          refine XS.icmpNo X213.here hx rfl (hb hby at_198) rfl (teq ((congrArg Int32.ofNat hj.symm) : (Int32.ofNat 4) = (Int32.ofNat kn))).2 ?_
          show Steps p.tables e below (T213.setTop (mkF m 201 #[.val (.int p1), .val (.int p2), .val (.int p3), .val (.int p4), .val (.int p5), .val (.int cap), .val (.int (Int32.ofNat kn)), .val (.int fi), .val (.ref b110), .val (.long (1 : Int64)), .second, .val (.long (1 : Int64)), .second] [])) _
          refine XS.iconst X213.here hx rfl (hb hby at_201) ?_
          show Steps p.tables e below (T213.setTop (mkF m 202 #[.val (.int p1), .val (.int p2), .val (.int p3), .val (.int p4), .val (.int p5), .val (.int cap), .val (.int (Int32.ofNat kn)), .val (.int fi), .val (.ref b110), .val (.long (1 : Int64)), .second, .val (.long (1 : Int64)), .second] [(.int (1 : Int32))])) _
          refine XS.goto X213.here hx rfl (pc0 := 202) (pc' := 206) rfl (hb hby at_202) (by decide) (by decide) ?_
          exact kt)
      obtain ⟨fs, hr, hrun, hended, hW, hsame⟩ := X213.leave (v := some (.int (1 : Int32))) (fun h => by rw [Bd.returns] at h; cases h)
      refine ⟨_, _, pre214 _ ?_, hrun, hended, _, _, rfl, ?_, ⟨_, rfl⟩, hW, hsame.mono (by decide) (by decide)⟩
      · show Steps p.tables e below (T213.setTop (mkF m 206 #[.val (.int p1), .val (.int p2), .val (.int p3), .val (.int p4), .val (.int p5), .val (.int cap), .val (.int (Int32.ofNat kn)), .val (.int fi), .val (.ref b110), .val (.long (1 : Int64)), .second, .val (.long (1 : Int64)), .second] [(.int (1 : Int32))])) _
        exact retN X213 hx (t := .boolean) Bd.returns (by simp) (hb hby at_206) hr
      · show Q0 Z p1 p2 p3 p4 p5 DC h0 n0 _ T213.heap _
        rw [e213]
        exact ⟨rfl, N213⟩
    · skip
      have f215 : Exa Z T206.heap b110 "com/example/attacca/attacca/DecimatingBuffer" := (f203.keep K206)
      have f216 : Exa Z T206.heap l1_113 "java/util/ArrayList" := (f204.keep K206)
      have f217 : Fld Z T206.heap l1_113 "java/util/ArrayList" "size" "I" (.int (0 : Int32)) := (f205.keep K206 (own_nmc (Ne.symm ne114) (own_nmc x113_2 own_nm0)))
      obtain ⟨cq218, kq218, q218a, q218b, q218c⟩ := isOf hZ rfl f215
      obtain ⟨_, _, ⟨T218, L218, kk218, nn218⟩, -, X218, ⟨Lc218, hQ218, l218, y218, z218⟩, st218⟩ := X206.virtualBack hx (y := (⟨"com/example/attacca/attacca/DecimatingBuffer", "end", "()V"⟩ : MethodName)) (z := (⟨"com/example/attacca/attacca/DecimatingBuffer", "end", "()V"⟩ : MethodName)) hown (mvT hZ (hw _ (List.mem_of_getElem? (i := 76) rfl))) (mvT hZ (hw _ (List.mem_of_getElem? (i := 77) rfl))) (notFace_of_selects (args := #[]) (mvT hZ (hw _ (List.mem_of_getElem? (i := 79) rfl)))) (mvT hZ (hw _ (List.mem_of_getElem? (i := 79) rfl))) (mvT hZ (hw _ (List.mem_of_getElem? (i := 78) rfl))) (by decide) (backOf (W := 0) (rmend l Z a0 hw [] b110 l1_113 T206.heap n0 z207 f215 x206_0 f216 f217) hZ (hw _ (List.mem_of_getElem? (i := 80) rfl)) (hw _ (List.mem_of_getElem? (i := 2) rfl)) (by decide) (by decide)) q218a q218c (g := (mkF m 167 #[.val (.int p1), .val (.int p2), .val (.int p3), .val (.int p4), .val (.int p5), .val (.int cap), .val (.int (Int32.ofNat kn)), .val (.int fi), .val (.ref b110), .val (.long (1 : Int64)), .second, .unset, .unset] [(.ref b110)])) rfl (by rw [hml]; rfl) (Steps.refl _) (argsL := []) (rest := []) (lenOf pd__28_29V rfl) rfl (by show 2 * 0 + _ ≤ _; exact Nat.le_of_eq rfl) (hb hby at_167) (fun _ _ => ⟨rfl, rfl, (by decide : 3 + 0 ≤ _), (by decide : 4103 + 0 ≤ _)⟩)
      dsimp only [Pt.U, Pt.locs, Pt.cells, Pt.slots] at X218 l218 y218 z218 st218 hQ218
      subst l218 y218 z218
      obtain ⟨rfl, N218q, e218⟩ := hQ218
      have N218 := Fr.app N206 N218q
      obtain ⟨cq219, kq219, q219a, q219b, q219c⟩ := isOf hZ e218 f215
      obtain ⟨_, _, ⟨T219, L219, kk219, nn219⟩, -, X219, ⟨Lc219, hQ219, l219, y219, z219⟩, st219⟩ := X218.virtualBack hx (y := (⟨"com/example/attacca/attacca/DecimatingBuffer", "stride", "()J"⟩ : MethodName)) (z := (⟨"com/example/attacca/attacca/DecimatingBuffer", "stride", "()J"⟩ : MethodName)) hown (mvT hZ (hw _ (List.mem_of_getElem? (i := 44) rfl))) (mvT hZ (hw _ (List.mem_of_getElem? (i := 45) rfl))) (notFace_of_selects (args := #[]) (mvT hZ (hw _ (List.mem_of_getElem? (i := 47) rfl)))) (mvT hZ (hw _ (List.mem_of_getElem? (i := 47) rfl))) (mvT hZ (hw _ (List.mem_of_getElem? (i := 46) rfl))) (by decide) (backOf (W := 0) (rmstride l Z a0 hw [] b110 l1_113 T206.heap n0 z207 f215 x206_0 f216 f217) hZ (hw _ (List.mem_of_getElem? (i := 48) rfl)) (hw _ (List.mem_of_getElem? (i := 2) rfl)) (by decide) (by decide)) q219a q219c (g := (mkF m 172 #[.val (.int p1), .val (.int p2), .val (.int p3), .val (.int p4), .val (.int p5), .val (.int cap), .val (.int (Int32.ofNat kn)), .val (.int fi), .val (.ref b110), .val (.long (1 : Int64)), .second, .unset, .unset] [(.ref b110)])) rfl (by rw [hml]; rfl) (Steps.refl _) (argsL := []) (rest := []) (lenOf pd__28_29J rfl) rfl (by show 2 * 0 + _ ≤ _; exact Nat.le_of_eq rfl) (hb hby at_172) (fun _ _ => ⟨rfl, e218, (by decide : 3 + 0 ≤ _), (by decide : 4103 + 0 ≤ _)⟩)
      dsimp only [Pt.U, Pt.locs, Pt.cells, Pt.slots] at X219 l219 y219 z219 st219 hQ219
      subst l219 y219 z219
      obtain ⟨rfl, N219q, e219⟩ := hQ219
      have N219 := Fr.app N218 N219q
      obtain ⟨cq220, kq220, q220a, q220b, q220c⟩ := isOf hZ e219 f215
      obtain ⟨_, _, ⟨T220, L220, kk220, nn220⟩, -, X220, ⟨Lc220, hQ220, l220, y220, z220⟩, st220⟩ := X219.virtualBack hx (y := (⟨"com/example/attacca/attacca/DecimatingBuffer", "count", "()I"⟩ : MethodName)) (z := (⟨"com/example/attacca/attacca/DecimatingBuffer", "count", "()I"⟩ : MethodName)) hown (mvT hZ (hw _ (List.mem_of_getElem? (i := 71) rfl))) (mvT hZ (hw _ (List.mem_of_getElem? (i := 72) rfl))) (notFace_of_selects (args := #[]) (mvT hZ (hw _ (List.mem_of_getElem? (i := 74) rfl)))) (mvT hZ (hw _ (List.mem_of_getElem? (i := 74) rfl))) (mvT hZ (hw _ (List.mem_of_getElem? (i := 73) rfl))) (by decide) (backOf (W := 0) (rmcount l Z a0 hw [] b110 4 T206.heap n0 z207 f215 x206_3) hZ (hw _ (List.mem_of_getElem? (i := 75) rfl)) (hw _ (List.mem_of_getElem? (i := 2) rfl)) (by decide) (by decide)) q220a q220c (g := (mkF m 193 #[.val (.int p1), .val (.int p2), .val (.int p3), .val (.int p4), .val (.int p5), .val (.int cap), .val (.int (Int32.ofNat kn)), .val (.int fi), .val (.ref b110), .val (.long (1 : Int64)), .second, .val (.long (1 : Int64)), .second] [(.ref b110)])) rfl (by rw [hml]; rfl) (Steps.refl _) (argsL := []) (rest := []) (lenOf pd__28_29I rfl) rfl (by show 2 * 0 + _ ≤ _; exact Nat.le_of_eq rfl) (hb hby at_193) (fun _ _ => ⟨rfl, e219, (by decide : 3 + 0 ≤ _), (by decide : 4103 + 0 ≤ _)⟩)
      dsimp only [Pt.U, Pt.locs, Pt.cells, Pt.slots] at X220 l220 y220 z220 st220 hQ220
      subst l220 y220 z220
      obtain ⟨rfl, N220q, e220⟩ := hQ220
      have N220 := Fr.app N219 N220q
      have pre221 : ∀ t_, Steps p.tables e below (T220.setTop (mkF m 206 #[.val (.int p1), .val (.int p2), .val (.int p3), .val (.int p4), .val (.int p5), .val (.int cap), .val (.int (Int32.ofNat kn)), .val (.int fi), .val (.ref b110), .val (.long (1 : Int64)), .second, .val (.long (1 : Int64)), .second] [(.int (1 : Int32))])) t_ → Steps p.tables e below (s₁.setTop (entryFrame m #[(.int p1), (.int p2), (.int p3), (.int p4), (.int p5)] maxLocals)) t_ := fun t_ kt => pre208 t_ (by
          show Steps p.tables e below (T206.setTop (mkF m 162 #[.val (.int p1), .val (.int p2), .val (.int p3), .val (.int p4), .val (.int p5), .val (.int cap), .val (.int (Int32.ofNat kn)), .val (.int fi), .val (.ref b110), .val (.long (1 : Int64)), .second, .unset, .unset] [(.int fi)])) _
          refine XS.ifNo X206.here hx rfl (hb hby at_162) rfl ((if0 _ _).trans (feq (hF : ¬ (fi = (0 : Int32)))).1) ?_
          show Steps p.tables e below (T206.setTop (mkF m 165 #[.val (.int p1), .val (.int p2), .val (.int p3), .val (.int p4), .val (.int p5), .val (.int cap), .val (.int (Int32.ofNat kn)), .val (.int fi), .val (.ref b110), .val (.long (1 : Int64)), .second, .unset, .unset] [])) _
          refine XS.aload X206.here hx rfl (hb hby at_165) rfl rfl ?_
          show Steps p.tables e below (T206.setTop (mkF m 167 #[.val (.int p1), .val (.int p2), .val (.int p3), .val (.int p4), .val (.int p5), .val (.int cap), .val (.int (Int32.ofNat kn)), .val (.int fi), .val (.ref b110), .val (.long (1 : Int64)), .second, .unset, .unset] [(.ref b110)])) _
          refine st218.trans ?_
          show Steps p.tables e below (T218.setTop (mkF m 170 #[.val (.int p1), .val (.int p2), .val (.int p3), .val (.int p4), .val (.int p5), .val (.int cap), .val (.int (Int32.ofNat kn)), .val (.int fi), .val (.ref b110), .val (.long (1 : Int64)), .second, .unset, .unset] [])) _
          refine XS.aload X218.here hx rfl (hb hby at_170) rfl rfl ?_
          show Steps p.tables e below (T218.setTop (mkF m 172 #[.val (.int p1), .val (.int p2), .val (.int p3), .val (.int p4), .val (.int p5), .val (.int cap), .val (.int (Int32.ofNat kn)), .val (.int fi), .val (.ref b110), .val (.long (1 : Int64)), .second, .unset, .unset] [(.ref b110)])) _
          refine st219.trans ?_
          show Steps p.tables e below (T219.setTop (mkF m 175 #[.val (.int p1), .val (.int p2), .val (.int p3), .val (.int p4), .val (.int p5), .val (.int cap), .val (.int (Int32.ofNat kn)), .val (.int fi), .val (.ref b110), .val (.long (1 : Int64)), .second, .unset, .unset] [(.long (1 : Int64))])) _
          refine XS.lstore X219.here hx rfl (hb hby at_175) rfl (l' := #[.val (.int p1), .val (.int p2), .val (.int p3), .val (.int p4), .val (.int p5), .val (.int cap), .val (.int (Int32.ofNat kn)), .val (.int fi), .val (.ref b110), .val (.long (1 : Int64)), .second, .val (.long (1 : Int64)), .second]) rfl ?_
          show Steps p.tables e below (T219.setTop (mkF m 177 #[.val (.int p1), .val (.int p2), .val (.int p3), .val (.int p4), .val (.int p5), .val (.int cap), .val (.int (Int32.ofNat kn)), .val (.int fi), .val (.ref b110), .val (.long (1 : Int64)), .second, .val (.long (1 : Int64)), .second] [])) _
          refine XS.lload X219.here hx rfl (hb hby at_177) rfl ?_
          show Steps p.tables e below (T219.setTop (mkF m 179 #[.val (.int p1), .val (.int p2), .val (.int p3), .val (.int p4), .val (.int p5), .val (.int cap), .val (.int (Int32.ofNat kn)), .val (.int fi), .val (.ref b110), .val (.long (1 : Int64)), .second, .val (.long (1 : Int64)), .second] [(.long (1 : Int64))])) _
          refine XS.lconst X219.here hx rfl (hb hby at_179) ?_
          show Steps p.tables e below (T219.setTop (mkF m 180 #[.val (.int p1), .val (.int p2), .val (.int p3), .val (.int p4), .val (.int p5), .val (.int cap), .val (.int (Int32.ofNat kn)), .val (.int fi), .val (.ref b110), .val (.long (1 : Int64)), .second, .val (.long (1 : Int64)), .second] [(.long (1 : Int64)), (.long (1 : Int64))])) _
          refine XS.lcmp X219.here hx rfl (hb hby at_180) rfl ?_
          show Steps p.tables e below (T219.setTop (mkF m 181 #[.val (.int p1), .val (.int p2), .val (.int p3), .val (.int p4), .val (.int p5), .val (.int cap), .val (.int (Int32.ofNat kn)), .val (.int fi), .val (.ref b110), .val (.long (1 : Int64)), .second, .val (.long (1 : Int64)), .second] [(.int (lcmpW (1 : Int64) (1 : Int64)))])) _
          refine XS.ifNo X219.here hx rfl (hb hby at_181) rfl ((if0 _ _).trans (teq ((by decide) : (lcmpW (1 : Int64) (1 : Int64)) = (0 : Int32))).2) ?_
          show Steps p.tables e below (T219.setTop (mkF m 184 #[.val (.int p1), .val (.int p2), .val (.int p3), .val (.int p4), .val (.int p5), .val (.int cap), .val (.int (Int32.ofNat kn)), .val (.int fi), .val (.ref b110), .val (.long (1 : Int64)), .second, .val (.long (1 : Int64)), .second] [])) _
          refine XS.lload X219.here hx rfl (hb hby at_184) rfl ?_
          show Steps p.tables e below (T219.setTop (mkF m 186 #[.val (.int p1), .val (.int p2), .val (.int p3), .val (.int p4), .val (.int p5), .val (.int cap), .val (.int (Int32.ofNat kn)), .val (.int fi), .val (.ref b110), .val (.long (1 : Int64)), .second, .val (.long (1 : Int64)), .second] [(.long (1 : Int64))])) _
          refine XS.lconst X219.here hx rfl (hb hby at_186) ?_
          show Steps p.tables e below (T219.setTop (mkF m 187 #[.val (.int p1), .val (.int p2), .val (.int p3), .val (.int p4), .val (.int p5), .val (.int cap), .val (.int (Int32.ofNat kn)), .val (.int fi), .val (.ref b110), .val (.long (1 : Int64)), .second, .val (.long (1 : Int64)), .second] [(.long (1 : Int64)), (.long (1 : Int64))])) _
          refine XS.lcmp X219.here hx rfl (hb hby at_187) rfl ?_
          show Steps p.tables e below (T219.setTop (mkF m 188 #[.val (.int p1), .val (.int p2), .val (.int p3), .val (.int p4), .val (.int p5), .val (.int cap), .val (.int (Int32.ofNat kn)), .val (.int fi), .val (.ref b110), .val (.long (1 : Int64)), .second, .val (.long (1 : Int64)), .second] [(.int (lcmpW (1 : Int64) (1 : Int64)))])) _
          refine XS.ifNo X219.here hx rfl (hb hby at_188) rfl ((if0 _ _).trans (teq ((by decide) : (lcmpW (1 : Int64) (1 : Int64)) = (0 : Int32))).2) ?_
          show Steps p.tables e below (T219.setTop (mkF m 191 #[.val (.int p1), .val (.int p2), .val (.int p3), .val (.int p4), .val (.int p5), .val (.int cap), .val (.int (Int32.ofNat kn)), .val (.int fi), .val (.ref b110), .val (.long (1 : Int64)), .second, .val (.long (1 : Int64)), .second] [])) _
          refine XS.aload X219.here hx rfl (hb hby at_191) rfl rfl ?_
          show Steps p.tables e below (T219.setTop (mkF m 193 #[.val (.int p1), .val (.int p2), .val (.int p3), .val (.int p4), .val (.int p5), .val (.int cap), .val (.int (Int32.ofNat kn)), .val (.int fi), .val (.ref b110), .val (.long (1 : Int64)), .second, .val (.long (1 : Int64)), .second] [(.ref b110)])) _
          refine st220.trans ?_
          show Steps p.tables e below (T220.setTop (mkF m 196 #[.val (.int p1), .val (.int p2), .val (.int p3), .val (.int p4), .val (.int p5), .val (.int cap), .val (.int (Int32.ofNat kn)), .val (.int fi), .val (.ref b110), .val (.long (1 : Int64)), .second, .val (.long (1 : Int64)), .second] [(.int (Int32.ofNat 4))])) _
          refine XS.iload X220.here hx rfl (hb hby at_196) rfl ?_
          show Steps p.tables e below (T220.setTop (mkF m 198 #[.val (.int p1), .val (.int p2), .val (.int p3), .val (.int p4), .val (.int p5), .val (.int cap), .val (.int (Int32.ofNat kn)), .val (.int fi), .val (.ref b110), .val (.long (1 : Int64)), .second, .val (.long (1 : Int64)), .second] [(.int (Int32.ofNat kn)), (.int (Int32.ofNat 4))])) _
          refine XS.icmpNo X220.here hx rfl (hb hby at_198) rfl (teq ((congrArg Int32.ofNat hj.symm) : (Int32.ofNat 4) = (Int32.ofNat kn))).2 ?_
          show Steps p.tables e below (T220.setTop (mkF m 201 #[.val (.int p1), .val (.int p2), .val (.int p3), .val (.int p4), .val (.int p5), .val (.int cap), .val (.int (Int32.ofNat kn)), .val (.int fi), .val (.ref b110), .val (.long (1 : Int64)), .second, .val (.long (1 : Int64)), .second] [])) _
          refine XS.iconst X220.here hx rfl (hb hby at_201) ?_
          show Steps p.tables e below (T220.setTop (mkF m 202 #[.val (.int p1), .val (.int p2), .val (.int p3), .val (.int p4), .val (.int p5), .val (.int cap), .val (.int (Int32.ofNat kn)), .val (.int fi), .val (.ref b110), .val (.long (1 : Int64)), .second, .val (.long (1 : Int64)), .second] [(.int (1 : Int32))])) _
          refine XS.goto X220.here hx rfl (pc0 := 202) (pc' := 206) rfl (hb hby at_202) (by decide) (by decide) ?_
          exact kt)
      obtain ⟨fs, hr, hrun, hended, hW, hsame⟩ := X220.leave (v := some (.int (1 : Int32))) (fun h => by rw [Bd.returns] at h; cases h)
      refine ⟨_, _, pre221 _ ?_, hrun, hended, _, _, rfl, ?_, ⟨_, rfl⟩, hW, hsame.mono (by decide) (by decide)⟩
      · show Steps p.tables e below (T220.setTop (mkF m 206 #[.val (.int p1), .val (.int p2), .val (.int p3), .val (.int p4), .val (.int p5), .val (.int cap), .val (.int (Int32.ofNat kn)), .val (.int fi), .val (.ref b110), .val (.long (1 : Int64)), .second, .val (.long (1 : Int64)), .second] [(.int (1 : Int32))])) _
        exact retN X220 hx (t := .boolean) Bd.returns (by simp) (hb hby at_206) hr
      · show Q0 Z p1 p2 p3 p4 p5 DC h0 n0 _ T220.heap _
        rw [e220]
        exact ⟨rfl, N220⟩
  · skip
    obtain ⟨cq222, kq222, q222a, q222b, q222c⟩ := isOf hZ e118 f117
    obtain ⟨_, _, ⟨T222, L222, kk222, nn222⟩, -, X222, ⟨Lc222, hQ222, l222, y222, z222⟩, st222⟩ := X118.virtualBack hx (y := (⟨"com/example/attacca/attacca/DecimatingBuffer", "accept", "(D)V"⟩ : MethodName)) (z := (⟨"com/example/attacca/attacca/DecimatingBuffer", "accept", "(D)V"⟩ : MethodName)) hown (mvT hZ (hw _ (List.mem_of_getElem? (i := 60) rfl))) (mvT hZ (hw _ (List.mem_of_getElem? (i := 61) rfl))) (notFace_of_selects (args := #[]) (mvT hZ (hw _ (List.mem_of_getElem? (i := 63) rfl)))) (mvT hZ (hw _ (List.mem_of_getElem? (i := 63) rfl))) (mvT hZ (hw _ (List.mem_of_getElem? (i := 62) rfl))) (by decide) (backOf (W := 0) (rmacc l Z a0 hw [] b110 (FP.i2d p3) l1_113 v1_113 kv_113 cap (List.replicate 7 (Value.double 0)) 0 T113.heap n0 z116 f117 x113_3 x113_4 x113_5 x113_6 x113_7 x113_8 x113_9 g_b110 g_v1_113 ne115 ne114 x113_2 (hcap) (by decide) (by simp only [List.length_set, List.length_replicate])) hZ (hw _ (List.mem_of_getElem? (i := 64) rfl)) (hw _ (List.mem_of_getElem? (i := 2) rfl)) (by decide) (by decide)) q222a q222c (g := (mkF m 66 #[.val (.int p1), .val (.int p2), .val (.int p3), .val (.int p4), .val (.int p5), .val (.int cap), .val (.int (Int32.ofNat kn)), .val (.int fi), .val (.ref b110), .val (.long (1 : Int64)), .second, .unset, .unset] [(.double (FP.i2d p3)), (.ref b110)])) rfl (by rw [hml]; rfl) (Steps.refl _) (argsL := [(.double (FP.i2d p3))]) (rest := []) (lenOf pd__28D_29V rfl) rfl (by show 2 * 0 + _ ≤ _; exact Nat.le_of_eq rfl) (hb hby at_66) (fun _ _ => ⟨rfl, e118, (by decide : 3 + 0 ≤ _), (by decide : 4103 + 0 ≤ _)⟩)
    dsimp only [Pt.U, Pt.locs, Pt.cells, Pt.slots] at X222 l222 y222 z222 st222 hQ222
    subst l222 y222 z222
    obtain ⟨rfl, N222q, K222, x222_0, x222_1, x222_2, x222_3, x222_4⟩ := hQ222
    have N222 := Fr.app N118 N222q
    have z223 : n0 ≤ T222.heap.size := Nat.le_trans z116 K222.1
    have f224 : Exa Z T222.heap b110 "com/example/attacca/attacca/DecimatingBuffer" := (f117.keep K222)
    have f225 : Exa Z T222.heap l1_113 "java/util/ArrayList" := (x113_7.keep K222)
    have f226 : Fld Z T222.heap l1_113 "java/util/ArrayList" "size" "I" (.int (0 : Int32)) := (x113_8.keep K222 (own_nmc (Ne.symm ne114) (own_nmc x113_2 own_nm0)))
    obtain ⟨cq227, kq227, q227a, q227b, q227c⟩ := isOf hZ rfl f224
    obtain ⟨_, _, ⟨T227, L227, kk227, nn227⟩, -, X227, ⟨Lc227, hQ227, l227, y227, z227⟩, st227⟩ := X222.virtualBack hx (y := (⟨"com/example/attacca/attacca/DecimatingBuffer", "accept", "(D)V"⟩ : MethodName)) (z := (⟨"com/example/attacca/attacca/DecimatingBuffer", "accept", "(D)V"⟩ : MethodName)) hown (mvT hZ (hw _ (List.mem_of_getElem? (i := 60) rfl))) (mvT hZ (hw _ (List.mem_of_getElem? (i := 61) rfl))) (notFace_of_selects (args := #[]) (mvT hZ (hw _ (List.mem_of_getElem? (i := 63) rfl)))) (mvT hZ (hw _ (List.mem_of_getElem? (i := 63) rfl))) (mvT hZ (hw _ (List.mem_of_getElem? (i := 62) rfl))) (by decide) (backOf (W := 0) (rmacc l Z a0 hw [] b110 (FP.i2d p4) l1_113 v1_113 kv_113 cap ((List.replicate 7 (Value.double 0)).set 0 (.double (FP.i2d p3))) 1 T222.heap n0 z223 f224 x222_0 x222_1 x222_2 x222_3 f225 f226 x222_4 g_b110 g_v1_113 ne115 ne114 x113_2 (hcap) (by decide) (by simp only [List.length_set, List.length_replicate])) hZ (hw _ (List.mem_of_getElem? (i := 64) rfl)) (hw _ (List.mem_of_getElem? (i := 2) rfl)) (by decide) (by decide)) q227a q227c (g := (mkF m 79 #[.val (.int p1), .val (.int p2), .val (.int p3), .val (.int p4), .val (.int p5), .val (.int cap), .val (.int (Int32.ofNat kn)), .val (.int fi), .val (.ref b110), .val (.long (1 : Int64)), .second, .unset, .unset] [(.double (FP.i2d p4)), (.ref b110)])) rfl (by rw [hml]; rfl) (Steps.refl _) (argsL := [(.double (FP.i2d p4))]) (rest := []) (lenOf pd__28D_29V rfl) rfl (by show 2 * 0 + _ ≤ _; exact Nat.le_of_eq rfl) (hb hby at_79) (fun _ _ => ⟨rfl, rfl, (by decide : 3 + 0 ≤ _), (by decide : 4103 + 0 ≤ _)⟩)
    dsimp only [Pt.U, Pt.locs, Pt.cells, Pt.slots] at X227 l227 y227 z227 st227 hQ227
    subst l227 y227 z227
    obtain ⟨rfl, N227q, K227, x227_0, x227_1, x227_2, x227_3, x227_4⟩ := hQ227
    have N227 := Fr.app N222 N227q
    have z228 : n0 ≤ T227.heap.size := Nat.le_trans z223 K227.1
    have f229 : Exa Z T227.heap b110 "com/example/attacca/attacca/DecimatingBuffer" := (f224.keep K227)
    have f230 : Exa Z T227.heap l1_113 "java/util/ArrayList" := (f225.keep K227)
    have f231 : Fld Z T227.heap l1_113 "java/util/ArrayList" "size" "I" (.int (0 : Int32)) := (f226.keep K227 (own_nmc (Ne.symm ne114) (own_nmc x113_2 own_nm0)))
    obtain ⟨cq232, kq232, q232a, q232b, q232c⟩ := isOf hZ rfl f229
    obtain ⟨_, _, ⟨T232, L232, kk232, nn232⟩, -, X232, ⟨Lc232, hQ232, l232, y232, z232⟩, st232⟩ := X227.virtualBack hx (y := (⟨"com/example/attacca/attacca/DecimatingBuffer", "accept", "(D)V"⟩ : MethodName)) (z := (⟨"com/example/attacca/attacca/DecimatingBuffer", "accept", "(D)V"⟩ : MethodName)) hown (mvT hZ (hw _ (List.mem_of_getElem? (i := 60) rfl))) (mvT hZ (hw _ (List.mem_of_getElem? (i := 61) rfl))) (notFace_of_selects (args := #[]) (mvT hZ (hw _ (List.mem_of_getElem? (i := 63) rfl)))) (mvT hZ (hw _ (List.mem_of_getElem? (i := 63) rfl))) (mvT hZ (hw _ (List.mem_of_getElem? (i := 62) rfl))) (by decide) (backOf (W := 0) (rmacc l Z a0 hw [] b110 (FP.i2d p5) l1_113 v1_113 kv_113 cap (((List.replicate 7 (Value.double 0)).set 0 (.double (FP.i2d p3))).set 1 (.double (FP.i2d p4))) 2 T227.heap n0 z228 f229 x227_0 x227_1 x227_2 x227_3 f230 f231 x227_4 g_b110 g_v1_113 ne115 ne114 x113_2 (hcap) (by decide) (by simp only [List.length_set, List.length_replicate])) hZ (hw _ (List.mem_of_getElem? (i := 64) rfl)) (hw _ (List.mem_of_getElem? (i := 2) rfl)) (by decide) (by decide)) q232a q232c (g := (mkF m 93 #[.val (.int p1), .val (.int p2), .val (.int p3), .val (.int p4), .val (.int p5), .val (.int cap), .val (.int (Int32.ofNat kn)), .val (.int fi), .val (.ref b110), .val (.long (1 : Int64)), .second, .unset, .unset] [(.double (FP.i2d p5)), (.ref b110)])) rfl (by rw [hml]; rfl) (Steps.refl _) (argsL := [(.double (FP.i2d p5))]) (rest := []) (lenOf pd__28D_29V rfl) rfl (by show 2 * 0 + _ ≤ _; exact Nat.le_of_eq rfl) (hb hby at_93) (fun _ _ => ⟨rfl, rfl, (by decide : 3 + 0 ≤ _), (by decide : 4103 + 0 ≤ _)⟩)
    dsimp only [Pt.U, Pt.locs, Pt.cells, Pt.slots] at X232 l232 y232 z232 st232 hQ232
    subst l232 y232 z232
    obtain ⟨rfl, N232q, K232, x232_0, x232_1, x232_2, x232_3, x232_4⟩ := hQ232
    have N232 := Fr.app N227 N232q
    have z233 : n0 ≤ T232.heap.size := Nat.le_trans z228 K232.1
    have f234 : Exa Z T232.heap b110 "com/example/attacca/attacca/DecimatingBuffer" := (f229.keep K232)
    have f235 : Exa Z T232.heap l1_113 "java/util/ArrayList" := (f230.keep K232)
    have f236 : Fld Z T232.heap l1_113 "java/util/ArrayList" "size" "I" (.int (0 : Int32)) := (f231.keep K232 (own_nmc (Ne.symm ne114) (own_nmc x113_2 own_nm0)))
    obtain ⟨cq237, kq237, q237a, q237b, q237c⟩ := isOf hZ rfl f234
    obtain ⟨_, _, ⟨T237, L237, kk237, nn237⟩, -, X237, ⟨Lc237, hQ237, l237, y237, z237⟩, st237⟩ := X232.virtualBack hx (y := (⟨"com/example/attacca/attacca/DecimatingBuffer", "accept", "(D)V"⟩ : MethodName)) (z := (⟨"com/example/attacca/attacca/DecimatingBuffer", "accept", "(D)V"⟩ : MethodName)) hown (mvT hZ (hw _ (List.mem_of_getElem? (i := 60) rfl))) (mvT hZ (hw _ (List.mem_of_getElem? (i := 61) rfl))) (notFace_of_selects (args := #[]) (mvT hZ (hw _ (List.mem_of_getElem? (i := 63) rfl)))) (mvT hZ (hw _ (List.mem_of_getElem? (i := 63) rfl))) (mvT hZ (hw _ (List.mem_of_getElem? (i := 62) rfl))) (by decide) (backOf (W := 0) (rmacc l Z a0 hw [] b110 (FP.i2d (p3 ^^^ p4)) l1_113 v1_113 kv_113 cap ((((List.replicate 7 (Value.double 0)).set 0 (.double (FP.i2d p3))).set 1 (.double (FP.i2d p4))).set 2 (.double (FP.i2d p5))) 3 T232.heap n0 z233 f234 x232_0 x232_1 x232_2 x232_3 f235 f236 x232_4 g_b110 g_v1_113 ne115 ne114 x113_2 (hcap) (by decide) (by simp only [List.length_set, List.length_replicate])) hZ (hw _ (List.mem_of_getElem? (i := 64) rfl)) (hw _ (List.mem_of_getElem? (i := 2) rfl)) (by decide) (by decide)) q237a q237c (g := (mkF m 108 #[.val (.int p1), .val (.int p2), .val (.int p3), .val (.int p4), .val (.int p5), .val (.int cap), .val (.int (Int32.ofNat kn)), .val (.int fi), .val (.ref b110), .val (.long (1 : Int64)), .second, .unset, .unset] [(.double (FP.i2d (p3 ^^^ p4))), (.ref b110)])) rfl (by rw [hml]; rfl) (Steps.refl _) (argsL := [(.double (FP.i2d (p3 ^^^ p4)))]) (rest := []) (lenOf pd__28D_29V rfl) rfl (by show 2 * 0 + _ ≤ _; exact Nat.le_of_eq rfl) (hb hby at_108) (fun _ _ => ⟨rfl, rfl, (by decide : 3 + 0 ≤ _), (by decide : 4103 + 0 ≤ _)⟩)
    dsimp only [Pt.U, Pt.locs, Pt.cells, Pt.slots] at X237 l237 y237 z237 st237 hQ237
    subst l237 y237 z237
    obtain ⟨rfl, N237q, K237, x237_0, x237_1, x237_2, x237_3, x237_4⟩ := hQ237
    have N237 := Fr.app N232 N237q
    have z238 : n0 ≤ T237.heap.size := Nat.le_trans z233 K237.1
    have f239 : Exa Z T237.heap b110 "com/example/attacca/attacca/DecimatingBuffer" := (f234.keep K237)
    have f240 : Exa Z T237.heap l1_113 "java/util/ArrayList" := (f235.keep K237)
    have f241 : Fld Z T237.heap l1_113 "java/util/ArrayList" "size" "I" (.int (0 : Int32)) := (f236.keep K237 (own_nmc (Ne.symm ne114) (own_nmc x113_2 own_nm0)))
    obtain ⟨cq242, kq242, q242a, q242b, q242c⟩ := isOf hZ rfl f239
    obtain ⟨_, _, ⟨T242, L242, kk242, nn242⟩, -, X242, ⟨Lc242, hQ242, l242, y242, z242⟩, st242⟩ := X237.virtualBack hx (y := (⟨"com/example/attacca/attacca/DecimatingBuffer", "accept", "(D)V"⟩ : MethodName)) (z := (⟨"com/example/attacca/attacca/DecimatingBuffer", "accept", "(D)V"⟩ : MethodName)) hown (mvT hZ (hw _ (List.mem_of_getElem? (i := 60) rfl))) (mvT hZ (hw _ (List.mem_of_getElem? (i := 61) rfl))) (notFace_of_selects (args := #[]) (mvT hZ (hw _ (List.mem_of_getElem? (i := 63) rfl)))) (mvT hZ (hw _ (List.mem_of_getElem? (i := 63) rfl))) (mvT hZ (hw _ (List.mem_of_getElem? (i := 62) rfl))) (by decide) (backOf (W := 0) (rmacc l Z a0 hw [] b110 (FP.i2d (p4 - p5)) l1_113 v1_113 kv_113 cap (((((List.replicate 7 (Value.double 0)).set 0 (.double (FP.i2d p3))).set 1 (.double (FP.i2d p4))).set 2 (.double (FP.i2d p5))).set 3 (.double (FP.i2d (p3 ^^^ p4)))) 4 T237.heap n0 z238 f239 x237_0 x237_1 x237_2 x237_3 f240 f241 x237_4 g_b110 g_v1_113 ne115 ne114 x113_2 (hcap) (by decide) (by simp only [List.length_set, List.length_replicate])) hZ (hw _ (List.mem_of_getElem? (i := 64) rfl)) (hw _ (List.mem_of_getElem? (i := 2) rfl)) (by decide) (by decide)) q242a q242c (g := (mkF m 124 #[.val (.int p1), .val (.int p2), .val (.int p3), .val (.int p4), .val (.int p5), .val (.int cap), .val (.int (Int32.ofNat kn)), .val (.int fi), .val (.ref b110), .val (.long (1 : Int64)), .second, .unset, .unset] [(.double (FP.i2d (p4 - p5))), (.ref b110)])) rfl (by rw [hml]; rfl) (Steps.refl _) (argsL := [(.double (FP.i2d (p4 - p5)))]) (rest := []) (lenOf pd__28D_29V rfl) rfl (by show 2 * 0 + _ ≤ _; exact Nat.le_of_eq rfl) (hb hby at_124) (fun _ _ => ⟨rfl, rfl, (by decide : 3 + 0 ≤ _), (by decide : 4103 + 0 ≤ _)⟩)
    dsimp only [Pt.U, Pt.locs, Pt.cells, Pt.slots] at X242 l242 y242 z242 st242 hQ242
    subst l242 y242 z242
    obtain ⟨rfl, N242q, K242, x242_0, x242_1, x242_2, x242_3, x242_4⟩ := hQ242
    have N242 := Fr.app N237 N242q
    have z243 : n0 ≤ T242.heap.size := Nat.le_trans z238 K242.1
    have pre244 : ∀ t_, Steps p.tables e below (T242.setTop (mkF m 162 #[.val (.int p1), .val (.int p2), .val (.int p3), .val (.int p4), .val (.int p5), .val (.int cap), .val (.int (Int32.ofNat kn)), .val (.int fi), .val (.ref b110), .val (.long (1 : Int64)), .second, .unset, .unset] [(.int fi)])) t_ → Steps p.tables e below (s₁.setTop (entryFrame m #[(.int p1), (.int p2), (.int p3), (.int p4), (.int p5)] maxLocals)) t_ := fun t_ kt => pre119 t_ (by
        show Steps p.tables e below (T118.setTop (mkF m 59 #[.val (.int p1), .val (.int p2), .val (.int p3), .val (.int p4), .val (.int p5), .val (.int cap), .val (.int (Int32.ofNat kn)), .val (.int fi), .val (.ref b110), .val (.long (1 : Int64)), .second, .unset, .unset] [(.int (Int32.ofNat kn))])) _
        refine XS.ifNo X118.here hx rfl (hb hby at_59) rfl ((if0 _ _).trans (tlt (lt32 (i := 0) (n := kn) (by omega) (by omega) : (0 : Int32) < (Int32.ofNat kn))).2.2.2) ?_
        show Steps p.tables e below (T118.setTop (mkF m 62 #[.val (.int p1), .val (.int p2), .val (.int p3), .val (.int p4), .val (.int p5), .val (.int cap), .val (.int (Int32.ofNat kn)), .val (.int fi), .val (.ref b110), .val (.long (1 : Int64)), .second, .unset, .unset] [])) _
        refine XS.aload X118.here hx rfl (hb hby at_62) rfl rfl ?_
        show Steps p.tables e below (T118.setTop (mkF m 64 #[.val (.int p1), .val (.int p2), .val (.int p3), .val (.int p4), .val (.int p5), .val (.int cap), .val (.int (Int32.ofNat kn)), .val (.int fi), .val (.ref b110), .val (.long (1 : Int64)), .second, .unset, .unset] [(.ref b110)])) _
        refine XS.iloadN X118.here hx rfl (hb hby at_64) rfl ?_
        show Steps p.tables e below (T118.setTop (mkF m 65 #[.val (.int p1), .val (.int p2), .val (.int p3), .val (.int p4), .val (.int p5), .val (.int cap), .val (.int (Int32.ofNat kn)), .val (.int fi), .val (.ref b110), .val (.long (1 : Int64)), .second, .unset, .unset] [(.int p3), (.ref b110)])) _
        refine XS.i2dS X118.here hx rfl (hb hby at_65) rfl (v := (FP.i2d p3)) rfl ?_
        show Steps p.tables e below (T118.setTop (mkF m 66 #[.val (.int p1), .val (.int p2), .val (.int p3), .val (.int p4), .val (.int p5), .val (.int cap), .val (.int (Int32.ofNat kn)), .val (.int fi), .val (.ref b110), .val (.long (1 : Int64)), .second, .unset, .unset] [(.double (FP.i2d p3)), (.ref b110)])) _
        refine st222.trans ?_
        show Steps p.tables e below (T222.setTop (mkF m 69 #[.val (.int p1), .val (.int p2), .val (.int p3), .val (.int p4), .val (.int p5), .val (.int cap), .val (.int (Int32.ofNat kn)), .val (.int fi), .val (.ref b110), .val (.long (1 : Int64)), .second, .unset, .unset] [])) _
        refine XS.iload X222.here hx rfl (hb hby at_69) rfl ?_
        show Steps p.tables e below (T222.setTop (mkF m 71 #[.val (.int p1), .val (.int p2), .val (.int p3), .val (.int p4), .val (.int p5), .val (.int cap), .val (.int (Int32.ofNat kn)), .val (.int fi), .val (.ref b110), .val (.long (1 : Int64)), .second, .unset, .unset] [(.int (Int32.ofNat kn))])) _
        refine XS.iconst X222.here hx rfl (hb hby at_71) ?_
        show Steps p.tables e below (T222.setTop (mkF m 72 #[.val (.int p1), .val (.int p2), .val (.int p3), .val (.int p4), .val (.int p5), .val (.int cap), .val (.int (Int32.ofNat kn)), .val (.int fi), .val (.ref b110), .val (.long (1 : Int64)), .second, .unset, .unset] [(.int (1 : Int32)), (.int (Int32.ofNat kn))])) _
        refine XS.icmpNo X222.here hx rfl (hb hby at_72) rfl (tlt (lt32 (i := 1) (n := kn) (by omega) (by omega) : (1 : Int32) < (Int32.ofNat kn))).2.2.2 ?_
        show Steps p.tables e below (T222.setTop (mkF m 75 #[.val (.int p1), .val (.int p2), .val (.int p3), .val (.int p4), .val (.int p5), .val (.int cap), .val (.int (Int32.ofNat kn)), .val (.int fi), .val (.ref b110), .val (.long (1 : Int64)), .second, .unset, .unset] [])) _
        refine XS.aload X222.here hx rfl (hb hby at_75) rfl rfl ?_
        show Steps p.tables e below (T222.setTop (mkF m 77 #[.val (.int p1), .val (.int p2), .val (.int p3), .val (.int p4), .val (.int p5), .val (.int cap), .val (.int (Int32.ofNat kn)), .val (.int fi), .val (.ref b110), .val (.long (1 : Int64)), .second, .unset, .unset] [(.ref b110)])) _
        refine XS.iloadN X222.here hx rfl (hb hby at_77) rfl ?_
        show Steps p.tables e below (T222.setTop (mkF m 78 #[.val (.int p1), .val (.int p2), .val (.int p3), .val (.int p4), .val (.int p5), .val (.int cap), .val (.int (Int32.ofNat kn)), .val (.int fi), .val (.ref b110), .val (.long (1 : Int64)), .second, .unset, .unset] [(.int p4), (.ref b110)])) _
        refine XS.i2dS X222.here hx rfl (hb hby at_78) rfl (v := (FP.i2d p4)) rfl ?_
        show Steps p.tables e below (T222.setTop (mkF m 79 #[.val (.int p1), .val (.int p2), .val (.int p3), .val (.int p4), .val (.int p5), .val (.int cap), .val (.int (Int32.ofNat kn)), .val (.int fi), .val (.ref b110), .val (.long (1 : Int64)), .second, .unset, .unset] [(.double (FP.i2d p4)), (.ref b110)])) _
        refine st227.trans ?_
        show Steps p.tables e below (T227.setTop (mkF m 82 #[.val (.int p1), .val (.int p2), .val (.int p3), .val (.int p4), .val (.int p5), .val (.int cap), .val (.int (Int32.ofNat kn)), .val (.int fi), .val (.ref b110), .val (.long (1 : Int64)), .second, .unset, .unset] [])) _
        refine XS.iload X227.here hx rfl (hb hby at_82) rfl ?_
        show Steps p.tables e below (T227.setTop (mkF m 84 #[.val (.int p1), .val (.int p2), .val (.int p3), .val (.int p4), .val (.int p5), .val (.int cap), .val (.int (Int32.ofNat kn)), .val (.int fi), .val (.ref b110), .val (.long (1 : Int64)), .second, .unset, .unset] [(.int (Int32.ofNat kn))])) _
        refine XS.iconst X227.here hx rfl (hb hby at_84) ?_
        show Steps p.tables e below (T227.setTop (mkF m 85 #[.val (.int p1), .val (.int p2), .val (.int p3), .val (.int p4), .val (.int p5), .val (.int cap), .val (.int (Int32.ofNat kn)), .val (.int fi), .val (.ref b110), .val (.long (1 : Int64)), .second, .unset, .unset] [(.int (2 : Int32)), (.int (Int32.ofNat kn))])) _
        refine XS.icmpNo X227.here hx rfl (hb hby at_85) rfl (tlt (lt32 (i := 2) (n := kn) (by omega) (by omega) : (2 : Int32) < (Int32.ofNat kn))).2.2.2 ?_
        show Steps p.tables e below (T227.setTop (mkF m 88 #[.val (.int p1), .val (.int p2), .val (.int p3), .val (.int p4), .val (.int p5), .val (.int cap), .val (.int (Int32.ofNat kn)), .val (.int fi), .val (.ref b110), .val (.long (1 : Int64)), .second, .unset, .unset] [])) _
        refine XS.aload X227.here hx rfl (hb hby at_88) rfl rfl ?_
        show Steps p.tables e below (T227.setTop (mkF m 90 #[.val (.int p1), .val (.int p2), .val (.int p3), .val (.int p4), .val (.int p5), .val (.int cap), .val (.int (Int32.ofNat kn)), .val (.int fi), .val (.ref b110), .val (.long (1 : Int64)), .second, .unset, .unset] [(.ref b110)])) _
        refine XS.iload X227.here hx rfl (hb hby at_90) rfl ?_
        show Steps p.tables e below (T227.setTop (mkF m 92 #[.val (.int p1), .val (.int p2), .val (.int p3), .val (.int p4), .val (.int p5), .val (.int cap), .val (.int (Int32.ofNat kn)), .val (.int fi), .val (.ref b110), .val (.long (1 : Int64)), .second, .unset, .unset] [(.int p5), (.ref b110)])) _
        refine XS.i2dS X227.here hx rfl (hb hby at_92) rfl (v := (FP.i2d p5)) rfl ?_
        show Steps p.tables e below (T227.setTop (mkF m 93 #[.val (.int p1), .val (.int p2), .val (.int p3), .val (.int p4), .val (.int p5), .val (.int cap), .val (.int (Int32.ofNat kn)), .val (.int fi), .val (.ref b110), .val (.long (1 : Int64)), .second, .unset, .unset] [(.double (FP.i2d p5)), (.ref b110)])) _
        refine st232.trans ?_
        show Steps p.tables e below (T232.setTop (mkF m 96 #[.val (.int p1), .val (.int p2), .val (.int p3), .val (.int p4), .val (.int p5), .val (.int cap), .val (.int (Int32.ofNat kn)), .val (.int fi), .val (.ref b110), .val (.long (1 : Int64)), .second, .unset, .unset] [])) _
        refine XS.iload X232.here hx rfl (hb hby at_96) rfl ?_
        show Steps p.tables e below (T232.setTop (mkF m 98 #[.val (.int p1), .val (.int p2), .val (.int p3), .val (.int p4), .val (.int p5), .val (.int cap), .val (.int (Int32.ofNat kn)), .val (.int fi), .val (.ref b110), .val (.long (1 : Int64)), .second, .unset, .unset] [(.int (Int32.ofNat kn))])) _
        refine XS.iconst X232.here hx rfl (hb hby at_98) ?_
        show Steps p.tables e below (T232.setTop (mkF m 99 #[.val (.int p1), .val (.int p2), .val (.int p3), .val (.int p4), .val (.int p5), .val (.int cap), .val (.int (Int32.ofNat kn)), .val (.int fi), .val (.ref b110), .val (.long (1 : Int64)), .second, .unset, .unset] [(.int (3 : Int32)), (.int (Int32.ofNat kn))])) _
        refine XS.icmpNo X232.here hx rfl (hb hby at_99) rfl (tlt (lt32 (i := 3) (n := kn) (by omega) (by omega) : (3 : Int32) < (Int32.ofNat kn))).2.2.2 ?_
        show Steps p.tables e below (T232.setTop (mkF m 102 #[.val (.int p1), .val (.int p2), .val (.int p3), .val (.int p4), .val (.int p5), .val (.int cap), .val (.int (Int32.ofNat kn)), .val (.int fi), .val (.ref b110), .val (.long (1 : Int64)), .second, .unset, .unset] [])) _
        refine XS.aload X232.here hx rfl (hb hby at_102) rfl rfl ?_
        show Steps p.tables e below (T232.setTop (mkF m 104 #[.val (.int p1), .val (.int p2), .val (.int p3), .val (.int p4), .val (.int p5), .val (.int cap), .val (.int (Int32.ofNat kn)), .val (.int fi), .val (.ref b110), .val (.long (1 : Int64)), .second, .unset, .unset] [(.ref b110)])) _
        refine XS.iloadN X232.here hx rfl (hb hby at_104) rfl ?_
        show Steps p.tables e below (T232.setTop (mkF m 105 #[.val (.int p1), .val (.int p2), .val (.int p3), .val (.int p4), .val (.int p5), .val (.int cap), .val (.int (Int32.ofNat kn)), .val (.int fi), .val (.ref b110), .val (.long (1 : Int64)), .second, .unset, .unset] [(.int p3), (.ref b110)])) _
        refine XS.iloadN X232.here hx rfl (hb hby at_105) rfl ?_
        show Steps p.tables e below (T232.setTop (mkF m 106 #[.val (.int p1), .val (.int p2), .val (.int p3), .val (.int p4), .val (.int p5), .val (.int cap), .val (.int (Int32.ofNat kn)), .val (.int fi), .val (.ref b110), .val (.long (1 : Int64)), .second, .unset, .unset] [(.int p4), (.int p3), (.ref b110)])) _
        refine XS.ixor X232.here hx rfl (hb hby at_106) rfl ?_
        show Steps p.tables e below (T232.setTop (mkF m 107 #[.val (.int p1), .val (.int p2), .val (.int p3), .val (.int p4), .val (.int p5), .val (.int cap), .val (.int (Int32.ofNat kn)), .val (.int fi), .val (.ref b110), .val (.long (1 : Int64)), .second, .unset, .unset] [(.int (p3 ^^^ p4)), (.ref b110)])) _
        refine XS.i2dS X232.here hx rfl (hb hby at_107) rfl (v := (FP.i2d (p3 ^^^ p4))) rfl ?_
        show Steps p.tables e below (T232.setTop (mkF m 108 #[.val (.int p1), .val (.int p2), .val (.int p3), .val (.int p4), .val (.int p5), .val (.int cap), .val (.int (Int32.ofNat kn)), .val (.int fi), .val (.ref b110), .val (.long (1 : Int64)), .second, .unset, .unset] [(.double (FP.i2d (p3 ^^^ p4))), (.ref b110)])) _
        refine st237.trans ?_
        show Steps p.tables e below (T237.setTop (mkF m 111 #[.val (.int p1), .val (.int p2), .val (.int p3), .val (.int p4), .val (.int p5), .val (.int cap), .val (.int (Int32.ofNat kn)), .val (.int fi), .val (.ref b110), .val (.long (1 : Int64)), .second, .unset, .unset] [])) _
        refine XS.iload X237.here hx rfl (hb hby at_111) rfl ?_
        show Steps p.tables e below (T237.setTop (mkF m 113 #[.val (.int p1), .val (.int p2), .val (.int p3), .val (.int p4), .val (.int p5), .val (.int cap), .val (.int (Int32.ofNat kn)), .val (.int fi), .val (.ref b110), .val (.long (1 : Int64)), .second, .unset, .unset] [(.int (Int32.ofNat kn))])) _
        refine XS.iconst X237.here hx rfl (hb hby at_113) ?_
        show Steps p.tables e below (T237.setTop (mkF m 114 #[.val (.int p1), .val (.int p2), .val (.int p3), .val (.int p4), .val (.int p5), .val (.int cap), .val (.int (Int32.ofNat kn)), .val (.int fi), .val (.ref b110), .val (.long (1 : Int64)), .second, .unset, .unset] [(.int (4 : Int32)), (.int (Int32.ofNat kn))])) _
        refine XS.icmpNo X237.here hx rfl (hb hby at_114) rfl (tlt (lt32 (i := 4) (n := kn) (by omega) (by omega) : (4 : Int32) < (Int32.ofNat kn))).2.2.2 ?_
        show Steps p.tables e below (T237.setTop (mkF m 117 #[.val (.int p1), .val (.int p2), .val (.int p3), .val (.int p4), .val (.int p5), .val (.int cap), .val (.int (Int32.ofNat kn)), .val (.int fi), .val (.ref b110), .val (.long (1 : Int64)), .second, .unset, .unset] [])) _
        refine XS.aload X237.here hx rfl (hb hby at_117) rfl rfl ?_
        show Steps p.tables e below (T237.setTop (mkF m 119 #[.val (.int p1), .val (.int p2), .val (.int p3), .val (.int p4), .val (.int p5), .val (.int cap), .val (.int (Int32.ofNat kn)), .val (.int fi), .val (.ref b110), .val (.long (1 : Int64)), .second, .unset, .unset] [(.ref b110)])) _
        refine XS.iloadN X237.here hx rfl (hb hby at_119) rfl ?_
        show Steps p.tables e below (T237.setTop (mkF m 120 #[.val (.int p1), .val (.int p2), .val (.int p3), .val (.int p4), .val (.int p5), .val (.int cap), .val (.int (Int32.ofNat kn)), .val (.int fi), .val (.ref b110), .val (.long (1 : Int64)), .second, .unset, .unset] [(.int p4), (.ref b110)])) _
        refine XS.iload X237.here hx rfl (hb hby at_120) rfl ?_
        show Steps p.tables e below (T237.setTop (mkF m 122 #[.val (.int p1), .val (.int p2), .val (.int p3), .val (.int p4), .val (.int p5), .val (.int cap), .val (.int (Int32.ofNat kn)), .val (.int fi), .val (.ref b110), .val (.long (1 : Int64)), .second, .unset, .unset] [(.int p5), (.int p4), (.ref b110)])) _
        refine XS.isub X237.here hx rfl (hb hby at_122) rfl ?_
        show Steps p.tables e below (T237.setTop (mkF m 123 #[.val (.int p1), .val (.int p2), .val (.int p3), .val (.int p4), .val (.int p5), .val (.int cap), .val (.int (Int32.ofNat kn)), .val (.int fi), .val (.ref b110), .val (.long (1 : Int64)), .second, .unset, .unset] [(.int (p4 - p5)), (.ref b110)])) _
        refine XS.i2dS X237.here hx rfl (hb hby at_123) rfl (v := (FP.i2d (p4 - p5))) rfl ?_
        show Steps p.tables e below (T237.setTop (mkF m 124 #[.val (.int p1), .val (.int p2), .val (.int p3), .val (.int p4), .val (.int p5), .val (.int cap), .val (.int (Int32.ofNat kn)), .val (.int fi), .val (.ref b110), .val (.long (1 : Int64)), .second, .unset, .unset] [(.double (FP.i2d (p4 - p5))), (.ref b110)])) _
        refine st242.trans ?_
        show Steps p.tables e below (T242.setTop (mkF m 127 #[.val (.int p1), .val (.int p2), .val (.int p3), .val (.int p4), .val (.int p5), .val (.int cap), .val (.int (Int32.ofNat kn)), .val (.int fi), .val (.ref b110), .val (.long (1 : Int64)), .second, .unset, .unset] [])) _
        refine XS.iload X242.here hx rfl (hb hby at_127) rfl ?_
        show Steps p.tables e below (T242.setTop (mkF m 129 #[.val (.int p1), .val (.int p2), .val (.int p3), .val (.int p4), .val (.int p5), .val (.int cap), .val (.int (Int32.ofNat kn)), .val (.int fi), .val (.ref b110), .val (.long (1 : Int64)), .second, .unset, .unset] [(.int (Int32.ofNat kn))])) _
        refine XS.iconst X242.here hx rfl (hb hby at_129) ?_
        show Steps p.tables e below (T242.setTop (mkF m 130 #[.val (.int p1), .val (.int p2), .val (.int p3), .val (.int p4), .val (.int p5), .val (.int cap), .val (.int (Int32.ofNat kn)), .val (.int fi), .val (.ref b110), .val (.long (1 : Int64)), .second, .unset, .unset] [(.int (5 : Int32)), (.int (Int32.ofNat kn))])) _
        refine XS.icmpYes X242.here hx rfl (pc0 := 130) (pc' := 143) rfl (hb hby at_130) rfl (flt (nlt32 (i := 5) (n := kn) (by omega) (by omega) : ¬ ((5 : Int32) < (Int32.ofNat kn)))).2.2.2 (by decide) (by decide) ?_
        show Steps p.tables e below (T242.setTop (mkF m 143 #[.val (.int p1), .val (.int p2), .val (.int p3), .val (.int p4), .val (.int p5), .val (.int cap), .val (.int (Int32.ofNat kn)), .val (.int fi), .val (.ref b110), .val (.long (1 : Int64)), .second, .unset, .unset] [])) _
        refine XS.iload X242.here hx rfl (hb hby at_143) rfl ?_
        show Steps p.tables e below (T242.setTop (mkF m 145 #[.val (.int p1), .val (.int p2), .val (.int p3), .val (.int p4), .val (.int p5), .val (.int cap), .val (.int (Int32.ofNat kn)), .val (.int fi), .val (.ref b110), .val (.long (1 : Int64)), .second, .unset, .unset] [(.int (Int32.ofNat kn))])) _
        refine XS.bipush X242.here hx rfl (hb hby at_145) ?_
        show Steps p.tables e below (T242.setTop (mkF m 147 #[.val (.int p1), .val (.int p2), .val (.int p3), .val (.int p4), .val (.int p5), .val (.int cap), .val (.int (Int32.ofNat kn)), .val (.int fi), .val (.ref b110), .val (.long (1 : Int64)), .second, .unset, .unset] [(.int (6 : Int32)), (.int (Int32.ofNat kn))])) _
        refine XS.icmpYes X242.here hx rfl (pc0 := 147) (pc' := 160) rfl (hb hby at_147) rfl (flt (nlt32 (i := 6) (n := kn) (by omega) (by omega) : ¬ ((6 : Int32) < (Int32.ofNat kn)))).2.2.2 (by decide) (by decide) ?_
        show Steps p.tables e below (T242.setTop (mkF m 160 #[.val (.int p1), .val (.int p2), .val (.int p3), .val (.int p4), .val (.int p5), .val (.int cap), .val (.int (Int32.ofNat kn)), .val (.int fi), .val (.ref b110), .val (.long (1 : Int64)), .second, .unset, .unset] [])) _
        refine XS.iload X242.here hx rfl (hb hby at_160) rfl ?_
        exact kt)
    by_cases hF : fi = (0 : Int32)
    · skip
      have f245 : Exa Z T242.heap b110 "com/example/attacca/attacca/DecimatingBuffer" := (f239.keep K242)
      have f246 : Exa Z T242.heap l1_113 "java/util/ArrayList" := (f240.keep K242)
      have f247 : Fld Z T242.heap l1_113 "java/util/ArrayList" "size" "I" (.int (0 : Int32)) := (f241.keep K242 (own_nmc (Ne.symm ne114) (own_nmc x113_2 own_nm0)))
      obtain ⟨cq248, kq248, q248a, q248b, q248c⟩ := isOf hZ rfl f245
      obtain ⟨_, _, ⟨T248, L248, kk248, nn248⟩, -, X248, ⟨Lc248, hQ248, l248, y248, z248⟩, st248⟩ := X242.virtualBack hx (y := (⟨"com/example/attacca/attacca/DecimatingBuffer", "stride", "()J"⟩ : MethodName)) (z := (⟨"com/example/attacca/attacca/DecimatingBuffer", "stride", "()J"⟩ : MethodName)) hown (mvT hZ (hw _ (List.mem_of_getElem? (i := 44) rfl))) (mvT hZ (hw _ (List.mem_of_getElem? (i := 45) rfl))) (notFace_of_selects (args := #[]) (mvT hZ (hw _ (List.mem_of_getElem? (i := 47) rfl)))) (mvT hZ (hw _ (List.mem_of_getElem? (i := 47) rfl))) (mvT hZ (hw _ (List.mem_of_getElem? (i := 46) rfl))) (by decide) (backOf (W := 0) (rmstride l Z a0 hw [] b110 l1_113 T242.heap n0 z243 f245 x242_0 f246 f247) hZ (hw _ (List.mem_of_getElem? (i := 48) rfl)) (hw _ (List.mem_of_getElem? (i := 2) rfl)) (by decide) (by decide)) q248a q248c (g := (mkF m 172 #[.val (.int p1), .val (.int p2), .val (.int p3), .val (.int p4), .val (.int p5), .val (.int cap), .val (.int (Int32.ofNat kn)), .val (.int fi), .val (.ref b110), .val (.long (1 : Int64)), .second, .unset, .unset] [(.ref b110)])) rfl (by rw [hml]; rfl) (Steps.refl _) (argsL := []) (rest := []) (lenOf pd__28_29J rfl) rfl (by show 2 * 0 + _ ≤ _; exact Nat.le_of_eq rfl) (hb hby at_172) (fun _ _ => ⟨rfl, rfl, (by decide : 3 + 0 ≤ _), (by decide : 4103 + 0 ≤ _)⟩)
      dsimp only [Pt.U, Pt.locs, Pt.cells, Pt.slots] at X248 l248 y248 z248 st248 hQ248
      subst l248 y248 z248
      obtain ⟨rfl, N248q, e248⟩ := hQ248
      have N248 := Fr.app N242 N248q
      obtain ⟨cq249, kq249, q249a, q249b, q249c⟩ := isOf hZ e248 f245
      obtain ⟨_, _, ⟨T249, L249, kk249, nn249⟩, -, X249, ⟨Lc249, hQ249, l249, y249, z249⟩, st249⟩ := X248.virtualBack hx (y := (⟨"com/example/attacca/attacca/DecimatingBuffer", "count", "()I"⟩ : MethodName)) (z := (⟨"com/example/attacca/attacca/DecimatingBuffer", "count", "()I"⟩ : MethodName)) hown (mvT hZ (hw _ (List.mem_of_getElem? (i := 71) rfl))) (mvT hZ (hw _ (List.mem_of_getElem? (i := 72) rfl))) (notFace_of_selects (args := #[]) (mvT hZ (hw _ (List.mem_of_getElem? (i := 74) rfl)))) (mvT hZ (hw _ (List.mem_of_getElem? (i := 74) rfl))) (mvT hZ (hw _ (List.mem_of_getElem? (i := 73) rfl))) (by decide) (backOf (W := 0) (rmcount l Z a0 hw [] b110 5 T242.heap n0 z243 f245 x242_3) hZ (hw _ (List.mem_of_getElem? (i := 75) rfl)) (hw _ (List.mem_of_getElem? (i := 2) rfl)) (by decide) (by decide)) q249a q249c (g := (mkF m 193 #[.val (.int p1), .val (.int p2), .val (.int p3), .val (.int p4), .val (.int p5), .val (.int cap), .val (.int (Int32.ofNat kn)), .val (.int fi), .val (.ref b110), .val (.long (1 : Int64)), .second, .val (.long (1 : Int64)), .second] [(.ref b110)])) rfl (by rw [hml]; rfl) (Steps.refl _) (argsL := []) (rest := []) (lenOf pd__28_29I rfl) rfl (by show 2 * 0 + _ ≤ _; exact Nat.le_of_eq rfl) (hb hby at_193) (fun _ _ => ⟨rfl, e248, (by decide : 3 + 0 ≤ _), (by decide : 4103 + 0 ≤ _)⟩)
      dsimp only [Pt.U, Pt.locs, Pt.cells, Pt.slots] at X249 l249 y249 z249 st249 hQ249
      subst l249 y249 z249
      obtain ⟨rfl, N249q, e249⟩ := hQ249
      have N249 := Fr.app N248 N249q
      have pre250 : ∀ t_, Steps p.tables e below (T249.setTop (mkF m 206 #[.val (.int p1), .val (.int p2), .val (.int p3), .val (.int p4), .val (.int p5), .val (.int cap), .val (.int (Int32.ofNat kn)), .val (.int fi), .val (.ref b110), .val (.long (1 : Int64)), .second, .val (.long (1 : Int64)), .second] [(.int (1 : Int32))])) t_ → Steps p.tables e below (s₁.setTop (entryFrame m #[(.int p1), (.int p2), (.int p3), (.int p4), (.int p5)] maxLocals)) t_ := fun t_ kt => pre244 t_ (by
          show Steps p.tables e below (T242.setTop (mkF m 162 #[.val (.int p1), .val (.int p2), .val (.int p3), .val (.int p4), .val (.int p5), .val (.int cap), .val (.int (Int32.ofNat kn)), .val (.int fi), .val (.ref b110), .val (.long (1 : Int64)), .second, .unset, .unset] [(.int fi)])) _
          refine XS.ifYes X242.here hx rfl (pc0 := 162) (pc' := 170) rfl (hb hby at_162) rfl ((if0 _ _).trans (teq (hF : fi = (0 : Int32))).1) (by decide) (by decide) ?_
          show Steps p.tables e below (T242.setTop (mkF m 170 #[.val (.int p1), .val (.int p2), .val (.int p3), .val (.int p4), .val (.int p5), .val (.int cap), .val (.int (Int32.ofNat kn)), .val (.int fi), .val (.ref b110), .val (.long (1 : Int64)), .second, .unset, .unset] [])) _
          refine XS.aload X242.here hx rfl (hb hby at_170) rfl rfl ?_
          show Steps p.tables e below (T242.setTop (mkF m 172 #[.val (.int p1), .val (.int p2), .val (.int p3), .val (.int p4), .val (.int p5), .val (.int cap), .val (.int (Int32.ofNat kn)), .val (.int fi), .val (.ref b110), .val (.long (1 : Int64)), .second, .unset, .unset] [(.ref b110)])) _
          refine st248.trans ?_
          show Steps p.tables e below (T248.setTop (mkF m 175 #[.val (.int p1), .val (.int p2), .val (.int p3), .val (.int p4), .val (.int p5), .val (.int cap), .val (.int (Int32.ofNat kn)), .val (.int fi), .val (.ref b110), .val (.long (1 : Int64)), .second, .unset, .unset] [(.long (1 : Int64))])) _
          refine XS.lstore X248.here hx rfl (hb hby at_175) rfl (l' := #[.val (.int p1), .val (.int p2), .val (.int p3), .val (.int p4), .val (.int p5), .val (.int cap), .val (.int (Int32.ofNat kn)), .val (.int fi), .val (.ref b110), .val (.long (1 : Int64)), .second, .val (.long (1 : Int64)), .second]) rfl ?_
          show Steps p.tables e below (T248.setTop (mkF m 177 #[.val (.int p1), .val (.int p2), .val (.int p3), .val (.int p4), .val (.int p5), .val (.int cap), .val (.int (Int32.ofNat kn)), .val (.int fi), .val (.ref b110), .val (.long (1 : Int64)), .second, .val (.long (1 : Int64)), .second] [])) _
          refine XS.lload X248.here hx rfl (hb hby at_177) rfl ?_
          show Steps p.tables e below (T248.setTop (mkF m 179 #[.val (.int p1), .val (.int p2), .val (.int p3), .val (.int p4), .val (.int p5), .val (.int cap), .val (.int (Int32.ofNat kn)), .val (.int fi), .val (.ref b110), .val (.long (1 : Int64)), .second, .val (.long (1 : Int64)), .second] [(.long (1 : Int64))])) _
          refine XS.lconst X248.here hx rfl (hb hby at_179) ?_
          show Steps p.tables e below (T248.setTop (mkF m 180 #[.val (.int p1), .val (.int p2), .val (.int p3), .val (.int p4), .val (.int p5), .val (.int cap), .val (.int (Int32.ofNat kn)), .val (.int fi), .val (.ref b110), .val (.long (1 : Int64)), .second, .val (.long (1 : Int64)), .second] [(.long (1 : Int64)), (.long (1 : Int64))])) _
          refine XS.lcmp X248.here hx rfl (hb hby at_180) rfl ?_
          show Steps p.tables e below (T248.setTop (mkF m 181 #[.val (.int p1), .val (.int p2), .val (.int p3), .val (.int p4), .val (.int p5), .val (.int cap), .val (.int (Int32.ofNat kn)), .val (.int fi), .val (.ref b110), .val (.long (1 : Int64)), .second, .val (.long (1 : Int64)), .second] [(.int (lcmpW (1 : Int64) (1 : Int64)))])) _
          refine XS.ifNo X248.here hx rfl (hb hby at_181) rfl ((if0 _ _).trans (teq ((by decide) : (lcmpW (1 : Int64) (1 : Int64)) = (0 : Int32))).2) ?_
          show Steps p.tables e below (T248.setTop (mkF m 184 #[.val (.int p1), .val (.int p2), .val (.int p3), .val (.int p4), .val (.int p5), .val (.int cap), .val (.int (Int32.ofNat kn)), .val (.int fi), .val (.ref b110), .val (.long (1 : Int64)), .second, .val (.long (1 : Int64)), .second] [])) _
          refine XS.lload X248.here hx rfl (hb hby at_184) rfl ?_
          show Steps p.tables e below (T248.setTop (mkF m 186 #[.val (.int p1), .val (.int p2), .val (.int p3), .val (.int p4), .val (.int p5), .val (.int cap), .val (.int (Int32.ofNat kn)), .val (.int fi), .val (.ref b110), .val (.long (1 : Int64)), .second, .val (.long (1 : Int64)), .second] [(.long (1 : Int64))])) _
          refine XS.lconst X248.here hx rfl (hb hby at_186) ?_
          show Steps p.tables e below (T248.setTop (mkF m 187 #[.val (.int p1), .val (.int p2), .val (.int p3), .val (.int p4), .val (.int p5), .val (.int cap), .val (.int (Int32.ofNat kn)), .val (.int fi), .val (.ref b110), .val (.long (1 : Int64)), .second, .val (.long (1 : Int64)), .second] [(.long (1 : Int64)), (.long (1 : Int64))])) _
          refine XS.lcmp X248.here hx rfl (hb hby at_187) rfl ?_
          show Steps p.tables e below (T248.setTop (mkF m 188 #[.val (.int p1), .val (.int p2), .val (.int p3), .val (.int p4), .val (.int p5), .val (.int cap), .val (.int (Int32.ofNat kn)), .val (.int fi), .val (.ref b110), .val (.long (1 : Int64)), .second, .val (.long (1 : Int64)), .second] [(.int (lcmpW (1 : Int64) (1 : Int64)))])) _
          refine XS.ifNo X248.here hx rfl (hb hby at_188) rfl ((if0 _ _).trans (teq ((by decide) : (lcmpW (1 : Int64) (1 : Int64)) = (0 : Int32))).2) ?_
          show Steps p.tables e below (T248.setTop (mkF m 191 #[.val (.int p1), .val (.int p2), .val (.int p3), .val (.int p4), .val (.int p5), .val (.int cap), .val (.int (Int32.ofNat kn)), .val (.int fi), .val (.ref b110), .val (.long (1 : Int64)), .second, .val (.long (1 : Int64)), .second] [])) _
          refine XS.aload X248.here hx rfl (hb hby at_191) rfl rfl ?_
          show Steps p.tables e below (T248.setTop (mkF m 193 #[.val (.int p1), .val (.int p2), .val (.int p3), .val (.int p4), .val (.int p5), .val (.int cap), .val (.int (Int32.ofNat kn)), .val (.int fi), .val (.ref b110), .val (.long (1 : Int64)), .second, .val (.long (1 : Int64)), .second] [(.ref b110)])) _
          refine st249.trans ?_
          show Steps p.tables e below (T249.setTop (mkF m 196 #[.val (.int p1), .val (.int p2), .val (.int p3), .val (.int p4), .val (.int p5), .val (.int cap), .val (.int (Int32.ofNat kn)), .val (.int fi), .val (.ref b110), .val (.long (1 : Int64)), .second, .val (.long (1 : Int64)), .second] [(.int (Int32.ofNat 5))])) _
          refine XS.iload X249.here hx rfl (hb hby at_196) rfl ?_
          show Steps p.tables e below (T249.setTop (mkF m 198 #[.val (.int p1), .val (.int p2), .val (.int p3), .val (.int p4), .val (.int p5), .val (.int cap), .val (.int (Int32.ofNat kn)), .val (.int fi), .val (.ref b110), .val (.long (1 : Int64)), .second, .val (.long (1 : Int64)), .second] [(.int (Int32.ofNat kn)), (.int (Int32.ofNat 5))])) _
          refine XS.icmpNo X249.here hx rfl (hb hby at_198) rfl (teq ((congrArg Int32.ofNat hj.symm) : (Int32.ofNat 5) = (Int32.ofNat kn))).2 ?_
          show Steps p.tables e below (T249.setTop (mkF m 201 #[.val (.int p1), .val (.int p2), .val (.int p3), .val (.int p4), .val (.int p5), .val (.int cap), .val (.int (Int32.ofNat kn)), .val (.int fi), .val (.ref b110), .val (.long (1 : Int64)), .second, .val (.long (1 : Int64)), .second] [])) _
          refine XS.iconst X249.here hx rfl (hb hby at_201) ?_
          show Steps p.tables e below (T249.setTop (mkF m 202 #[.val (.int p1), .val (.int p2), .val (.int p3), .val (.int p4), .val (.int p5), .val (.int cap), .val (.int (Int32.ofNat kn)), .val (.int fi), .val (.ref b110), .val (.long (1 : Int64)), .second, .val (.long (1 : Int64)), .second] [(.int (1 : Int32))])) _
          refine XS.goto X249.here hx rfl (pc0 := 202) (pc' := 206) rfl (hb hby at_202) (by decide) (by decide) ?_
          exact kt)
      obtain ⟨fs, hr, hrun, hended, hW, hsame⟩ := X249.leave (v := some (.int (1 : Int32))) (fun h => by rw [Bd.returns] at h; cases h)
      refine ⟨_, _, pre250 _ ?_, hrun, hended, _, _, rfl, ?_, ⟨_, rfl⟩, hW, hsame.mono (by decide) (by decide)⟩
      · show Steps p.tables e below (T249.setTop (mkF m 206 #[.val (.int p1), .val (.int p2), .val (.int p3), .val (.int p4), .val (.int p5), .val (.int cap), .val (.int (Int32.ofNat kn)), .val (.int fi), .val (.ref b110), .val (.long (1 : Int64)), .second, .val (.long (1 : Int64)), .second] [(.int (1 : Int32))])) _
        exact retN X249 hx (t := .boolean) Bd.returns (by simp) (hb hby at_206) hr
      · show Q0 Z p1 p2 p3 p4 p5 DC h0 n0 _ T249.heap _
        rw [e249]
        exact ⟨rfl, N249⟩
    · skip
      have f251 : Exa Z T242.heap b110 "com/example/attacca/attacca/DecimatingBuffer" := (f239.keep K242)
      have f252 : Exa Z T242.heap l1_113 "java/util/ArrayList" := (f240.keep K242)
      have f253 : Fld Z T242.heap l1_113 "java/util/ArrayList" "size" "I" (.int (0 : Int32)) := (f241.keep K242 (own_nmc (Ne.symm ne114) (own_nmc x113_2 own_nm0)))
      obtain ⟨cq254, kq254, q254a, q254b, q254c⟩ := isOf hZ rfl f251
      obtain ⟨_, _, ⟨T254, L254, kk254, nn254⟩, -, X254, ⟨Lc254, hQ254, l254, y254, z254⟩, st254⟩ := X242.virtualBack hx (y := (⟨"com/example/attacca/attacca/DecimatingBuffer", "end", "()V"⟩ : MethodName)) (z := (⟨"com/example/attacca/attacca/DecimatingBuffer", "end", "()V"⟩ : MethodName)) hown (mvT hZ (hw _ (List.mem_of_getElem? (i := 76) rfl))) (mvT hZ (hw _ (List.mem_of_getElem? (i := 77) rfl))) (notFace_of_selects (args := #[]) (mvT hZ (hw _ (List.mem_of_getElem? (i := 79) rfl)))) (mvT hZ (hw _ (List.mem_of_getElem? (i := 79) rfl))) (mvT hZ (hw _ (List.mem_of_getElem? (i := 78) rfl))) (by decide) (backOf (W := 0) (rmend l Z a0 hw [] b110 l1_113 T242.heap n0 z243 f251 x242_0 f252 f253) hZ (hw _ (List.mem_of_getElem? (i := 80) rfl)) (hw _ (List.mem_of_getElem? (i := 2) rfl)) (by decide) (by decide)) q254a q254c (g := (mkF m 167 #[.val (.int p1), .val (.int p2), .val (.int p3), .val (.int p4), .val (.int p5), .val (.int cap), .val (.int (Int32.ofNat kn)), .val (.int fi), .val (.ref b110), .val (.long (1 : Int64)), .second, .unset, .unset] [(.ref b110)])) rfl (by rw [hml]; rfl) (Steps.refl _) (argsL := []) (rest := []) (lenOf pd__28_29V rfl) rfl (by show 2 * 0 + _ ≤ _; exact Nat.le_of_eq rfl) (hb hby at_167) (fun _ _ => ⟨rfl, rfl, (by decide : 3 + 0 ≤ _), (by decide : 4103 + 0 ≤ _)⟩)
      dsimp only [Pt.U, Pt.locs, Pt.cells, Pt.slots] at X254 l254 y254 z254 st254 hQ254
      subst l254 y254 z254
      obtain ⟨rfl, N254q, e254⟩ := hQ254
      have N254 := Fr.app N242 N254q
      obtain ⟨cq255, kq255, q255a, q255b, q255c⟩ := isOf hZ e254 f251
      obtain ⟨_, _, ⟨T255, L255, kk255, nn255⟩, -, X255, ⟨Lc255, hQ255, l255, y255, z255⟩, st255⟩ := X254.virtualBack hx (y := (⟨"com/example/attacca/attacca/DecimatingBuffer", "stride", "()J"⟩ : MethodName)) (z := (⟨"com/example/attacca/attacca/DecimatingBuffer", "stride", "()J"⟩ : MethodName)) hown (mvT hZ (hw _ (List.mem_of_getElem? (i := 44) rfl))) (mvT hZ (hw _ (List.mem_of_getElem? (i := 45) rfl))) (notFace_of_selects (args := #[]) (mvT hZ (hw _ (List.mem_of_getElem? (i := 47) rfl)))) (mvT hZ (hw _ (List.mem_of_getElem? (i := 47) rfl))) (mvT hZ (hw _ (List.mem_of_getElem? (i := 46) rfl))) (by decide) (backOf (W := 0) (rmstride l Z a0 hw [] b110 l1_113 T242.heap n0 z243 f251 x242_0 f252 f253) hZ (hw _ (List.mem_of_getElem? (i := 48) rfl)) (hw _ (List.mem_of_getElem? (i := 2) rfl)) (by decide) (by decide)) q255a q255c (g := (mkF m 172 #[.val (.int p1), .val (.int p2), .val (.int p3), .val (.int p4), .val (.int p5), .val (.int cap), .val (.int (Int32.ofNat kn)), .val (.int fi), .val (.ref b110), .val (.long (1 : Int64)), .second, .unset, .unset] [(.ref b110)])) rfl (by rw [hml]; rfl) (Steps.refl _) (argsL := []) (rest := []) (lenOf pd__28_29J rfl) rfl (by show 2 * 0 + _ ≤ _; exact Nat.le_of_eq rfl) (hb hby at_172) (fun _ _ => ⟨rfl, e254, (by decide : 3 + 0 ≤ _), (by decide : 4103 + 0 ≤ _)⟩)
      dsimp only [Pt.U, Pt.locs, Pt.cells, Pt.slots] at X255 l255 y255 z255 st255 hQ255
      subst l255 y255 z255
      obtain ⟨rfl, N255q, e255⟩ := hQ255
      have N255 := Fr.app N254 N255q
      obtain ⟨cq256, kq256, q256a, q256b, q256c⟩ := isOf hZ e255 f251
      obtain ⟨_, _, ⟨T256, L256, kk256, nn256⟩, -, X256, ⟨Lc256, hQ256, l256, y256, z256⟩, st256⟩ := X255.virtualBack hx (y := (⟨"com/example/attacca/attacca/DecimatingBuffer", "count", "()I"⟩ : MethodName)) (z := (⟨"com/example/attacca/attacca/DecimatingBuffer", "count", "()I"⟩ : MethodName)) hown (mvT hZ (hw _ (List.mem_of_getElem? (i := 71) rfl))) (mvT hZ (hw _ (List.mem_of_getElem? (i := 72) rfl))) (notFace_of_selects (args := #[]) (mvT hZ (hw _ (List.mem_of_getElem? (i := 74) rfl)))) (mvT hZ (hw _ (List.mem_of_getElem? (i := 74) rfl))) (mvT hZ (hw _ (List.mem_of_getElem? (i := 73) rfl))) (by decide) (backOf (W := 0) (rmcount l Z a0 hw [] b110 5 T242.heap n0 z243 f251 x242_3) hZ (hw _ (List.mem_of_getElem? (i := 75) rfl)) (hw _ (List.mem_of_getElem? (i := 2) rfl)) (by decide) (by decide)) q256a q256c (g := (mkF m 193 #[.val (.int p1), .val (.int p2), .val (.int p3), .val (.int p4), .val (.int p5), .val (.int cap), .val (.int (Int32.ofNat kn)), .val (.int fi), .val (.ref b110), .val (.long (1 : Int64)), .second, .val (.long (1 : Int64)), .second] [(.ref b110)])) rfl (by rw [hml]; rfl) (Steps.refl _) (argsL := []) (rest := []) (lenOf pd__28_29I rfl) rfl (by show 2 * 0 + _ ≤ _; exact Nat.le_of_eq rfl) (hb hby at_193) (fun _ _ => ⟨rfl, e255, (by decide : 3 + 0 ≤ _), (by decide : 4103 + 0 ≤ _)⟩)
      dsimp only [Pt.U, Pt.locs, Pt.cells, Pt.slots] at X256 l256 y256 z256 st256 hQ256
      subst l256 y256 z256
      obtain ⟨rfl, N256q, e256⟩ := hQ256
      have N256 := Fr.app N255 N256q
      have pre257 : ∀ t_, Steps p.tables e below (T256.setTop (mkF m 206 #[.val (.int p1), .val (.int p2), .val (.int p3), .val (.int p4), .val (.int p5), .val (.int cap), .val (.int (Int32.ofNat kn)), .val (.int fi), .val (.ref b110), .val (.long (1 : Int64)), .second, .val (.long (1 : Int64)), .second] [(.int (1 : Int32))])) t_ → Steps p.tables e below (s₁.setTop (entryFrame m #[(.int p1), (.int p2), (.int p3), (.int p4), (.int p5)] maxLocals)) t_ := fun t_ kt => pre244 t_ (by
          show Steps p.tables e below (T242.setTop (mkF m 162 #[.val (.int p1), .val (.int p2), .val (.int p3), .val (.int p4), .val (.int p5), .val (.int cap), .val (.int (Int32.ofNat kn)), .val (.int fi), .val (.ref b110), .val (.long (1 : Int64)), .second, .unset, .unset] [(.int fi)])) _
          refine XS.ifNo X242.here hx rfl (hb hby at_162) rfl ((if0 _ _).trans (feq (hF : ¬ (fi = (0 : Int32)))).1) ?_
          show Steps p.tables e below (T242.setTop (mkF m 165 #[.val (.int p1), .val (.int p2), .val (.int p3), .val (.int p4), .val (.int p5), .val (.int cap), .val (.int (Int32.ofNat kn)), .val (.int fi), .val (.ref b110), .val (.long (1 : Int64)), .second, .unset, .unset] [])) _
          refine XS.aload X242.here hx rfl (hb hby at_165) rfl rfl ?_
          show Steps p.tables e below (T242.setTop (mkF m 167 #[.val (.int p1), .val (.int p2), .val (.int p3), .val (.int p4), .val (.int p5), .val (.int cap), .val (.int (Int32.ofNat kn)), .val (.int fi), .val (.ref b110), .val (.long (1 : Int64)), .second, .unset, .unset] [(.ref b110)])) _
          refine st254.trans ?_
          show Steps p.tables e below (T254.setTop (mkF m 170 #[.val (.int p1), .val (.int p2), .val (.int p3), .val (.int p4), .val (.int p5), .val (.int cap), .val (.int (Int32.ofNat kn)), .val (.int fi), .val (.ref b110), .val (.long (1 : Int64)), .second, .unset, .unset] [])) _
          refine XS.aload X254.here hx rfl (hb hby at_170) rfl rfl ?_
          show Steps p.tables e below (T254.setTop (mkF m 172 #[.val (.int p1), .val (.int p2), .val (.int p3), .val (.int p4), .val (.int p5), .val (.int cap), .val (.int (Int32.ofNat kn)), .val (.int fi), .val (.ref b110), .val (.long (1 : Int64)), .second, .unset, .unset] [(.ref b110)])) _
          refine st255.trans ?_
          show Steps p.tables e below (T255.setTop (mkF m 175 #[.val (.int p1), .val (.int p2), .val (.int p3), .val (.int p4), .val (.int p5), .val (.int cap), .val (.int (Int32.ofNat kn)), .val (.int fi), .val (.ref b110), .val (.long (1 : Int64)), .second, .unset, .unset] [(.long (1 : Int64))])) _
          refine XS.lstore X255.here hx rfl (hb hby at_175) rfl (l' := #[.val (.int p1), .val (.int p2), .val (.int p3), .val (.int p4), .val (.int p5), .val (.int cap), .val (.int (Int32.ofNat kn)), .val (.int fi), .val (.ref b110), .val (.long (1 : Int64)), .second, .val (.long (1 : Int64)), .second]) rfl ?_
          show Steps p.tables e below (T255.setTop (mkF m 177 #[.val (.int p1), .val (.int p2), .val (.int p3), .val (.int p4), .val (.int p5), .val (.int cap), .val (.int (Int32.ofNat kn)), .val (.int fi), .val (.ref b110), .val (.long (1 : Int64)), .second, .val (.long (1 : Int64)), .second] [])) _
          refine XS.lload X255.here hx rfl (hb hby at_177) rfl ?_
          show Steps p.tables e below (T255.setTop (mkF m 179 #[.val (.int p1), .val (.int p2), .val (.int p3), .val (.int p4), .val (.int p5), .val (.int cap), .val (.int (Int32.ofNat kn)), .val (.int fi), .val (.ref b110), .val (.long (1 : Int64)), .second, .val (.long (1 : Int64)), .second] [(.long (1 : Int64))])) _
          refine XS.lconst X255.here hx rfl (hb hby at_179) ?_
          show Steps p.tables e below (T255.setTop (mkF m 180 #[.val (.int p1), .val (.int p2), .val (.int p3), .val (.int p4), .val (.int p5), .val (.int cap), .val (.int (Int32.ofNat kn)), .val (.int fi), .val (.ref b110), .val (.long (1 : Int64)), .second, .val (.long (1 : Int64)), .second] [(.long (1 : Int64)), (.long (1 : Int64))])) _
          refine XS.lcmp X255.here hx rfl (hb hby at_180) rfl ?_
          show Steps p.tables e below (T255.setTop (mkF m 181 #[.val (.int p1), .val (.int p2), .val (.int p3), .val (.int p4), .val (.int p5), .val (.int cap), .val (.int (Int32.ofNat kn)), .val (.int fi), .val (.ref b110), .val (.long (1 : Int64)), .second, .val (.long (1 : Int64)), .second] [(.int (lcmpW (1 : Int64) (1 : Int64)))])) _
          refine XS.ifNo X255.here hx rfl (hb hby at_181) rfl ((if0 _ _).trans (teq ((by decide) : (lcmpW (1 : Int64) (1 : Int64)) = (0 : Int32))).2) ?_
          show Steps p.tables e below (T255.setTop (mkF m 184 #[.val (.int p1), .val (.int p2), .val (.int p3), .val (.int p4), .val (.int p5), .val (.int cap), .val (.int (Int32.ofNat kn)), .val (.int fi), .val (.ref b110), .val (.long (1 : Int64)), .second, .val (.long (1 : Int64)), .second] [])) _
          refine XS.lload X255.here hx rfl (hb hby at_184) rfl ?_
          show Steps p.tables e below (T255.setTop (mkF m 186 #[.val (.int p1), .val (.int p2), .val (.int p3), .val (.int p4), .val (.int p5), .val (.int cap), .val (.int (Int32.ofNat kn)), .val (.int fi), .val (.ref b110), .val (.long (1 : Int64)), .second, .val (.long (1 : Int64)), .second] [(.long (1 : Int64))])) _
          refine XS.lconst X255.here hx rfl (hb hby at_186) ?_
          show Steps p.tables e below (T255.setTop (mkF m 187 #[.val (.int p1), .val (.int p2), .val (.int p3), .val (.int p4), .val (.int p5), .val (.int cap), .val (.int (Int32.ofNat kn)), .val (.int fi), .val (.ref b110), .val (.long (1 : Int64)), .second, .val (.long (1 : Int64)), .second] [(.long (1 : Int64)), (.long (1 : Int64))])) _
          refine XS.lcmp X255.here hx rfl (hb hby at_187) rfl ?_
          show Steps p.tables e below (T255.setTop (mkF m 188 #[.val (.int p1), .val (.int p2), .val (.int p3), .val (.int p4), .val (.int p5), .val (.int cap), .val (.int (Int32.ofNat kn)), .val (.int fi), .val (.ref b110), .val (.long (1 : Int64)), .second, .val (.long (1 : Int64)), .second] [(.int (lcmpW (1 : Int64) (1 : Int64)))])) _
          refine XS.ifNo X255.here hx rfl (hb hby at_188) rfl ((if0 _ _).trans (teq ((by decide) : (lcmpW (1 : Int64) (1 : Int64)) = (0 : Int32))).2) ?_
          show Steps p.tables e below (T255.setTop (mkF m 191 #[.val (.int p1), .val (.int p2), .val (.int p3), .val (.int p4), .val (.int p5), .val (.int cap), .val (.int (Int32.ofNat kn)), .val (.int fi), .val (.ref b110), .val (.long (1 : Int64)), .second, .val (.long (1 : Int64)), .second] [])) _
          refine XS.aload X255.here hx rfl (hb hby at_191) rfl rfl ?_
          show Steps p.tables e below (T255.setTop (mkF m 193 #[.val (.int p1), .val (.int p2), .val (.int p3), .val (.int p4), .val (.int p5), .val (.int cap), .val (.int (Int32.ofNat kn)), .val (.int fi), .val (.ref b110), .val (.long (1 : Int64)), .second, .val (.long (1 : Int64)), .second] [(.ref b110)])) _
          refine st256.trans ?_
          show Steps p.tables e below (T256.setTop (mkF m 196 #[.val (.int p1), .val (.int p2), .val (.int p3), .val (.int p4), .val (.int p5), .val (.int cap), .val (.int (Int32.ofNat kn)), .val (.int fi), .val (.ref b110), .val (.long (1 : Int64)), .second, .val (.long (1 : Int64)), .second] [(.int (Int32.ofNat 5))])) _
          refine XS.iload X256.here hx rfl (hb hby at_196) rfl ?_
          show Steps p.tables e below (T256.setTop (mkF m 198 #[.val (.int p1), .val (.int p2), .val (.int p3), .val (.int p4), .val (.int p5), .val (.int cap), .val (.int (Int32.ofNat kn)), .val (.int fi), .val (.ref b110), .val (.long (1 : Int64)), .second, .val (.long (1 : Int64)), .second] [(.int (Int32.ofNat kn)), (.int (Int32.ofNat 5))])) _
          refine XS.icmpNo X256.here hx rfl (hb hby at_198) rfl (teq ((congrArg Int32.ofNat hj.symm) : (Int32.ofNat 5) = (Int32.ofNat kn))).2 ?_
          show Steps p.tables e below (T256.setTop (mkF m 201 #[.val (.int p1), .val (.int p2), .val (.int p3), .val (.int p4), .val (.int p5), .val (.int cap), .val (.int (Int32.ofNat kn)), .val (.int fi), .val (.ref b110), .val (.long (1 : Int64)), .second, .val (.long (1 : Int64)), .second] [])) _
          refine XS.iconst X256.here hx rfl (hb hby at_201) ?_
          show Steps p.tables e below (T256.setTop (mkF m 202 #[.val (.int p1), .val (.int p2), .val (.int p3), .val (.int p4), .val (.int p5), .val (.int cap), .val (.int (Int32.ofNat kn)), .val (.int fi), .val (.ref b110), .val (.long (1 : Int64)), .second, .val (.long (1 : Int64)), .second] [(.int (1 : Int32))])) _
          refine XS.goto X256.here hx rfl (pc0 := 202) (pc' := 206) rfl (hb hby at_202) (by decide) (by decide) ?_
          exact kt)
      obtain ⟨fs, hr, hrun, hended, hW, hsame⟩ := X256.leave (v := some (.int (1 : Int32))) (fun h => by rw [Bd.returns] at h; cases h)
      refine ⟨_, _, pre257 _ ?_, hrun, hended, _, _, rfl, ?_, ⟨_, rfl⟩, hW, hsame.mono (by decide) (by decide)⟩
      · show Steps p.tables e below (T256.setTop (mkF m 206 #[.val (.int p1), .val (.int p2), .val (.int p3), .val (.int p4), .val (.int p5), .val (.int cap), .val (.int (Int32.ofNat kn)), .val (.int fi), .val (.ref b110), .val (.long (1 : Int64)), .second, .val (.long (1 : Int64)), .second] [(.int (1 : Int32))])) _
        exact retN X256 hx (t := .boolean) Bd.returns (by simp) (hb hby at_206) hr
      · show Q0 Z p1 p2 p3 p4 p5 DC h0 n0 _ T256.heap _
        rw [e256]
        exact ⟨rfl, N256⟩
  · skip
    obtain ⟨cq258, kq258, q258a, q258b, q258c⟩ := isOf hZ e118 f117
    obtain ⟨_, _, ⟨T258, L258, kk258, nn258⟩, -, X258, ⟨Lc258, hQ258, l258, y258, z258⟩, st258⟩ := X118.virtualBack hx (y := (⟨"com/example/attacca/attacca/DecimatingBuffer", "accept", "(D)V"⟩ : MethodName)) (z := (⟨"com/example/attacca/attacca/DecimatingBuffer", "accept", "(D)V"⟩ : MethodName)) hown (mvT hZ (hw _ (List.mem_of_getElem? (i := 60) rfl))) (mvT hZ (hw _ (List.mem_of_getElem? (i := 61) rfl))) (notFace_of_selects (args := #[]) (mvT hZ (hw _ (List.mem_of_getElem? (i := 63) rfl)))) (mvT hZ (hw _ (List.mem_of_getElem? (i := 63) rfl))) (mvT hZ (hw _ (List.mem_of_getElem? (i := 62) rfl))) (by decide) (backOf (W := 0) (rmacc l Z a0 hw [] b110 (FP.i2d p3) l1_113 v1_113 kv_113 cap (List.replicate 7 (Value.double 0)) 0 T113.heap n0 z116 f117 x113_3 x113_4 x113_5 x113_6 x113_7 x113_8 x113_9 g_b110 g_v1_113 ne115 ne114 x113_2 (hcap) (by decide) (by simp only [List.length_set, List.length_replicate])) hZ (hw _ (List.mem_of_getElem? (i := 64) rfl)) (hw _ (List.mem_of_getElem? (i := 2) rfl)) (by decide) (by decide)) q258a q258c (g := (mkF m 66 #[.val (.int p1), .val (.int p2), .val (.int p3), .val (.int p4), .val (.int p5), .val (.int cap), .val (.int (Int32.ofNat kn)), .val (.int fi), .val (.ref b110), .val (.long (1 : Int64)), .second, .unset, .unset] [(.double (FP.i2d p3)), (.ref b110)])) rfl (by rw [hml]; rfl) (Steps.refl _) (argsL := [(.double (FP.i2d p3))]) (rest := []) (lenOf pd__28D_29V rfl) rfl (by show 2 * 0 + _ ≤ _; exact Nat.le_of_eq rfl) (hb hby at_66) (fun _ _ => ⟨rfl, e118, (by decide : 3 + 0 ≤ _), (by decide : 4103 + 0 ≤ _)⟩)
    dsimp only [Pt.U, Pt.locs, Pt.cells, Pt.slots] at X258 l258 y258 z258 st258 hQ258
    subst l258 y258 z258
    obtain ⟨rfl, N258q, K258, x258_0, x258_1, x258_2, x258_3, x258_4⟩ := hQ258
    have N258 := Fr.app N118 N258q
    have z259 : n0 ≤ T258.heap.size := Nat.le_trans z116 K258.1
    have f260 : Exa Z T258.heap b110 "com/example/attacca/attacca/DecimatingBuffer" := (f117.keep K258)
    have f261 : Exa Z T258.heap l1_113 "java/util/ArrayList" := (x113_7.keep K258)
    have f262 : Fld Z T258.heap l1_113 "java/util/ArrayList" "size" "I" (.int (0 : Int32)) := (x113_8.keep K258 (own_nmc (Ne.symm ne114) (own_nmc x113_2 own_nm0)))
    obtain ⟨cq263, kq263, q263a, q263b, q263c⟩ := isOf hZ rfl f260
    obtain ⟨_, _, ⟨T263, L263, kk263, nn263⟩, -, X263, ⟨Lc263, hQ263, l263, y263, z263⟩, st263⟩ := X258.virtualBack hx (y := (⟨"com/example/attacca/attacca/DecimatingBuffer", "accept", "(D)V"⟩ : MethodName)) (z := (⟨"com/example/attacca/attacca/DecimatingBuffer", "accept", "(D)V"⟩ : MethodName)) hown (mvT hZ (hw _ (List.mem_of_getElem? (i := 60) rfl))) (mvT hZ (hw _ (List.mem_of_getElem? (i := 61) rfl))) (notFace_of_selects (args := #[]) (mvT hZ (hw _ (List.mem_of_getElem? (i := 63) rfl)))) (mvT hZ (hw _ (List.mem_of_getElem? (i := 63) rfl))) (mvT hZ (hw _ (List.mem_of_getElem? (i := 62) rfl))) (by decide) (backOf (W := 0) (rmacc l Z a0 hw [] b110 (FP.i2d p4) l1_113 v1_113 kv_113 cap ((List.replicate 7 (Value.double 0)).set 0 (.double (FP.i2d p3))) 1 T258.heap n0 z259 f260 x258_0 x258_1 x258_2 x258_3 f261 f262 x258_4 g_b110 g_v1_113 ne115 ne114 x113_2 (hcap) (by decide) (by simp only [List.length_set, List.length_replicate])) hZ (hw _ (List.mem_of_getElem? (i := 64) rfl)) (hw _ (List.mem_of_getElem? (i := 2) rfl)) (by decide) (by decide)) q263a q263c (g := (mkF m 79 #[.val (.int p1), .val (.int p2), .val (.int p3), .val (.int p4), .val (.int p5), .val (.int cap), .val (.int (Int32.ofNat kn)), .val (.int fi), .val (.ref b110), .val (.long (1 : Int64)), .second, .unset, .unset] [(.double (FP.i2d p4)), (.ref b110)])) rfl (by rw [hml]; rfl) (Steps.refl _) (argsL := [(.double (FP.i2d p4))]) (rest := []) (lenOf pd__28D_29V rfl) rfl (by show 2 * 0 + _ ≤ _; exact Nat.le_of_eq rfl) (hb hby at_79) (fun _ _ => ⟨rfl, rfl, (by decide : 3 + 0 ≤ _), (by decide : 4103 + 0 ≤ _)⟩)
    dsimp only [Pt.U, Pt.locs, Pt.cells, Pt.slots] at X263 l263 y263 z263 st263 hQ263
    subst l263 y263 z263
    obtain ⟨rfl, N263q, K263, x263_0, x263_1, x263_2, x263_3, x263_4⟩ := hQ263
    have N263 := Fr.app N258 N263q
    have z264 : n0 ≤ T263.heap.size := Nat.le_trans z259 K263.1
    have f265 : Exa Z T263.heap b110 "com/example/attacca/attacca/DecimatingBuffer" := (f260.keep K263)
    have f266 : Exa Z T263.heap l1_113 "java/util/ArrayList" := (f261.keep K263)
    have f267 : Fld Z T263.heap l1_113 "java/util/ArrayList" "size" "I" (.int (0 : Int32)) := (f262.keep K263 (own_nmc (Ne.symm ne114) (own_nmc x113_2 own_nm0)))
    obtain ⟨cq268, kq268, q268a, q268b, q268c⟩ := isOf hZ rfl f265
    obtain ⟨_, _, ⟨T268, L268, kk268, nn268⟩, -, X268, ⟨Lc268, hQ268, l268, y268, z268⟩, st268⟩ := X263.virtualBack hx (y := (⟨"com/example/attacca/attacca/DecimatingBuffer", "accept", "(D)V"⟩ : MethodName)) (z := (⟨"com/example/attacca/attacca/DecimatingBuffer", "accept", "(D)V"⟩ : MethodName)) hown (mvT hZ (hw _ (List.mem_of_getElem? (i := 60) rfl))) (mvT hZ (hw _ (List.mem_of_getElem? (i := 61) rfl))) (notFace_of_selects (args := #[]) (mvT hZ (hw _ (List.mem_of_getElem? (i := 63) rfl)))) (mvT hZ (hw _ (List.mem_of_getElem? (i := 63) rfl))) (mvT hZ (hw _ (List.mem_of_getElem? (i := 62) rfl))) (by decide) (backOf (W := 0) (rmacc l Z a0 hw [] b110 (FP.i2d p5) l1_113 v1_113 kv_113 cap (((List.replicate 7 (Value.double 0)).set 0 (.double (FP.i2d p3))).set 1 (.double (FP.i2d p4))) 2 T263.heap n0 z264 f265 x263_0 x263_1 x263_2 x263_3 f266 f267 x263_4 g_b110 g_v1_113 ne115 ne114 x113_2 (hcap) (by decide) (by simp only [List.length_set, List.length_replicate])) hZ (hw _ (List.mem_of_getElem? (i := 64) rfl)) (hw _ (List.mem_of_getElem? (i := 2) rfl)) (by decide) (by decide)) q268a q268c (g := (mkF m 93 #[.val (.int p1), .val (.int p2), .val (.int p3), .val (.int p4), .val (.int p5), .val (.int cap), .val (.int (Int32.ofNat kn)), .val (.int fi), .val (.ref b110), .val (.long (1 : Int64)), .second, .unset, .unset] [(.double (FP.i2d p5)), (.ref b110)])) rfl (by rw [hml]; rfl) (Steps.refl _) (argsL := [(.double (FP.i2d p5))]) (rest := []) (lenOf pd__28D_29V rfl) rfl (by show 2 * 0 + _ ≤ _; exact Nat.le_of_eq rfl) (hb hby at_93) (fun _ _ => ⟨rfl, rfl, (by decide : 3 + 0 ≤ _), (by decide : 4103 + 0 ≤ _)⟩)
    dsimp only [Pt.U, Pt.locs, Pt.cells, Pt.slots] at X268 l268 y268 z268 st268 hQ268
    subst l268 y268 z268
    obtain ⟨rfl, N268q, K268, x268_0, x268_1, x268_2, x268_3, x268_4⟩ := hQ268
    have N268 := Fr.app N263 N268q
    have z269 : n0 ≤ T268.heap.size := Nat.le_trans z264 K268.1
    have f270 : Exa Z T268.heap b110 "com/example/attacca/attacca/DecimatingBuffer" := (f265.keep K268)
    have f271 : Exa Z T268.heap l1_113 "java/util/ArrayList" := (f266.keep K268)
    have f272 : Fld Z T268.heap l1_113 "java/util/ArrayList" "size" "I" (.int (0 : Int32)) := (f267.keep K268 (own_nmc (Ne.symm ne114) (own_nmc x113_2 own_nm0)))
    obtain ⟨cq273, kq273, q273a, q273b, q273c⟩ := isOf hZ rfl f270
    obtain ⟨_, _, ⟨T273, L273, kk273, nn273⟩, -, X273, ⟨Lc273, hQ273, l273, y273, z273⟩, st273⟩ := X268.virtualBack hx (y := (⟨"com/example/attacca/attacca/DecimatingBuffer", "accept", "(D)V"⟩ : MethodName)) (z := (⟨"com/example/attacca/attacca/DecimatingBuffer", "accept", "(D)V"⟩ : MethodName)) hown (mvT hZ (hw _ (List.mem_of_getElem? (i := 60) rfl))) (mvT hZ (hw _ (List.mem_of_getElem? (i := 61) rfl))) (notFace_of_selects (args := #[]) (mvT hZ (hw _ (List.mem_of_getElem? (i := 63) rfl)))) (mvT hZ (hw _ (List.mem_of_getElem? (i := 63) rfl))) (mvT hZ (hw _ (List.mem_of_getElem? (i := 62) rfl))) (by decide) (backOf (W := 0) (rmacc l Z a0 hw [] b110 (FP.i2d (p3 ^^^ p4)) l1_113 v1_113 kv_113 cap ((((List.replicate 7 (Value.double 0)).set 0 (.double (FP.i2d p3))).set 1 (.double (FP.i2d p4))).set 2 (.double (FP.i2d p5))) 3 T268.heap n0 z269 f270 x268_0 x268_1 x268_2 x268_3 f271 f272 x268_4 g_b110 g_v1_113 ne115 ne114 x113_2 (hcap) (by decide) (by simp only [List.length_set, List.length_replicate])) hZ (hw _ (List.mem_of_getElem? (i := 64) rfl)) (hw _ (List.mem_of_getElem? (i := 2) rfl)) (by decide) (by decide)) q273a q273c (g := (mkF m 108 #[.val (.int p1), .val (.int p2), .val (.int p3), .val (.int p4), .val (.int p5), .val (.int cap), .val (.int (Int32.ofNat kn)), .val (.int fi), .val (.ref b110), .val (.long (1 : Int64)), .second, .unset, .unset] [(.double (FP.i2d (p3 ^^^ p4))), (.ref b110)])) rfl (by rw [hml]; rfl) (Steps.refl _) (argsL := [(.double (FP.i2d (p3 ^^^ p4)))]) (rest := []) (lenOf pd__28D_29V rfl) rfl (by show 2 * 0 + _ ≤ _; exact Nat.le_of_eq rfl) (hb hby at_108) (fun _ _ => ⟨rfl, rfl, (by decide : 3 + 0 ≤ _), (by decide : 4103 + 0 ≤ _)⟩)
    dsimp only [Pt.U, Pt.locs, Pt.cells, Pt.slots] at X273 l273 y273 z273 st273 hQ273
    subst l273 y273 z273
    obtain ⟨rfl, N273q, K273, x273_0, x273_1, x273_2, x273_3, x273_4⟩ := hQ273
    have N273 := Fr.app N268 N273q
    have z274 : n0 ≤ T273.heap.size := Nat.le_trans z269 K273.1
    have f275 : Exa Z T273.heap b110 "com/example/attacca/attacca/DecimatingBuffer" := (f270.keep K273)
    have f276 : Exa Z T273.heap l1_113 "java/util/ArrayList" := (f271.keep K273)
    have f277 : Fld Z T273.heap l1_113 "java/util/ArrayList" "size" "I" (.int (0 : Int32)) := (f272.keep K273 (own_nmc (Ne.symm ne114) (own_nmc x113_2 own_nm0)))
    obtain ⟨cq278, kq278, q278a, q278b, q278c⟩ := isOf hZ rfl f275
    obtain ⟨_, _, ⟨T278, L278, kk278, nn278⟩, -, X278, ⟨Lc278, hQ278, l278, y278, z278⟩, st278⟩ := X273.virtualBack hx (y := (⟨"com/example/attacca/attacca/DecimatingBuffer", "accept", "(D)V"⟩ : MethodName)) (z := (⟨"com/example/attacca/attacca/DecimatingBuffer", "accept", "(D)V"⟩ : MethodName)) hown (mvT hZ (hw _ (List.mem_of_getElem? (i := 60) rfl))) (mvT hZ (hw _ (List.mem_of_getElem? (i := 61) rfl))) (notFace_of_selects (args := #[]) (mvT hZ (hw _ (List.mem_of_getElem? (i := 63) rfl)))) (mvT hZ (hw _ (List.mem_of_getElem? (i := 63) rfl))) (mvT hZ (hw _ (List.mem_of_getElem? (i := 62) rfl))) (by decide) (backOf (W := 0) (rmacc l Z a0 hw [] b110 (FP.i2d (p4 - p5)) l1_113 v1_113 kv_113 cap (((((List.replicate 7 (Value.double 0)).set 0 (.double (FP.i2d p3))).set 1 (.double (FP.i2d p4))).set 2 (.double (FP.i2d p5))).set 3 (.double (FP.i2d (p3 ^^^ p4)))) 4 T273.heap n0 z274 f275 x273_0 x273_1 x273_2 x273_3 f276 f277 x273_4 g_b110 g_v1_113 ne115 ne114 x113_2 (hcap) (by decide) (by simp only [List.length_set, List.length_replicate])) hZ (hw _ (List.mem_of_getElem? (i := 64) rfl)) (hw _ (List.mem_of_getElem? (i := 2) rfl)) (by decide) (by decide)) q278a q278c (g := (mkF m 124 #[.val (.int p1), .val (.int p2), .val (.int p3), .val (.int p4), .val (.int p5), .val (.int cap), .val (.int (Int32.ofNat kn)), .val (.int fi), .val (.ref b110), .val (.long (1 : Int64)), .second, .unset, .unset] [(.double (FP.i2d (p4 - p5))), (.ref b110)])) rfl (by rw [hml]; rfl) (Steps.refl _) (argsL := [(.double (FP.i2d (p4 - p5)))]) (rest := []) (lenOf pd__28D_29V rfl) rfl (by show 2 * 0 + _ ≤ _; exact Nat.le_of_eq rfl) (hb hby at_124) (fun _ _ => ⟨rfl, rfl, (by decide : 3 + 0 ≤ _), (by decide : 4103 + 0 ≤ _)⟩)
    dsimp only [Pt.U, Pt.locs, Pt.cells, Pt.slots] at X278 l278 y278 z278 st278 hQ278
    subst l278 y278 z278
    obtain ⟨rfl, N278q, K278, x278_0, x278_1, x278_2, x278_3, x278_4⟩ := hQ278
    have N278 := Fr.app N273 N278q
    have z279 : n0 ≤ T278.heap.size := Nat.le_trans z274 K278.1
    have f280 : Exa Z T278.heap b110 "com/example/attacca/attacca/DecimatingBuffer" := (f275.keep K278)
    have f281 : Exa Z T278.heap l1_113 "java/util/ArrayList" := (f276.keep K278)
    have f282 : Fld Z T278.heap l1_113 "java/util/ArrayList" "size" "I" (.int (0 : Int32)) := (f277.keep K278 (own_nmc (Ne.symm ne114) (own_nmc x113_2 own_nm0)))
    obtain ⟨cq283, kq283, q283a, q283b, q283c⟩ := isOf hZ rfl f280
    obtain ⟨_, _, ⟨T283, L283, kk283, nn283⟩, -, X283, ⟨Lc283, hQ283, l283, y283, z283⟩, st283⟩ := X278.virtualBack hx (y := (⟨"com/example/attacca/attacca/DecimatingBuffer", "accept", "(D)V"⟩ : MethodName)) (z := (⟨"com/example/attacca/attacca/DecimatingBuffer", "accept", "(D)V"⟩ : MethodName)) hown (mvT hZ (hw _ (List.mem_of_getElem? (i := 60) rfl))) (mvT hZ (hw _ (List.mem_of_getElem? (i := 61) rfl))) (notFace_of_selects (args := #[]) (mvT hZ (hw _ (List.mem_of_getElem? (i := 63) rfl)))) (mvT hZ (hw _ (List.mem_of_getElem? (i := 63) rfl))) (mvT hZ (hw _ (List.mem_of_getElem? (i := 62) rfl))) (by decide) (backOf (W := 0) (rmacc l Z a0 hw [] b110 (FP.i2d (p3 &&& p5)) l1_113 v1_113 kv_113 cap ((((((List.replicate 7 (Value.double 0)).set 0 (.double (FP.i2d p3))).set 1 (.double (FP.i2d p4))).set 2 (.double (FP.i2d p5))).set 3 (.double (FP.i2d (p3 ^^^ p4)))).set 4 (.double (FP.i2d (p4 - p5)))) 5 T278.heap n0 z279 f280 x278_0 x278_1 x278_2 x278_3 f281 f282 x278_4 g_b110 g_v1_113 ne115 ne114 x113_2 (hcap) (by decide) (by simp only [List.length_set, List.length_replicate])) hZ (hw _ (List.mem_of_getElem? (i := 64) rfl)) (hw _ (List.mem_of_getElem? (i := 2) rfl)) (by decide) (by decide)) q283a q283c (g := (mkF m 140 #[.val (.int p1), .val (.int p2), .val (.int p3), .val (.int p4), .val (.int p5), .val (.int cap), .val (.int (Int32.ofNat kn)), .val (.int fi), .val (.ref b110), .val (.long (1 : Int64)), .second, .unset, .unset] [(.double (FP.i2d (p3 &&& p5))), (.ref b110)])) rfl (by rw [hml]; rfl) (Steps.refl _) (argsL := [(.double (FP.i2d (p3 &&& p5)))]) (rest := []) (lenOf pd__28D_29V rfl) rfl (by show 2 * 0 + _ ≤ _; exact Nat.le_of_eq rfl) (hb hby at_140) (fun _ _ => ⟨rfl, rfl, (by decide : 3 + 0 ≤ _), (by decide : 4103 + 0 ≤ _)⟩)
    dsimp only [Pt.U, Pt.locs, Pt.cells, Pt.slots] at X283 l283 y283 z283 st283 hQ283
    subst l283 y283 z283
    obtain ⟨rfl, N283q, K283, x283_0, x283_1, x283_2, x283_3, x283_4⟩ := hQ283
    have N283 := Fr.app N278 N283q
    have z284 : n0 ≤ T283.heap.size := Nat.le_trans z279 K283.1
    have pre285 : ∀ t_, Steps p.tables e below (T283.setTop (mkF m 162 #[.val (.int p1), .val (.int p2), .val (.int p3), .val (.int p4), .val (.int p5), .val (.int cap), .val (.int (Int32.ofNat kn)), .val (.int fi), .val (.ref b110), .val (.long (1 : Int64)), .second, .unset, .unset] [(.int fi)])) t_ → Steps p.tables e below (s₁.setTop (entryFrame m #[(.int p1), (.int p2), (.int p3), (.int p4), (.int p5)] maxLocals)) t_ := fun t_ kt => pre119 t_ (by
        show Steps p.tables e below (T118.setTop (mkF m 59 #[.val (.int p1), .val (.int p2), .val (.int p3), .val (.int p4), .val (.int p5), .val (.int cap), .val (.int (Int32.ofNat kn)), .val (.int fi), .val (.ref b110), .val (.long (1 : Int64)), .second, .unset, .unset] [(.int (Int32.ofNat kn))])) _
        refine XS.ifNo X118.here hx rfl (hb hby at_59) rfl ((if0 _ _).trans (tlt (lt32 (i := 0) (n := kn) (by omega) (by omega) : (0 : Int32) < (Int32.ofNat kn))).2.2.2) ?_
        show Steps p.tables e below (T118.setTop (mkF m 62 #[.val (.int p1), .val (.int p2), .val (.int p3), .val (.int p4), .val (.int p5), .val (.int cap), .val (.int (Int32.ofNat kn)), .val (.int fi), .val (.ref b110), .val (.long (1 : Int64)), .second, .unset, .unset] [])) _
        refine XS.aload X118.here hx rfl (hb hby at_62) rfl rfl ?_
        show Steps p.tables e below (T118.setTop (mkF m 64 #[.val (.int p1), .val (.int p2), .val (.int p3), .val (.int p4), .val (.int p5), .val (.int cap), .val (.int (Int32.ofNat kn)), .val (.int fi), .val (.ref b110), .val (.long (1 : Int64)), .second, .unset, .unset] [(.ref b110)])) _
        refine XS.iloadN X118.here hx rfl (hb hby at_64) rfl ?_
        show Steps p.tables e below (T118.setTop (mkF m 65 #[.val (.int p1), .val (.int p2), .val (.int p3), .val (.int p4), .val (.int p5), .val (.int cap), .val (.int (Int32.ofNat kn)), .val (.int fi), .val (.ref b110), .val (.long (1 : Int64)), .second, .unset, .unset] [(.int p3), (.ref b110)])) _
        refine XS.i2dS X118.here hx rfl (hb hby at_65) rfl (v := (FP.i2d p3)) rfl ?_
        show Steps p.tables e below (T118.setTop (mkF m 66 #[.val (.int p1), .val (.int p2), .val (.int p3), .val (.int p4), .val (.int p5), .val (.int cap), .val (.int (Int32.ofNat kn)), .val (.int fi), .val (.ref b110), .val (.long (1 : Int64)), .second, .unset, .unset] [(.double (FP.i2d p3)), (.ref b110)])) _
        refine st258.trans ?_
        show Steps p.tables e below (T258.setTop (mkF m 69 #[.val (.int p1), .val (.int p2), .val (.int p3), .val (.int p4), .val (.int p5), .val (.int cap), .val (.int (Int32.ofNat kn)), .val (.int fi), .val (.ref b110), .val (.long (1 : Int64)), .second, .unset, .unset] [])) _
        refine XS.iload X258.here hx rfl (hb hby at_69) rfl ?_
        show Steps p.tables e below (T258.setTop (mkF m 71 #[.val (.int p1), .val (.int p2), .val (.int p3), .val (.int p4), .val (.int p5), .val (.int cap), .val (.int (Int32.ofNat kn)), .val (.int fi), .val (.ref b110), .val (.long (1 : Int64)), .second, .unset, .unset] [(.int (Int32.ofNat kn))])) _
        refine XS.iconst X258.here hx rfl (hb hby at_71) ?_
        show Steps p.tables e below (T258.setTop (mkF m 72 #[.val (.int p1), .val (.int p2), .val (.int p3), .val (.int p4), .val (.int p5), .val (.int cap), .val (.int (Int32.ofNat kn)), .val (.int fi), .val (.ref b110), .val (.long (1 : Int64)), .second, .unset, .unset] [(.int (1 : Int32)), (.int (Int32.ofNat kn))])) _
        refine XS.icmpNo X258.here hx rfl (hb hby at_72) rfl (tlt (lt32 (i := 1) (n := kn) (by omega) (by omega) : (1 : Int32) < (Int32.ofNat kn))).2.2.2 ?_
        show Steps p.tables e below (T258.setTop (mkF m 75 #[.val (.int p1), .val (.int p2), .val (.int p3), .val (.int p4), .val (.int p5), .val (.int cap), .val (.int (Int32.ofNat kn)), .val (.int fi), .val (.ref b110), .val (.long (1 : Int64)), .second, .unset, .unset] [])) _
        refine XS.aload X258.here hx rfl (hb hby at_75) rfl rfl ?_
        show Steps p.tables e below (T258.setTop (mkF m 77 #[.val (.int p1), .val (.int p2), .val (.int p3), .val (.int p4), .val (.int p5), .val (.int cap), .val (.int (Int32.ofNat kn)), .val (.int fi), .val (.ref b110), .val (.long (1 : Int64)), .second, .unset, .unset] [(.ref b110)])) _
        refine XS.iloadN X258.here hx rfl (hb hby at_77) rfl ?_
        show Steps p.tables e below (T258.setTop (mkF m 78 #[.val (.int p1), .val (.int p2), .val (.int p3), .val (.int p4), .val (.int p5), .val (.int cap), .val (.int (Int32.ofNat kn)), .val (.int fi), .val (.ref b110), .val (.long (1 : Int64)), .second, .unset, .unset] [(.int p4), (.ref b110)])) _
        refine XS.i2dS X258.here hx rfl (hb hby at_78) rfl (v := (FP.i2d p4)) rfl ?_
        show Steps p.tables e below (T258.setTop (mkF m 79 #[.val (.int p1), .val (.int p2), .val (.int p3), .val (.int p4), .val (.int p5), .val (.int cap), .val (.int (Int32.ofNat kn)), .val (.int fi), .val (.ref b110), .val (.long (1 : Int64)), .second, .unset, .unset] [(.double (FP.i2d p4)), (.ref b110)])) _
        refine st263.trans ?_
        show Steps p.tables e below (T263.setTop (mkF m 82 #[.val (.int p1), .val (.int p2), .val (.int p3), .val (.int p4), .val (.int p5), .val (.int cap), .val (.int (Int32.ofNat kn)), .val (.int fi), .val (.ref b110), .val (.long (1 : Int64)), .second, .unset, .unset] [])) _
        refine XS.iload X263.here hx rfl (hb hby at_82) rfl ?_
        show Steps p.tables e below (T263.setTop (mkF m 84 #[.val (.int p1), .val (.int p2), .val (.int p3), .val (.int p4), .val (.int p5), .val (.int cap), .val (.int (Int32.ofNat kn)), .val (.int fi), .val (.ref b110), .val (.long (1 : Int64)), .second, .unset, .unset] [(.int (Int32.ofNat kn))])) _
        refine XS.iconst X263.here hx rfl (hb hby at_84) ?_
        show Steps p.tables e below (T263.setTop (mkF m 85 #[.val (.int p1), .val (.int p2), .val (.int p3), .val (.int p4), .val (.int p5), .val (.int cap), .val (.int (Int32.ofNat kn)), .val (.int fi), .val (.ref b110), .val (.long (1 : Int64)), .second, .unset, .unset] [(.int (2 : Int32)), (.int (Int32.ofNat kn))])) _
        refine XS.icmpNo X263.here hx rfl (hb hby at_85) rfl (tlt (lt32 (i := 2) (n := kn) (by omega) (by omega) : (2 : Int32) < (Int32.ofNat kn))).2.2.2 ?_
        show Steps p.tables e below (T263.setTop (mkF m 88 #[.val (.int p1), .val (.int p2), .val (.int p3), .val (.int p4), .val (.int p5), .val (.int cap), .val (.int (Int32.ofNat kn)), .val (.int fi), .val (.ref b110), .val (.long (1 : Int64)), .second, .unset, .unset] [])) _
        refine XS.aload X263.here hx rfl (hb hby at_88) rfl rfl ?_
        show Steps p.tables e below (T263.setTop (mkF m 90 #[.val (.int p1), .val (.int p2), .val (.int p3), .val (.int p4), .val (.int p5), .val (.int cap), .val (.int (Int32.ofNat kn)), .val (.int fi), .val (.ref b110), .val (.long (1 : Int64)), .second, .unset, .unset] [(.ref b110)])) _
        refine XS.iload X263.here hx rfl (hb hby at_90) rfl ?_
        show Steps p.tables e below (T263.setTop (mkF m 92 #[.val (.int p1), .val (.int p2), .val (.int p3), .val (.int p4), .val (.int p5), .val (.int cap), .val (.int (Int32.ofNat kn)), .val (.int fi), .val (.ref b110), .val (.long (1 : Int64)), .second, .unset, .unset] [(.int p5), (.ref b110)])) _
        refine XS.i2dS X263.here hx rfl (hb hby at_92) rfl (v := (FP.i2d p5)) rfl ?_
        show Steps p.tables e below (T263.setTop (mkF m 93 #[.val (.int p1), .val (.int p2), .val (.int p3), .val (.int p4), .val (.int p5), .val (.int cap), .val (.int (Int32.ofNat kn)), .val (.int fi), .val (.ref b110), .val (.long (1 : Int64)), .second, .unset, .unset] [(.double (FP.i2d p5)), (.ref b110)])) _
        refine st268.trans ?_
        show Steps p.tables e below (T268.setTop (mkF m 96 #[.val (.int p1), .val (.int p2), .val (.int p3), .val (.int p4), .val (.int p5), .val (.int cap), .val (.int (Int32.ofNat kn)), .val (.int fi), .val (.ref b110), .val (.long (1 : Int64)), .second, .unset, .unset] [])) _
        refine XS.iload X268.here hx rfl (hb hby at_96) rfl ?_
        show Steps p.tables e below (T268.setTop (mkF m 98 #[.val (.int p1), .val (.int p2), .val (.int p3), .val (.int p4), .val (.int p5), .val (.int cap), .val (.int (Int32.ofNat kn)), .val (.int fi), .val (.ref b110), .val (.long (1 : Int64)), .second, .unset, .unset] [(.int (Int32.ofNat kn))])) _
        refine XS.iconst X268.here hx rfl (hb hby at_98) ?_
        show Steps p.tables e below (T268.setTop (mkF m 99 #[.val (.int p1), .val (.int p2), .val (.int p3), .val (.int p4), .val (.int p5), .val (.int cap), .val (.int (Int32.ofNat kn)), .val (.int fi), .val (.ref b110), .val (.long (1 : Int64)), .second, .unset, .unset] [(.int (3 : Int32)), (.int (Int32.ofNat kn))])) _
        refine XS.icmpNo X268.here hx rfl (hb hby at_99) rfl (tlt (lt32 (i := 3) (n := kn) (by omega) (by omega) : (3 : Int32) < (Int32.ofNat kn))).2.2.2 ?_
        show Steps p.tables e below (T268.setTop (mkF m 102 #[.val (.int p1), .val (.int p2), .val (.int p3), .val (.int p4), .val (.int p5), .val (.int cap), .val (.int (Int32.ofNat kn)), .val (.int fi), .val (.ref b110), .val (.long (1 : Int64)), .second, .unset, .unset] [])) _
        refine XS.aload X268.here hx rfl (hb hby at_102) rfl rfl ?_
        show Steps p.tables e below (T268.setTop (mkF m 104 #[.val (.int p1), .val (.int p2), .val (.int p3), .val (.int p4), .val (.int p5), .val (.int cap), .val (.int (Int32.ofNat kn)), .val (.int fi), .val (.ref b110), .val (.long (1 : Int64)), .second, .unset, .unset] [(.ref b110)])) _
        refine XS.iloadN X268.here hx rfl (hb hby at_104) rfl ?_
        show Steps p.tables e below (T268.setTop (mkF m 105 #[.val (.int p1), .val (.int p2), .val (.int p3), .val (.int p4), .val (.int p5), .val (.int cap), .val (.int (Int32.ofNat kn)), .val (.int fi), .val (.ref b110), .val (.long (1 : Int64)), .second, .unset, .unset] [(.int p3), (.ref b110)])) _
        refine XS.iloadN X268.here hx rfl (hb hby at_105) rfl ?_
        show Steps p.tables e below (T268.setTop (mkF m 106 #[.val (.int p1), .val (.int p2), .val (.int p3), .val (.int p4), .val (.int p5), .val (.int cap), .val (.int (Int32.ofNat kn)), .val (.int fi), .val (.ref b110), .val (.long (1 : Int64)), .second, .unset, .unset] [(.int p4), (.int p3), (.ref b110)])) _
        refine XS.ixor X268.here hx rfl (hb hby at_106) rfl ?_
        show Steps p.tables e below (T268.setTop (mkF m 107 #[.val (.int p1), .val (.int p2), .val (.int p3), .val (.int p4), .val (.int p5), .val (.int cap), .val (.int (Int32.ofNat kn)), .val (.int fi), .val (.ref b110), .val (.long (1 : Int64)), .second, .unset, .unset] [(.int (p3 ^^^ p4)), (.ref b110)])) _
        refine XS.i2dS X268.here hx rfl (hb hby at_107) rfl (v := (FP.i2d (p3 ^^^ p4))) rfl ?_
        show Steps p.tables e below (T268.setTop (mkF m 108 #[.val (.int p1), .val (.int p2), .val (.int p3), .val (.int p4), .val (.int p5), .val (.int cap), .val (.int (Int32.ofNat kn)), .val (.int fi), .val (.ref b110), .val (.long (1 : Int64)), .second, .unset, .unset] [(.double (FP.i2d (p3 ^^^ p4))), (.ref b110)])) _
        refine st273.trans ?_
        show Steps p.tables e below (T273.setTop (mkF m 111 #[.val (.int p1), .val (.int p2), .val (.int p3), .val (.int p4), .val (.int p5), .val (.int cap), .val (.int (Int32.ofNat kn)), .val (.int fi), .val (.ref b110), .val (.long (1 : Int64)), .second, .unset, .unset] [])) _
        refine XS.iload X273.here hx rfl (hb hby at_111) rfl ?_
        show Steps p.tables e below (T273.setTop (mkF m 113 #[.val (.int p1), .val (.int p2), .val (.int p3), .val (.int p4), .val (.int p5), .val (.int cap), .val (.int (Int32.ofNat kn)), .val (.int fi), .val (.ref b110), .val (.long (1 : Int64)), .second, .unset, .unset] [(.int (Int32.ofNat kn))])) _
        refine XS.iconst X273.here hx rfl (hb hby at_113) ?_
        show Steps p.tables e below (T273.setTop (mkF m 114 #[.val (.int p1), .val (.int p2), .val (.int p3), .val (.int p4), .val (.int p5), .val (.int cap), .val (.int (Int32.ofNat kn)), .val (.int fi), .val (.ref b110), .val (.long (1 : Int64)), .second, .unset, .unset] [(.int (4 : Int32)), (.int (Int32.ofNat kn))])) _
        refine XS.icmpNo X273.here hx rfl (hb hby at_114) rfl (tlt (lt32 (i := 4) (n := kn) (by omega) (by omega) : (4 : Int32) < (Int32.ofNat kn))).2.2.2 ?_
        show Steps p.tables e below (T273.setTop (mkF m 117 #[.val (.int p1), .val (.int p2), .val (.int p3), .val (.int p4), .val (.int p5), .val (.int cap), .val (.int (Int32.ofNat kn)), .val (.int fi), .val (.ref b110), .val (.long (1 : Int64)), .second, .unset, .unset] [])) _
        refine XS.aload X273.here hx rfl (hb hby at_117) rfl rfl ?_
        show Steps p.tables e below (T273.setTop (mkF m 119 #[.val (.int p1), .val (.int p2), .val (.int p3), .val (.int p4), .val (.int p5), .val (.int cap), .val (.int (Int32.ofNat kn)), .val (.int fi), .val (.ref b110), .val (.long (1 : Int64)), .second, .unset, .unset] [(.ref b110)])) _
        refine XS.iloadN X273.here hx rfl (hb hby at_119) rfl ?_
        show Steps p.tables e below (T273.setTop (mkF m 120 #[.val (.int p1), .val (.int p2), .val (.int p3), .val (.int p4), .val (.int p5), .val (.int cap), .val (.int (Int32.ofNat kn)), .val (.int fi), .val (.ref b110), .val (.long (1 : Int64)), .second, .unset, .unset] [(.int p4), (.ref b110)])) _
        refine XS.iload X273.here hx rfl (hb hby at_120) rfl ?_
        show Steps p.tables e below (T273.setTop (mkF m 122 #[.val (.int p1), .val (.int p2), .val (.int p3), .val (.int p4), .val (.int p5), .val (.int cap), .val (.int (Int32.ofNat kn)), .val (.int fi), .val (.ref b110), .val (.long (1 : Int64)), .second, .unset, .unset] [(.int p5), (.int p4), (.ref b110)])) _
        refine XS.isub X273.here hx rfl (hb hby at_122) rfl ?_
        show Steps p.tables e below (T273.setTop (mkF m 123 #[.val (.int p1), .val (.int p2), .val (.int p3), .val (.int p4), .val (.int p5), .val (.int cap), .val (.int (Int32.ofNat kn)), .val (.int fi), .val (.ref b110), .val (.long (1 : Int64)), .second, .unset, .unset] [(.int (p4 - p5)), (.ref b110)])) _
        refine XS.i2dS X273.here hx rfl (hb hby at_123) rfl (v := (FP.i2d (p4 - p5))) rfl ?_
        show Steps p.tables e below (T273.setTop (mkF m 124 #[.val (.int p1), .val (.int p2), .val (.int p3), .val (.int p4), .val (.int p5), .val (.int cap), .val (.int (Int32.ofNat kn)), .val (.int fi), .val (.ref b110), .val (.long (1 : Int64)), .second, .unset, .unset] [(.double (FP.i2d (p4 - p5))), (.ref b110)])) _
        refine st278.trans ?_
        show Steps p.tables e below (T278.setTop (mkF m 127 #[.val (.int p1), .val (.int p2), .val (.int p3), .val (.int p4), .val (.int p5), .val (.int cap), .val (.int (Int32.ofNat kn)), .val (.int fi), .val (.ref b110), .val (.long (1 : Int64)), .second, .unset, .unset] [])) _
        refine XS.iload X278.here hx rfl (hb hby at_127) rfl ?_
        show Steps p.tables e below (T278.setTop (mkF m 129 #[.val (.int p1), .val (.int p2), .val (.int p3), .val (.int p4), .val (.int p5), .val (.int cap), .val (.int (Int32.ofNat kn)), .val (.int fi), .val (.ref b110), .val (.long (1 : Int64)), .second, .unset, .unset] [(.int (Int32.ofNat kn))])) _
        refine XS.iconst X278.here hx rfl (hb hby at_129) ?_
        show Steps p.tables e below (T278.setTop (mkF m 130 #[.val (.int p1), .val (.int p2), .val (.int p3), .val (.int p4), .val (.int p5), .val (.int cap), .val (.int (Int32.ofNat kn)), .val (.int fi), .val (.ref b110), .val (.long (1 : Int64)), .second, .unset, .unset] [(.int (5 : Int32)), (.int (Int32.ofNat kn))])) _
        refine XS.icmpNo X278.here hx rfl (hb hby at_130) rfl (tlt (lt32 (i := 5) (n := kn) (by omega) (by omega) : (5 : Int32) < (Int32.ofNat kn))).2.2.2 ?_
        show Steps p.tables e below (T278.setTop (mkF m 133 #[.val (.int p1), .val (.int p2), .val (.int p3), .val (.int p4), .val (.int p5), .val (.int cap), .val (.int (Int32.ofNat kn)), .val (.int fi), .val (.ref b110), .val (.long (1 : Int64)), .second, .unset, .unset] [])) _
        refine XS.aload X278.here hx rfl (hb hby at_133) rfl rfl ?_
        show Steps p.tables e below (T278.setTop (mkF m 135 #[.val (.int p1), .val (.int p2), .val (.int p3), .val (.int p4), .val (.int p5), .val (.int cap), .val (.int (Int32.ofNat kn)), .val (.int fi), .val (.ref b110), .val (.long (1 : Int64)), .second, .unset, .unset] [(.ref b110)])) _
        refine XS.iloadN X278.here hx rfl (hb hby at_135) rfl ?_
        show Steps p.tables e below (T278.setTop (mkF m 136 #[.val (.int p1), .val (.int p2), .val (.int p3), .val (.int p4), .val (.int p5), .val (.int cap), .val (.int (Int32.ofNat kn)), .val (.int fi), .val (.ref b110), .val (.long (1 : Int64)), .second, .unset, .unset] [(.int p3), (.ref b110)])) _
        refine XS.iload X278.here hx rfl (hb hby at_136) rfl ?_
        show Steps p.tables e below (T278.setTop (mkF m 138 #[.val (.int p1), .val (.int p2), .val (.int p3), .val (.int p4), .val (.int p5), .val (.int cap), .val (.int (Int32.ofNat kn)), .val (.int fi), .val (.ref b110), .val (.long (1 : Int64)), .second, .unset, .unset] [(.int p5), (.int p3), (.ref b110)])) _
        refine XS.iand X278.here hx rfl (hb hby at_138) rfl ?_
        show Steps p.tables e below (T278.setTop (mkF m 139 #[.val (.int p1), .val (.int p2), .val (.int p3), .val (.int p4), .val (.int p5), .val (.int cap), .val (.int (Int32.ofNat kn)), .val (.int fi), .val (.ref b110), .val (.long (1 : Int64)), .second, .unset, .unset] [(.int (p3 &&& p5)), (.ref b110)])) _
        refine XS.i2dS X278.here hx rfl (hb hby at_139) rfl (v := (FP.i2d (p3 &&& p5))) rfl ?_
        show Steps p.tables e below (T278.setTop (mkF m 140 #[.val (.int p1), .val (.int p2), .val (.int p3), .val (.int p4), .val (.int p5), .val (.int cap), .val (.int (Int32.ofNat kn)), .val (.int fi), .val (.ref b110), .val (.long (1 : Int64)), .second, .unset, .unset] [(.double (FP.i2d (p3 &&& p5))), (.ref b110)])) _
        refine st283.trans ?_
        show Steps p.tables e below (T283.setTop (mkF m 143 #[.val (.int p1), .val (.int p2), .val (.int p3), .val (.int p4), .val (.int p5), .val (.int cap), .val (.int (Int32.ofNat kn)), .val (.int fi), .val (.ref b110), .val (.long (1 : Int64)), .second, .unset, .unset] [])) _
        refine XS.iload X283.here hx rfl (hb hby at_143) rfl ?_
        show Steps p.tables e below (T283.setTop (mkF m 145 #[.val (.int p1), .val (.int p2), .val (.int p3), .val (.int p4), .val (.int p5), .val (.int cap), .val (.int (Int32.ofNat kn)), .val (.int fi), .val (.ref b110), .val (.long (1 : Int64)), .second, .unset, .unset] [(.int (Int32.ofNat kn))])) _
        refine XS.bipush X283.here hx rfl (hb hby at_145) ?_
        show Steps p.tables e below (T283.setTop (mkF m 147 #[.val (.int p1), .val (.int p2), .val (.int p3), .val (.int p4), .val (.int p5), .val (.int cap), .val (.int (Int32.ofNat kn)), .val (.int fi), .val (.ref b110), .val (.long (1 : Int64)), .second, .unset, .unset] [(.int (6 : Int32)), (.int (Int32.ofNat kn))])) _
        refine XS.icmpYes X283.here hx rfl (pc0 := 147) (pc' := 160) rfl (hb hby at_147) rfl (flt (nlt32 (i := 6) (n := kn) (by omega) (by omega) : ¬ ((6 : Int32) < (Int32.ofNat kn)))).2.2.2 (by decide) (by decide) ?_
        show Steps p.tables e below (T283.setTop (mkF m 160 #[.val (.int p1), .val (.int p2), .val (.int p3), .val (.int p4), .val (.int p5), .val (.int cap), .val (.int (Int32.ofNat kn)), .val (.int fi), .val (.ref b110), .val (.long (1 : Int64)), .second, .unset, .unset] [])) _
        refine XS.iload X283.here hx rfl (hb hby at_160) rfl ?_
        exact kt)
    by_cases hF : fi = (0 : Int32)
    · skip
      have f286 : Exa Z T283.heap b110 "com/example/attacca/attacca/DecimatingBuffer" := (f280.keep K283)
      have f287 : Exa Z T283.heap l1_113 "java/util/ArrayList" := (f281.keep K283)
      have f288 : Fld Z T283.heap l1_113 "java/util/ArrayList" "size" "I" (.int (0 : Int32)) := (f282.keep K283 (own_nmc (Ne.symm ne114) (own_nmc x113_2 own_nm0)))
      obtain ⟨cq289, kq289, q289a, q289b, q289c⟩ := isOf hZ rfl f286
      obtain ⟨_, _, ⟨T289, L289, kk289, nn289⟩, -, X289, ⟨Lc289, hQ289, l289, y289, z289⟩, st289⟩ := X283.virtualBack hx (y := (⟨"com/example/attacca/attacca/DecimatingBuffer", "stride", "()J"⟩ : MethodName)) (z := (⟨"com/example/attacca/attacca/DecimatingBuffer", "stride", "()J"⟩ : MethodName)) hown (mvT hZ (hw _ (List.mem_of_getElem? (i := 44) rfl))) (mvT hZ (hw _ (List.mem_of_getElem? (i := 45) rfl))) (notFace_of_selects (args := #[]) (mvT hZ (hw _ (List.mem_of_getElem? (i := 47) rfl)))) (mvT hZ (hw _ (List.mem_of_getElem? (i := 47) rfl))) (mvT hZ (hw _ (List.mem_of_getElem? (i := 46) rfl))) (by decide) (backOf (W := 0) (rmstride l Z a0 hw [] b110 l1_113 T283.heap n0 z284 f286 x283_0 f287 f288) hZ (hw _ (List.mem_of_getElem? (i := 48) rfl)) (hw _ (List.mem_of_getElem? (i := 2) rfl)) (by decide) (by decide)) q289a q289c (g := (mkF m 172 #[.val (.int p1), .val (.int p2), .val (.int p3), .val (.int p4), .val (.int p5), .val (.int cap), .val (.int (Int32.ofNat kn)), .val (.int fi), .val (.ref b110), .val (.long (1 : Int64)), .second, .unset, .unset] [(.ref b110)])) rfl (by rw [hml]; rfl) (Steps.refl _) (argsL := []) (rest := []) (lenOf pd__28_29J rfl) rfl (by show 2 * 0 + _ ≤ _; exact Nat.le_of_eq rfl) (hb hby at_172) (fun _ _ => ⟨rfl, rfl, (by decide : 3 + 0 ≤ _), (by decide : 4103 + 0 ≤ _)⟩)
      dsimp only [Pt.U, Pt.locs, Pt.cells, Pt.slots] at X289 l289 y289 z289 st289 hQ289
      subst l289 y289 z289
      obtain ⟨rfl, N289q, e289⟩ := hQ289
      have N289 := Fr.app N283 N289q
      obtain ⟨cq290, kq290, q290a, q290b, q290c⟩ := isOf hZ e289 f286
      obtain ⟨_, _, ⟨T290, L290, kk290, nn290⟩, -, X290, ⟨Lc290, hQ290, l290, y290, z290⟩, st290⟩ := X289.virtualBack hx (y := (⟨"com/example/attacca/attacca/DecimatingBuffer", "count", "()I"⟩ : MethodName)) (z := (⟨"com/example/attacca/attacca/DecimatingBuffer", "count", "()I"⟩ : MethodName)) hown (mvT hZ (hw _ (List.mem_of_getElem? (i := 71) rfl))) (mvT hZ (hw _ (List.mem_of_getElem? (i := 72) rfl))) (notFace_of_selects (args := #[]) (mvT hZ (hw _ (List.mem_of_getElem? (i := 74) rfl)))) (mvT hZ (hw _ (List.mem_of_getElem? (i := 74) rfl))) (mvT hZ (hw _ (List.mem_of_getElem? (i := 73) rfl))) (by decide) (backOf (W := 0) (rmcount l Z a0 hw [] b110 6 T283.heap n0 z284 f286 x283_3) hZ (hw _ (List.mem_of_getElem? (i := 75) rfl)) (hw _ (List.mem_of_getElem? (i := 2) rfl)) (by decide) (by decide)) q290a q290c (g := (mkF m 193 #[.val (.int p1), .val (.int p2), .val (.int p3), .val (.int p4), .val (.int p5), .val (.int cap), .val (.int (Int32.ofNat kn)), .val (.int fi), .val (.ref b110), .val (.long (1 : Int64)), .second, .val (.long (1 : Int64)), .second] [(.ref b110)])) rfl (by rw [hml]; rfl) (Steps.refl _) (argsL := []) (rest := []) (lenOf pd__28_29I rfl) rfl (by show 2 * 0 + _ ≤ _; exact Nat.le_of_eq rfl) (hb hby at_193) (fun _ _ => ⟨rfl, e289, (by decide : 3 + 0 ≤ _), (by decide : 4103 + 0 ≤ _)⟩)
      dsimp only [Pt.U, Pt.locs, Pt.cells, Pt.slots] at X290 l290 y290 z290 st290 hQ290
      subst l290 y290 z290
      obtain ⟨rfl, N290q, e290⟩ := hQ290
      have N290 := Fr.app N289 N290q
      have pre291 : ∀ t_, Steps p.tables e below (T290.setTop (mkF m 206 #[.val (.int p1), .val (.int p2), .val (.int p3), .val (.int p4), .val (.int p5), .val (.int cap), .val (.int (Int32.ofNat kn)), .val (.int fi), .val (.ref b110), .val (.long (1 : Int64)), .second, .val (.long (1 : Int64)), .second] [(.int (1 : Int32))])) t_ → Steps p.tables e below (s₁.setTop (entryFrame m #[(.int p1), (.int p2), (.int p3), (.int p4), (.int p5)] maxLocals)) t_ := fun t_ kt => pre285 t_ (by
          show Steps p.tables e below (T283.setTop (mkF m 162 #[.val (.int p1), .val (.int p2), .val (.int p3), .val (.int p4), .val (.int p5), .val (.int cap), .val (.int (Int32.ofNat kn)), .val (.int fi), .val (.ref b110), .val (.long (1 : Int64)), .second, .unset, .unset] [(.int fi)])) _
          refine XS.ifYes X283.here hx rfl (pc0 := 162) (pc' := 170) rfl (hb hby at_162) rfl ((if0 _ _).trans (teq (hF : fi = (0 : Int32))).1) (by decide) (by decide) ?_
          show Steps p.tables e below (T283.setTop (mkF m 170 #[.val (.int p1), .val (.int p2), .val (.int p3), .val (.int p4), .val (.int p5), .val (.int cap), .val (.int (Int32.ofNat kn)), .val (.int fi), .val (.ref b110), .val (.long (1 : Int64)), .second, .unset, .unset] [])) _
          refine XS.aload X283.here hx rfl (hb hby at_170) rfl rfl ?_
          show Steps p.tables e below (T283.setTop (mkF m 172 #[.val (.int p1), .val (.int p2), .val (.int p3), .val (.int p4), .val (.int p5), .val (.int cap), .val (.int (Int32.ofNat kn)), .val (.int fi), .val (.ref b110), .val (.long (1 : Int64)), .second, .unset, .unset] [(.ref b110)])) _
          refine st289.trans ?_
          show Steps p.tables e below (T289.setTop (mkF m 175 #[.val (.int p1), .val (.int p2), .val (.int p3), .val (.int p4), .val (.int p5), .val (.int cap), .val (.int (Int32.ofNat kn)), .val (.int fi), .val (.ref b110), .val (.long (1 : Int64)), .second, .unset, .unset] [(.long (1 : Int64))])) _
          refine XS.lstore X289.here hx rfl (hb hby at_175) rfl (l' := #[.val (.int p1), .val (.int p2), .val (.int p3), .val (.int p4), .val (.int p5), .val (.int cap), .val (.int (Int32.ofNat kn)), .val (.int fi), .val (.ref b110), .val (.long (1 : Int64)), .second, .val (.long (1 : Int64)), .second]) rfl ?_
          show Steps p.tables e below (T289.setTop (mkF m 177 #[.val (.int p1), .val (.int p2), .val (.int p3), .val (.int p4), .val (.int p5), .val (.int cap), .val (.int (Int32.ofNat kn)), .val (.int fi), .val (.ref b110), .val (.long (1 : Int64)), .second, .val (.long (1 : Int64)), .second] [])) _
          refine XS.lload X289.here hx rfl (hb hby at_177) rfl ?_
          show Steps p.tables e below (T289.setTop (mkF m 179 #[.val (.int p1), .val (.int p2), .val (.int p3), .val (.int p4), .val (.int p5), .val (.int cap), .val (.int (Int32.ofNat kn)), .val (.int fi), .val (.ref b110), .val (.long (1 : Int64)), .second, .val (.long (1 : Int64)), .second] [(.long (1 : Int64))])) _
          refine XS.lconst X289.here hx rfl (hb hby at_179) ?_
          show Steps p.tables e below (T289.setTop (mkF m 180 #[.val (.int p1), .val (.int p2), .val (.int p3), .val (.int p4), .val (.int p5), .val (.int cap), .val (.int (Int32.ofNat kn)), .val (.int fi), .val (.ref b110), .val (.long (1 : Int64)), .second, .val (.long (1 : Int64)), .second] [(.long (1 : Int64)), (.long (1 : Int64))])) _
          refine XS.lcmp X289.here hx rfl (hb hby at_180) rfl ?_
          show Steps p.tables e below (T289.setTop (mkF m 181 #[.val (.int p1), .val (.int p2), .val (.int p3), .val (.int p4), .val (.int p5), .val (.int cap), .val (.int (Int32.ofNat kn)), .val (.int fi), .val (.ref b110), .val (.long (1 : Int64)), .second, .val (.long (1 : Int64)), .second] [(.int (lcmpW (1 : Int64) (1 : Int64)))])) _
          refine XS.ifNo X289.here hx rfl (hb hby at_181) rfl ((if0 _ _).trans (teq ((by decide) : (lcmpW (1 : Int64) (1 : Int64)) = (0 : Int32))).2) ?_
          show Steps p.tables e below (T289.setTop (mkF m 184 #[.val (.int p1), .val (.int p2), .val (.int p3), .val (.int p4), .val (.int p5), .val (.int cap), .val (.int (Int32.ofNat kn)), .val (.int fi), .val (.ref b110), .val (.long (1 : Int64)), .second, .val (.long (1 : Int64)), .second] [])) _
          refine XS.lload X289.here hx rfl (hb hby at_184) rfl ?_
          show Steps p.tables e below (T289.setTop (mkF m 186 #[.val (.int p1), .val (.int p2), .val (.int p3), .val (.int p4), .val (.int p5), .val (.int cap), .val (.int (Int32.ofNat kn)), .val (.int fi), .val (.ref b110), .val (.long (1 : Int64)), .second, .val (.long (1 : Int64)), .second] [(.long (1 : Int64))])) _
          refine XS.lconst X289.here hx rfl (hb hby at_186) ?_
          show Steps p.tables e below (T289.setTop (mkF m 187 #[.val (.int p1), .val (.int p2), .val (.int p3), .val (.int p4), .val (.int p5), .val (.int cap), .val (.int (Int32.ofNat kn)), .val (.int fi), .val (.ref b110), .val (.long (1 : Int64)), .second, .val (.long (1 : Int64)), .second] [(.long (1 : Int64)), (.long (1 : Int64))])) _
          refine XS.lcmp X289.here hx rfl (hb hby at_187) rfl ?_
          show Steps p.tables e below (T289.setTop (mkF m 188 #[.val (.int p1), .val (.int p2), .val (.int p3), .val (.int p4), .val (.int p5), .val (.int cap), .val (.int (Int32.ofNat kn)), .val (.int fi), .val (.ref b110), .val (.long (1 : Int64)), .second, .val (.long (1 : Int64)), .second] [(.int (lcmpW (1 : Int64) (1 : Int64)))])) _
          refine XS.ifNo X289.here hx rfl (hb hby at_188) rfl ((if0 _ _).trans (teq ((by decide) : (lcmpW (1 : Int64) (1 : Int64)) = (0 : Int32))).2) ?_
          show Steps p.tables e below (T289.setTop (mkF m 191 #[.val (.int p1), .val (.int p2), .val (.int p3), .val (.int p4), .val (.int p5), .val (.int cap), .val (.int (Int32.ofNat kn)), .val (.int fi), .val (.ref b110), .val (.long (1 : Int64)), .second, .val (.long (1 : Int64)), .second] [])) _
          refine XS.aload X289.here hx rfl (hb hby at_191) rfl rfl ?_
          show Steps p.tables e below (T289.setTop (mkF m 193 #[.val (.int p1), .val (.int p2), .val (.int p3), .val (.int p4), .val (.int p5), .val (.int cap), .val (.int (Int32.ofNat kn)), .val (.int fi), .val (.ref b110), .val (.long (1 : Int64)), .second, .val (.long (1 : Int64)), .second] [(.ref b110)])) _
          refine st290.trans ?_
          show Steps p.tables e below (T290.setTop (mkF m 196 #[.val (.int p1), .val (.int p2), .val (.int p3), .val (.int p4), .val (.int p5), .val (.int cap), .val (.int (Int32.ofNat kn)), .val (.int fi), .val (.ref b110), .val (.long (1 : Int64)), .second, .val (.long (1 : Int64)), .second] [(.int (Int32.ofNat 6))])) _
          refine XS.iload X290.here hx rfl (hb hby at_196) rfl ?_
          show Steps p.tables e below (T290.setTop (mkF m 198 #[.val (.int p1), .val (.int p2), .val (.int p3), .val (.int p4), .val (.int p5), .val (.int cap), .val (.int (Int32.ofNat kn)), .val (.int fi), .val (.ref b110), .val (.long (1 : Int64)), .second, .val (.long (1 : Int64)), .second] [(.int (Int32.ofNat kn)), (.int (Int32.ofNat 6))])) _
          refine XS.icmpNo X290.here hx rfl (hb hby at_198) rfl (teq ((congrArg Int32.ofNat hj.symm) : (Int32.ofNat 6) = (Int32.ofNat kn))).2 ?_
          show Steps p.tables e below (T290.setTop (mkF m 201 #[.val (.int p1), .val (.int p2), .val (.int p3), .val (.int p4), .val (.int p5), .val (.int cap), .val (.int (Int32.ofNat kn)), .val (.int fi), .val (.ref b110), .val (.long (1 : Int64)), .second, .val (.long (1 : Int64)), .second] [])) _
          refine XS.iconst X290.here hx rfl (hb hby at_201) ?_
          show Steps p.tables e below (T290.setTop (mkF m 202 #[.val (.int p1), .val (.int p2), .val (.int p3), .val (.int p4), .val (.int p5), .val (.int cap), .val (.int (Int32.ofNat kn)), .val (.int fi), .val (.ref b110), .val (.long (1 : Int64)), .second, .val (.long (1 : Int64)), .second] [(.int (1 : Int32))])) _
          refine XS.goto X290.here hx rfl (pc0 := 202) (pc' := 206) rfl (hb hby at_202) (by decide) (by decide) ?_
          exact kt)
      obtain ⟨fs, hr, hrun, hended, hW, hsame⟩ := X290.leave (v := some (.int (1 : Int32))) (fun h => by rw [Bd.returns] at h; cases h)
      refine ⟨_, _, pre291 _ ?_, hrun, hended, _, _, rfl, ?_, ⟨_, rfl⟩, hW, hsame.mono (by decide) (by decide)⟩
      · show Steps p.tables e below (T290.setTop (mkF m 206 #[.val (.int p1), .val (.int p2), .val (.int p3), .val (.int p4), .val (.int p5), .val (.int cap), .val (.int (Int32.ofNat kn)), .val (.int fi), .val (.ref b110), .val (.long (1 : Int64)), .second, .val (.long (1 : Int64)), .second] [(.int (1 : Int32))])) _
        exact retN X290 hx (t := .boolean) Bd.returns (by simp) (hb hby at_206) hr
      · show Q0 Z p1 p2 p3 p4 p5 DC h0 n0 _ T290.heap _
        rw [e290]
        exact ⟨rfl, N290⟩
    · skip
      have f292 : Exa Z T283.heap b110 "com/example/attacca/attacca/DecimatingBuffer" := (f280.keep K283)
      have f293 : Exa Z T283.heap l1_113 "java/util/ArrayList" := (f281.keep K283)
      have f294 : Fld Z T283.heap l1_113 "java/util/ArrayList" "size" "I" (.int (0 : Int32)) := (f282.keep K283 (own_nmc (Ne.symm ne114) (own_nmc x113_2 own_nm0)))
      obtain ⟨cq295, kq295, q295a, q295b, q295c⟩ := isOf hZ rfl f292
      obtain ⟨_, _, ⟨T295, L295, kk295, nn295⟩, -, X295, ⟨Lc295, hQ295, l295, y295, z295⟩, st295⟩ := X283.virtualBack hx (y := (⟨"com/example/attacca/attacca/DecimatingBuffer", "end", "()V"⟩ : MethodName)) (z := (⟨"com/example/attacca/attacca/DecimatingBuffer", "end", "()V"⟩ : MethodName)) hown (mvT hZ (hw _ (List.mem_of_getElem? (i := 76) rfl))) (mvT hZ (hw _ (List.mem_of_getElem? (i := 77) rfl))) (notFace_of_selects (args := #[]) (mvT hZ (hw _ (List.mem_of_getElem? (i := 79) rfl)))) (mvT hZ (hw _ (List.mem_of_getElem? (i := 79) rfl))) (mvT hZ (hw _ (List.mem_of_getElem? (i := 78) rfl))) (by decide) (backOf (W := 0) (rmend l Z a0 hw [] b110 l1_113 T283.heap n0 z284 f292 x283_0 f293 f294) hZ (hw _ (List.mem_of_getElem? (i := 80) rfl)) (hw _ (List.mem_of_getElem? (i := 2) rfl)) (by decide) (by decide)) q295a q295c (g := (mkF m 167 #[.val (.int p1), .val (.int p2), .val (.int p3), .val (.int p4), .val (.int p5), .val (.int cap), .val (.int (Int32.ofNat kn)), .val (.int fi), .val (.ref b110), .val (.long (1 : Int64)), .second, .unset, .unset] [(.ref b110)])) rfl (by rw [hml]; rfl) (Steps.refl _) (argsL := []) (rest := []) (lenOf pd__28_29V rfl) rfl (by show 2 * 0 + _ ≤ _; exact Nat.le_of_eq rfl) (hb hby at_167) (fun _ _ => ⟨rfl, rfl, (by decide : 3 + 0 ≤ _), (by decide : 4103 + 0 ≤ _)⟩)
      dsimp only [Pt.U, Pt.locs, Pt.cells, Pt.slots] at X295 l295 y295 z295 st295 hQ295
      subst l295 y295 z295
      obtain ⟨rfl, N295q, e295⟩ := hQ295
      have N295 := Fr.app N283 N295q
      obtain ⟨cq296, kq296, q296a, q296b, q296c⟩ := isOf hZ e295 f292
      obtain ⟨_, _, ⟨T296, L296, kk296, nn296⟩, -, X296, ⟨Lc296, hQ296, l296, y296, z296⟩, st296⟩ := X295.virtualBack hx (y := (⟨"com/example/attacca/attacca/DecimatingBuffer", "stride", "()J"⟩ : MethodName)) (z := (⟨"com/example/attacca/attacca/DecimatingBuffer", "stride", "()J"⟩ : MethodName)) hown (mvT hZ (hw _ (List.mem_of_getElem? (i := 44) rfl))) (mvT hZ (hw _ (List.mem_of_getElem? (i := 45) rfl))) (notFace_of_selects (args := #[]) (mvT hZ (hw _ (List.mem_of_getElem? (i := 47) rfl)))) (mvT hZ (hw _ (List.mem_of_getElem? (i := 47) rfl))) (mvT hZ (hw _ (List.mem_of_getElem? (i := 46) rfl))) (by decide) (backOf (W := 0) (rmstride l Z a0 hw [] b110 l1_113 T283.heap n0 z284 f292 x283_0 f293 f294) hZ (hw _ (List.mem_of_getElem? (i := 48) rfl)) (hw _ (List.mem_of_getElem? (i := 2) rfl)) (by decide) (by decide)) q296a q296c (g := (mkF m 172 #[.val (.int p1), .val (.int p2), .val (.int p3), .val (.int p4), .val (.int p5), .val (.int cap), .val (.int (Int32.ofNat kn)), .val (.int fi), .val (.ref b110), .val (.long (1 : Int64)), .second, .unset, .unset] [(.ref b110)])) rfl (by rw [hml]; rfl) (Steps.refl _) (argsL := []) (rest := []) (lenOf pd__28_29J rfl) rfl (by show 2 * 0 + _ ≤ _; exact Nat.le_of_eq rfl) (hb hby at_172) (fun _ _ => ⟨rfl, e295, (by decide : 3 + 0 ≤ _), (by decide : 4103 + 0 ≤ _)⟩)
      dsimp only [Pt.U, Pt.locs, Pt.cells, Pt.slots] at X296 l296 y296 z296 st296 hQ296
      subst l296 y296 z296
      obtain ⟨rfl, N296q, e296⟩ := hQ296
      have N296 := Fr.app N295 N296q
      obtain ⟨cq297, kq297, q297a, q297b, q297c⟩ := isOf hZ e296 f292
      obtain ⟨_, _, ⟨T297, L297, kk297, nn297⟩, -, X297, ⟨Lc297, hQ297, l297, y297, z297⟩, st297⟩ := X296.virtualBack hx (y := (⟨"com/example/attacca/attacca/DecimatingBuffer", "count", "()I"⟩ : MethodName)) (z := (⟨"com/example/attacca/attacca/DecimatingBuffer", "count", "()I"⟩ : MethodName)) hown (mvT hZ (hw _ (List.mem_of_getElem? (i := 71) rfl))) (mvT hZ (hw _ (List.mem_of_getElem? (i := 72) rfl))) (notFace_of_selects (args := #[]) (mvT hZ (hw _ (List.mem_of_getElem? (i := 74) rfl)))) (mvT hZ (hw _ (List.mem_of_getElem? (i := 74) rfl))) (mvT hZ (hw _ (List.mem_of_getElem? (i := 73) rfl))) (by decide) (backOf (W := 0) (rmcount l Z a0 hw [] b110 6 T283.heap n0 z284 f292 x283_3) hZ (hw _ (List.mem_of_getElem? (i := 75) rfl)) (hw _ (List.mem_of_getElem? (i := 2) rfl)) (by decide) (by decide)) q297a q297c (g := (mkF m 193 #[.val (.int p1), .val (.int p2), .val (.int p3), .val (.int p4), .val (.int p5), .val (.int cap), .val (.int (Int32.ofNat kn)), .val (.int fi), .val (.ref b110), .val (.long (1 : Int64)), .second, .val (.long (1 : Int64)), .second] [(.ref b110)])) rfl (by rw [hml]; rfl) (Steps.refl _) (argsL := []) (rest := []) (lenOf pd__28_29I rfl) rfl (by show 2 * 0 + _ ≤ _; exact Nat.le_of_eq rfl) (hb hby at_193) (fun _ _ => ⟨rfl, e296, (by decide : 3 + 0 ≤ _), (by decide : 4103 + 0 ≤ _)⟩)
      dsimp only [Pt.U, Pt.locs, Pt.cells, Pt.slots] at X297 l297 y297 z297 st297 hQ297
      subst l297 y297 z297
      obtain ⟨rfl, N297q, e297⟩ := hQ297
      have N297 := Fr.app N296 N297q
      have pre298 : ∀ t_, Steps p.tables e below (T297.setTop (mkF m 206 #[.val (.int p1), .val (.int p2), .val (.int p3), .val (.int p4), .val (.int p5), .val (.int cap), .val (.int (Int32.ofNat kn)), .val (.int fi), .val (.ref b110), .val (.long (1 : Int64)), .second, .val (.long (1 : Int64)), .second] [(.int (1 : Int32))])) t_ → Steps p.tables e below (s₁.setTop (entryFrame m #[(.int p1), (.int p2), (.int p3), (.int p4), (.int p5)] maxLocals)) t_ := fun t_ kt => pre285 t_ (by
          show Steps p.tables e below (T283.setTop (mkF m 162 #[.val (.int p1), .val (.int p2), .val (.int p3), .val (.int p4), .val (.int p5), .val (.int cap), .val (.int (Int32.ofNat kn)), .val (.int fi), .val (.ref b110), .val (.long (1 : Int64)), .second, .unset, .unset] [(.int fi)])) _
          refine XS.ifNo X283.here hx rfl (hb hby at_162) rfl ((if0 _ _).trans (feq (hF : ¬ (fi = (0 : Int32)))).1) ?_
          show Steps p.tables e below (T283.setTop (mkF m 165 #[.val (.int p1), .val (.int p2), .val (.int p3), .val (.int p4), .val (.int p5), .val (.int cap), .val (.int (Int32.ofNat kn)), .val (.int fi), .val (.ref b110), .val (.long (1 : Int64)), .second, .unset, .unset] [])) _
          refine XS.aload X283.here hx rfl (hb hby at_165) rfl rfl ?_
          show Steps p.tables e below (T283.setTop (mkF m 167 #[.val (.int p1), .val (.int p2), .val (.int p3), .val (.int p4), .val (.int p5), .val (.int cap), .val (.int (Int32.ofNat kn)), .val (.int fi), .val (.ref b110), .val (.long (1 : Int64)), .second, .unset, .unset] [(.ref b110)])) _
          refine st295.trans ?_
          show Steps p.tables e below (T295.setTop (mkF m 170 #[.val (.int p1), .val (.int p2), .val (.int p3), .val (.int p4), .val (.int p5), .val (.int cap), .val (.int (Int32.ofNat kn)), .val (.int fi), .val (.ref b110), .val (.long (1 : Int64)), .second, .unset, .unset] [])) _
          refine XS.aload X295.here hx rfl (hb hby at_170) rfl rfl ?_
          show Steps p.tables e below (T295.setTop (mkF m 172 #[.val (.int p1), .val (.int p2), .val (.int p3), .val (.int p4), .val (.int p5), .val (.int cap), .val (.int (Int32.ofNat kn)), .val (.int fi), .val (.ref b110), .val (.long (1 : Int64)), .second, .unset, .unset] [(.ref b110)])) _
          refine st296.trans ?_
          show Steps p.tables e below (T296.setTop (mkF m 175 #[.val (.int p1), .val (.int p2), .val (.int p3), .val (.int p4), .val (.int p5), .val (.int cap), .val (.int (Int32.ofNat kn)), .val (.int fi), .val (.ref b110), .val (.long (1 : Int64)), .second, .unset, .unset] [(.long (1 : Int64))])) _
          refine XS.lstore X296.here hx rfl (hb hby at_175) rfl (l' := #[.val (.int p1), .val (.int p2), .val (.int p3), .val (.int p4), .val (.int p5), .val (.int cap), .val (.int (Int32.ofNat kn)), .val (.int fi), .val (.ref b110), .val (.long (1 : Int64)), .second, .val (.long (1 : Int64)), .second]) rfl ?_
          show Steps p.tables e below (T296.setTop (mkF m 177 #[.val (.int p1), .val (.int p2), .val (.int p3), .val (.int p4), .val (.int p5), .val (.int cap), .val (.int (Int32.ofNat kn)), .val (.int fi), .val (.ref b110), .val (.long (1 : Int64)), .second, .val (.long (1 : Int64)), .second] [])) _
          refine XS.lload X296.here hx rfl (hb hby at_177) rfl ?_
          show Steps p.tables e below (T296.setTop (mkF m 179 #[.val (.int p1), .val (.int p2), .val (.int p3), .val (.int p4), .val (.int p5), .val (.int cap), .val (.int (Int32.ofNat kn)), .val (.int fi), .val (.ref b110), .val (.long (1 : Int64)), .second, .val (.long (1 : Int64)), .second] [(.long (1 : Int64))])) _
          refine XS.lconst X296.here hx rfl (hb hby at_179) ?_
          show Steps p.tables e below (T296.setTop (mkF m 180 #[.val (.int p1), .val (.int p2), .val (.int p3), .val (.int p4), .val (.int p5), .val (.int cap), .val (.int (Int32.ofNat kn)), .val (.int fi), .val (.ref b110), .val (.long (1 : Int64)), .second, .val (.long (1 : Int64)), .second] [(.long (1 : Int64)), (.long (1 : Int64))])) _
          refine XS.lcmp X296.here hx rfl (hb hby at_180) rfl ?_
          show Steps p.tables e below (T296.setTop (mkF m 181 #[.val (.int p1), .val (.int p2), .val (.int p3), .val (.int p4), .val (.int p5), .val (.int cap), .val (.int (Int32.ofNat kn)), .val (.int fi), .val (.ref b110), .val (.long (1 : Int64)), .second, .val (.long (1 : Int64)), .second] [(.int (lcmpW (1 : Int64) (1 : Int64)))])) _
          refine XS.ifNo X296.here hx rfl (hb hby at_181) rfl ((if0 _ _).trans (teq ((by decide) : (lcmpW (1 : Int64) (1 : Int64)) = (0 : Int32))).2) ?_
          show Steps p.tables e below (T296.setTop (mkF m 184 #[.val (.int p1), .val (.int p2), .val (.int p3), .val (.int p4), .val (.int p5), .val (.int cap), .val (.int (Int32.ofNat kn)), .val (.int fi), .val (.ref b110), .val (.long (1 : Int64)), .second, .val (.long (1 : Int64)), .second] [])) _
          refine XS.lload X296.here hx rfl (hb hby at_184) rfl ?_
          show Steps p.tables e below (T296.setTop (mkF m 186 #[.val (.int p1), .val (.int p2), .val (.int p3), .val (.int p4), .val (.int p5), .val (.int cap), .val (.int (Int32.ofNat kn)), .val (.int fi), .val (.ref b110), .val (.long (1 : Int64)), .second, .val (.long (1 : Int64)), .second] [(.long (1 : Int64))])) _
          refine XS.lconst X296.here hx rfl (hb hby at_186) ?_
          show Steps p.tables e below (T296.setTop (mkF m 187 #[.val (.int p1), .val (.int p2), .val (.int p3), .val (.int p4), .val (.int p5), .val (.int cap), .val (.int (Int32.ofNat kn)), .val (.int fi), .val (.ref b110), .val (.long (1 : Int64)), .second, .val (.long (1 : Int64)), .second] [(.long (1 : Int64)), (.long (1 : Int64))])) _
          refine XS.lcmp X296.here hx rfl (hb hby at_187) rfl ?_
          show Steps p.tables e below (T296.setTop (mkF m 188 #[.val (.int p1), .val (.int p2), .val (.int p3), .val (.int p4), .val (.int p5), .val (.int cap), .val (.int (Int32.ofNat kn)), .val (.int fi), .val (.ref b110), .val (.long (1 : Int64)), .second, .val (.long (1 : Int64)), .second] [(.int (lcmpW (1 : Int64) (1 : Int64)))])) _
          refine XS.ifNo X296.here hx rfl (hb hby at_188) rfl ((if0 _ _).trans (teq ((by decide) : (lcmpW (1 : Int64) (1 : Int64)) = (0 : Int32))).2) ?_
          show Steps p.tables e below (T296.setTop (mkF m 191 #[.val (.int p1), .val (.int p2), .val (.int p3), .val (.int p4), .val (.int p5), .val (.int cap), .val (.int (Int32.ofNat kn)), .val (.int fi), .val (.ref b110), .val (.long (1 : Int64)), .second, .val (.long (1 : Int64)), .second] [])) _
          refine XS.aload X296.here hx rfl (hb hby at_191) rfl rfl ?_
          show Steps p.tables e below (T296.setTop (mkF m 193 #[.val (.int p1), .val (.int p2), .val (.int p3), .val (.int p4), .val (.int p5), .val (.int cap), .val (.int (Int32.ofNat kn)), .val (.int fi), .val (.ref b110), .val (.long (1 : Int64)), .second, .val (.long (1 : Int64)), .second] [(.ref b110)])) _
          refine st297.trans ?_
          show Steps p.tables e below (T297.setTop (mkF m 196 #[.val (.int p1), .val (.int p2), .val (.int p3), .val (.int p4), .val (.int p5), .val (.int cap), .val (.int (Int32.ofNat kn)), .val (.int fi), .val (.ref b110), .val (.long (1 : Int64)), .second, .val (.long (1 : Int64)), .second] [(.int (Int32.ofNat 6))])) _
          refine XS.iload X297.here hx rfl (hb hby at_196) rfl ?_
          show Steps p.tables e below (T297.setTop (mkF m 198 #[.val (.int p1), .val (.int p2), .val (.int p3), .val (.int p4), .val (.int p5), .val (.int cap), .val (.int (Int32.ofNat kn)), .val (.int fi), .val (.ref b110), .val (.long (1 : Int64)), .second, .val (.long (1 : Int64)), .second] [(.int (Int32.ofNat kn)), (.int (Int32.ofNat 6))])) _
          refine XS.icmpNo X297.here hx rfl (hb hby at_198) rfl (teq ((congrArg Int32.ofNat hj.symm) : (Int32.ofNat 6) = (Int32.ofNat kn))).2 ?_
          show Steps p.tables e below (T297.setTop (mkF m 201 #[.val (.int p1), .val (.int p2), .val (.int p3), .val (.int p4), .val (.int p5), .val (.int cap), .val (.int (Int32.ofNat kn)), .val (.int fi), .val (.ref b110), .val (.long (1 : Int64)), .second, .val (.long (1 : Int64)), .second] [])) _
          refine XS.iconst X297.here hx rfl (hb hby at_201) ?_
          show Steps p.tables e below (T297.setTop (mkF m 202 #[.val (.int p1), .val (.int p2), .val (.int p3), .val (.int p4), .val (.int p5), .val (.int cap), .val (.int (Int32.ofNat kn)), .val (.int fi), .val (.ref b110), .val (.long (1 : Int64)), .second, .val (.long (1 : Int64)), .second] [(.int (1 : Int32))])) _
          refine XS.goto X297.here hx rfl (pc0 := 202) (pc' := 206) rfl (hb hby at_202) (by decide) (by decide) ?_
          exact kt)
      obtain ⟨fs, hr, hrun, hended, hW, hsame⟩ := X297.leave (v := some (.int (1 : Int32))) (fun h => by rw [Bd.returns] at h; cases h)
      refine ⟨_, _, pre298 _ ?_, hrun, hended, _, _, rfl, ?_, ⟨_, rfl⟩, hW, hsame.mono (by decide) (by decide)⟩
      · show Steps p.tables e below (T297.setTop (mkF m 206 #[.val (.int p1), .val (.int p2), .val (.int p3), .val (.int p4), .val (.int p5), .val (.int cap), .val (.int (Int32.ofNat kn)), .val (.int fi), .val (.ref b110), .val (.long (1 : Int64)), .second, .val (.long (1 : Int64)), .second] [(.int (1 : Int32))])) _
        exact retN X297 hx (t := .boolean) Bd.returns (by simp) (hb hby at_206) hr
      · show Q0 Z p1 p2 p3 p4 p5 DC h0 n0 _ T297.heap _
        rw [e297]
        exact ⟨rfl, N297⟩
  · skip
    obtain ⟨cq299, kq299, q299a, q299b, q299c⟩ := isOf hZ e118 f117
    obtain ⟨_, _, ⟨T299, L299, kk299, nn299⟩, -, X299, ⟨Lc299, hQ299, l299, y299, z299⟩, st299⟩ := X118.virtualBack hx (y := (⟨"com/example/attacca/attacca/DecimatingBuffer", "accept", "(D)V"⟩ : MethodName)) (z := (⟨"com/example/attacca/attacca/DecimatingBuffer", "accept", "(D)V"⟩ : MethodName)) hown (mvT hZ (hw _ (List.mem_of_getElem? (i := 60) rfl))) (mvT hZ (hw _ (List.mem_of_getElem? (i := 61) rfl))) (notFace_of_selects (args := #[]) (mvT hZ (hw _ (List.mem_of_getElem? (i := 63) rfl)))) (mvT hZ (hw _ (List.mem_of_getElem? (i := 63) rfl))) (mvT hZ (hw _ (List.mem_of_getElem? (i := 62) rfl))) (by decide) (backOf (W := 0) (rmacc l Z a0 hw [] b110 (FP.i2d p3) l1_113 v1_113 kv_113 cap (List.replicate 7 (Value.double 0)) 0 T113.heap n0 z116 f117 x113_3 x113_4 x113_5 x113_6 x113_7 x113_8 x113_9 g_b110 g_v1_113 ne115 ne114 x113_2 (hcap) (by decide) (by simp only [List.length_set, List.length_replicate])) hZ (hw _ (List.mem_of_getElem? (i := 64) rfl)) (hw _ (List.mem_of_getElem? (i := 2) rfl)) (by decide) (by decide)) q299a q299c (g := (mkF m 66 #[.val (.int p1), .val (.int p2), .val (.int p3), .val (.int p4), .val (.int p5), .val (.int cap), .val (.int (Int32.ofNat kn)), .val (.int fi), .val (.ref b110), .val (.long (1 : Int64)), .second, .unset, .unset] [(.double (FP.i2d p3)), (.ref b110)])) rfl (by rw [hml]; rfl) (Steps.refl _) (argsL := [(.double (FP.i2d p3))]) (rest := []) (lenOf pd__28D_29V rfl) rfl (by show 2 * 0 + _ ≤ _; exact Nat.le_of_eq rfl) (hb hby at_66) (fun _ _ => ⟨rfl, e118, (by decide : 3 + 0 ≤ _), (by decide : 4103 + 0 ≤ _)⟩)
    dsimp only [Pt.U, Pt.locs, Pt.cells, Pt.slots] at X299 l299 y299 z299 st299 hQ299
    subst l299 y299 z299
    obtain ⟨rfl, N299q, K299, x299_0, x299_1, x299_2, x299_3, x299_4⟩ := hQ299
    have N299 := Fr.app N118 N299q
    have z300 : n0 ≤ T299.heap.size := Nat.le_trans z116 K299.1
    have f301 : Exa Z T299.heap b110 "com/example/attacca/attacca/DecimatingBuffer" := (f117.keep K299)
    have f302 : Exa Z T299.heap l1_113 "java/util/ArrayList" := (x113_7.keep K299)
    have f303 : Fld Z T299.heap l1_113 "java/util/ArrayList" "size" "I" (.int (0 : Int32)) := (x113_8.keep K299 (own_nmc (Ne.symm ne114) (own_nmc x113_2 own_nm0)))
    obtain ⟨cq304, kq304, q304a, q304b, q304c⟩ := isOf hZ rfl f301
    obtain ⟨_, _, ⟨T304, L304, kk304, nn304⟩, -, X304, ⟨Lc304, hQ304, l304, y304, z304⟩, st304⟩ := X299.virtualBack hx (y := (⟨"com/example/attacca/attacca/DecimatingBuffer", "accept", "(D)V"⟩ : MethodName)) (z := (⟨"com/example/attacca/attacca/DecimatingBuffer", "accept", "(D)V"⟩ : MethodName)) hown (mvT hZ (hw _ (List.mem_of_getElem? (i := 60) rfl))) (mvT hZ (hw _ (List.mem_of_getElem? (i := 61) rfl))) (notFace_of_selects (args := #[]) (mvT hZ (hw _ (List.mem_of_getElem? (i := 63) rfl)))) (mvT hZ (hw _ (List.mem_of_getElem? (i := 63) rfl))) (mvT hZ (hw _ (List.mem_of_getElem? (i := 62) rfl))) (by decide) (backOf (W := 0) (rmacc l Z a0 hw [] b110 (FP.i2d p4) l1_113 v1_113 kv_113 cap ((List.replicate 7 (Value.double 0)).set 0 (.double (FP.i2d p3))) 1 T299.heap n0 z300 f301 x299_0 x299_1 x299_2 x299_3 f302 f303 x299_4 g_b110 g_v1_113 ne115 ne114 x113_2 (hcap) (by decide) (by simp only [List.length_set, List.length_replicate])) hZ (hw _ (List.mem_of_getElem? (i := 64) rfl)) (hw _ (List.mem_of_getElem? (i := 2) rfl)) (by decide) (by decide)) q304a q304c (g := (mkF m 79 #[.val (.int p1), .val (.int p2), .val (.int p3), .val (.int p4), .val (.int p5), .val (.int cap), .val (.int (Int32.ofNat kn)), .val (.int fi), .val (.ref b110), .val (.long (1 : Int64)), .second, .unset, .unset] [(.double (FP.i2d p4)), (.ref b110)])) rfl (by rw [hml]; rfl) (Steps.refl _) (argsL := [(.double (FP.i2d p4))]) (rest := []) (lenOf pd__28D_29V rfl) rfl (by show 2 * 0 + _ ≤ _; exact Nat.le_of_eq rfl) (hb hby at_79) (fun _ _ => ⟨rfl, rfl, (by decide : 3 + 0 ≤ _), (by decide : 4103 + 0 ≤ _)⟩)
    dsimp only [Pt.U, Pt.locs, Pt.cells, Pt.slots] at X304 l304 y304 z304 st304 hQ304
    subst l304 y304 z304
    obtain ⟨rfl, N304q, K304, x304_0, x304_1, x304_2, x304_3, x304_4⟩ := hQ304
    have N304 := Fr.app N299 N304q
    have z305 : n0 ≤ T304.heap.size := Nat.le_trans z300 K304.1
    have f306 : Exa Z T304.heap b110 "com/example/attacca/attacca/DecimatingBuffer" := (f301.keep K304)
    have f307 : Exa Z T304.heap l1_113 "java/util/ArrayList" := (f302.keep K304)
    have f308 : Fld Z T304.heap l1_113 "java/util/ArrayList" "size" "I" (.int (0 : Int32)) := (f303.keep K304 (own_nmc (Ne.symm ne114) (own_nmc x113_2 own_nm0)))
    obtain ⟨cq309, kq309, q309a, q309b, q309c⟩ := isOf hZ rfl f306
    obtain ⟨_, _, ⟨T309, L309, kk309, nn309⟩, -, X309, ⟨Lc309, hQ309, l309, y309, z309⟩, st309⟩ := X304.virtualBack hx (y := (⟨"com/example/attacca/attacca/DecimatingBuffer", "accept", "(D)V"⟩ : MethodName)) (z := (⟨"com/example/attacca/attacca/DecimatingBuffer", "accept", "(D)V"⟩ : MethodName)) hown (mvT hZ (hw _ (List.mem_of_getElem? (i := 60) rfl))) (mvT hZ (hw _ (List.mem_of_getElem? (i := 61) rfl))) (notFace_of_selects (args := #[]) (mvT hZ (hw _ (List.mem_of_getElem? (i := 63) rfl)))) (mvT hZ (hw _ (List.mem_of_getElem? (i := 63) rfl))) (mvT hZ (hw _ (List.mem_of_getElem? (i := 62) rfl))) (by decide) (backOf (W := 0) (rmacc l Z a0 hw [] b110 (FP.i2d p5) l1_113 v1_113 kv_113 cap (((List.replicate 7 (Value.double 0)).set 0 (.double (FP.i2d p3))).set 1 (.double (FP.i2d p4))) 2 T304.heap n0 z305 f306 x304_0 x304_1 x304_2 x304_3 f307 f308 x304_4 g_b110 g_v1_113 ne115 ne114 x113_2 (hcap) (by decide) (by simp only [List.length_set, List.length_replicate])) hZ (hw _ (List.mem_of_getElem? (i := 64) rfl)) (hw _ (List.mem_of_getElem? (i := 2) rfl)) (by decide) (by decide)) q309a q309c (g := (mkF m 93 #[.val (.int p1), .val (.int p2), .val (.int p3), .val (.int p4), .val (.int p5), .val (.int cap), .val (.int (Int32.ofNat kn)), .val (.int fi), .val (.ref b110), .val (.long (1 : Int64)), .second, .unset, .unset] [(.double (FP.i2d p5)), (.ref b110)])) rfl (by rw [hml]; rfl) (Steps.refl _) (argsL := [(.double (FP.i2d p5))]) (rest := []) (lenOf pd__28D_29V rfl) rfl (by show 2 * 0 + _ ≤ _; exact Nat.le_of_eq rfl) (hb hby at_93) (fun _ _ => ⟨rfl, rfl, (by decide : 3 + 0 ≤ _), (by decide : 4103 + 0 ≤ _)⟩)
    dsimp only [Pt.U, Pt.locs, Pt.cells, Pt.slots] at X309 l309 y309 z309 st309 hQ309
    subst l309 y309 z309
    obtain ⟨rfl, N309q, K309, x309_0, x309_1, x309_2, x309_3, x309_4⟩ := hQ309
    have N309 := Fr.app N304 N309q
    have z310 : n0 ≤ T309.heap.size := Nat.le_trans z305 K309.1
    have f311 : Exa Z T309.heap b110 "com/example/attacca/attacca/DecimatingBuffer" := (f306.keep K309)
    have f312 : Exa Z T309.heap l1_113 "java/util/ArrayList" := (f307.keep K309)
    have f313 : Fld Z T309.heap l1_113 "java/util/ArrayList" "size" "I" (.int (0 : Int32)) := (f308.keep K309 (own_nmc (Ne.symm ne114) (own_nmc x113_2 own_nm0)))
    obtain ⟨cq314, kq314, q314a, q314b, q314c⟩ := isOf hZ rfl f311
    obtain ⟨_, _, ⟨T314, L314, kk314, nn314⟩, -, X314, ⟨Lc314, hQ314, l314, y314, z314⟩, st314⟩ := X309.virtualBack hx (y := (⟨"com/example/attacca/attacca/DecimatingBuffer", "accept", "(D)V"⟩ : MethodName)) (z := (⟨"com/example/attacca/attacca/DecimatingBuffer", "accept", "(D)V"⟩ : MethodName)) hown (mvT hZ (hw _ (List.mem_of_getElem? (i := 60) rfl))) (mvT hZ (hw _ (List.mem_of_getElem? (i := 61) rfl))) (notFace_of_selects (args := #[]) (mvT hZ (hw _ (List.mem_of_getElem? (i := 63) rfl)))) (mvT hZ (hw _ (List.mem_of_getElem? (i := 63) rfl))) (mvT hZ (hw _ (List.mem_of_getElem? (i := 62) rfl))) (by decide) (backOf (W := 0) (rmacc l Z a0 hw [] b110 (FP.i2d (p3 ^^^ p4)) l1_113 v1_113 kv_113 cap ((((List.replicate 7 (Value.double 0)).set 0 (.double (FP.i2d p3))).set 1 (.double (FP.i2d p4))).set 2 (.double (FP.i2d p5))) 3 T309.heap n0 z310 f311 x309_0 x309_1 x309_2 x309_3 f312 f313 x309_4 g_b110 g_v1_113 ne115 ne114 x113_2 (hcap) (by decide) (by simp only [List.length_set, List.length_replicate])) hZ (hw _ (List.mem_of_getElem? (i := 64) rfl)) (hw _ (List.mem_of_getElem? (i := 2) rfl)) (by decide) (by decide)) q314a q314c (g := (mkF m 108 #[.val (.int p1), .val (.int p2), .val (.int p3), .val (.int p4), .val (.int p5), .val (.int cap), .val (.int (Int32.ofNat kn)), .val (.int fi), .val (.ref b110), .val (.long (1 : Int64)), .second, .unset, .unset] [(.double (FP.i2d (p3 ^^^ p4))), (.ref b110)])) rfl (by rw [hml]; rfl) (Steps.refl _) (argsL := [(.double (FP.i2d (p3 ^^^ p4)))]) (rest := []) (lenOf pd__28D_29V rfl) rfl (by show 2 * 0 + _ ≤ _; exact Nat.le_of_eq rfl) (hb hby at_108) (fun _ _ => ⟨rfl, rfl, (by decide : 3 + 0 ≤ _), (by decide : 4103 + 0 ≤ _)⟩)
    dsimp only [Pt.U, Pt.locs, Pt.cells, Pt.slots] at X314 l314 y314 z314 st314 hQ314
    subst l314 y314 z314
    obtain ⟨rfl, N314q, K314, x314_0, x314_1, x314_2, x314_3, x314_4⟩ := hQ314
    have N314 := Fr.app N309 N314q
    have z315 : n0 ≤ T314.heap.size := Nat.le_trans z310 K314.1
    have f316 : Exa Z T314.heap b110 "com/example/attacca/attacca/DecimatingBuffer" := (f311.keep K314)
    have f317 : Exa Z T314.heap l1_113 "java/util/ArrayList" := (f312.keep K314)
    have f318 : Fld Z T314.heap l1_113 "java/util/ArrayList" "size" "I" (.int (0 : Int32)) := (f313.keep K314 (own_nmc (Ne.symm ne114) (own_nmc x113_2 own_nm0)))
    obtain ⟨cq319, kq319, q319a, q319b, q319c⟩ := isOf hZ rfl f316
    obtain ⟨_, _, ⟨T319, L319, kk319, nn319⟩, -, X319, ⟨Lc319, hQ319, l319, y319, z319⟩, st319⟩ := X314.virtualBack hx (y := (⟨"com/example/attacca/attacca/DecimatingBuffer", "accept", "(D)V"⟩ : MethodName)) (z := (⟨"com/example/attacca/attacca/DecimatingBuffer", "accept", "(D)V"⟩ : MethodName)) hown (mvT hZ (hw _ (List.mem_of_getElem? (i := 60) rfl))) (mvT hZ (hw _ (List.mem_of_getElem? (i := 61) rfl))) (notFace_of_selects (args := #[]) (mvT hZ (hw _ (List.mem_of_getElem? (i := 63) rfl)))) (mvT hZ (hw _ (List.mem_of_getElem? (i := 63) rfl))) (mvT hZ (hw _ (List.mem_of_getElem? (i := 62) rfl))) (by decide) (backOf (W := 0) (rmacc l Z a0 hw [] b110 (FP.i2d (p4 - p5)) l1_113 v1_113 kv_113 cap (((((List.replicate 7 (Value.double 0)).set 0 (.double (FP.i2d p3))).set 1 (.double (FP.i2d p4))).set 2 (.double (FP.i2d p5))).set 3 (.double (FP.i2d (p3 ^^^ p4)))) 4 T314.heap n0 z315 f316 x314_0 x314_1 x314_2 x314_3 f317 f318 x314_4 g_b110 g_v1_113 ne115 ne114 x113_2 (hcap) (by decide) (by simp only [List.length_set, List.length_replicate])) hZ (hw _ (List.mem_of_getElem? (i := 64) rfl)) (hw _ (List.mem_of_getElem? (i := 2) rfl)) (by decide) (by decide)) q319a q319c (g := (mkF m 124 #[.val (.int p1), .val (.int p2), .val (.int p3), .val (.int p4), .val (.int p5), .val (.int cap), .val (.int (Int32.ofNat kn)), .val (.int fi), .val (.ref b110), .val (.long (1 : Int64)), .second, .unset, .unset] [(.double (FP.i2d (p4 - p5))), (.ref b110)])) rfl (by rw [hml]; rfl) (Steps.refl _) (argsL := [(.double (FP.i2d (p4 - p5)))]) (rest := []) (lenOf pd__28D_29V rfl) rfl (by show 2 * 0 + _ ≤ _; exact Nat.le_of_eq rfl) (hb hby at_124) (fun _ _ => ⟨rfl, rfl, (by decide : 3 + 0 ≤ _), (by decide : 4103 + 0 ≤ _)⟩)
    dsimp only [Pt.U, Pt.locs, Pt.cells, Pt.slots] at X319 l319 y319 z319 st319 hQ319
    subst l319 y319 z319
    obtain ⟨rfl, N319q, K319, x319_0, x319_1, x319_2, x319_3, x319_4⟩ := hQ319
    have N319 := Fr.app N314 N319q
    have z320 : n0 ≤ T319.heap.size := Nat.le_trans z315 K319.1
    have f321 : Exa Z T319.heap b110 "com/example/attacca/attacca/DecimatingBuffer" := (f316.keep K319)
    have f322 : Exa Z T319.heap l1_113 "java/util/ArrayList" := (f317.keep K319)
    have f323 : Fld Z T319.heap l1_113 "java/util/ArrayList" "size" "I" (.int (0 : Int32)) := (f318.keep K319 (own_nmc (Ne.symm ne114) (own_nmc x113_2 own_nm0)))
    obtain ⟨cq324, kq324, q324a, q324b, q324c⟩ := isOf hZ rfl f321
    obtain ⟨_, _, ⟨T324, L324, kk324, nn324⟩, -, X324, ⟨Lc324, hQ324, l324, y324, z324⟩, st324⟩ := X319.virtualBack hx (y := (⟨"com/example/attacca/attacca/DecimatingBuffer", "accept", "(D)V"⟩ : MethodName)) (z := (⟨"com/example/attacca/attacca/DecimatingBuffer", "accept", "(D)V"⟩ : MethodName)) hown (mvT hZ (hw _ (List.mem_of_getElem? (i := 60) rfl))) (mvT hZ (hw _ (List.mem_of_getElem? (i := 61) rfl))) (notFace_of_selects (args := #[]) (mvT hZ (hw _ (List.mem_of_getElem? (i := 63) rfl)))) (mvT hZ (hw _ (List.mem_of_getElem? (i := 63) rfl))) (mvT hZ (hw _ (List.mem_of_getElem? (i := 62) rfl))) (by decide) (backOf (W := 0) (rmacc l Z a0 hw [] b110 (FP.i2d (p3 &&& p5)) l1_113 v1_113 kv_113 cap ((((((List.replicate 7 (Value.double 0)).set 0 (.double (FP.i2d p3))).set 1 (.double (FP.i2d p4))).set 2 (.double (FP.i2d p5))).set 3 (.double (FP.i2d (p3 ^^^ p4)))).set 4 (.double (FP.i2d (p4 - p5)))) 5 T319.heap n0 z320 f321 x319_0 x319_1 x319_2 x319_3 f322 f323 x319_4 g_b110 g_v1_113 ne115 ne114 x113_2 (hcap) (by decide) (by simp only [List.length_set, List.length_replicate])) hZ (hw _ (List.mem_of_getElem? (i := 64) rfl)) (hw _ (List.mem_of_getElem? (i := 2) rfl)) (by decide) (by decide)) q324a q324c (g := (mkF m 140 #[.val (.int p1), .val (.int p2), .val (.int p3), .val (.int p4), .val (.int p5), .val (.int cap), .val (.int (Int32.ofNat kn)), .val (.int fi), .val (.ref b110), .val (.long (1 : Int64)), .second, .unset, .unset] [(.double (FP.i2d (p3 &&& p5))), (.ref b110)])) rfl (by rw [hml]; rfl) (Steps.refl _) (argsL := [(.double (FP.i2d (p3 &&& p5)))]) (rest := []) (lenOf pd__28D_29V rfl) rfl (by show 2 * 0 + _ ≤ _; exact Nat.le_of_eq rfl) (hb hby at_140) (fun _ _ => ⟨rfl, rfl, (by decide : 3 + 0 ≤ _), (by decide : 4103 + 0 ≤ _)⟩)
    dsimp only [Pt.U, Pt.locs, Pt.cells, Pt.slots] at X324 l324 y324 z324 st324 hQ324
    subst l324 y324 z324
    obtain ⟨rfl, N324q, K324, x324_0, x324_1, x324_2, x324_3, x324_4⟩ := hQ324
    have N324 := Fr.app N319 N324q
    have z325 : n0 ≤ T324.heap.size := Nat.le_trans z320 K324.1
    have f326 : Exa Z T324.heap b110 "com/example/attacca/attacca/DecimatingBuffer" := (f321.keep K324)
    have f327 : Exa Z T324.heap l1_113 "java/util/ArrayList" := (f322.keep K324)
    have f328 : Fld Z T324.heap l1_113 "java/util/ArrayList" "size" "I" (.int (0 : Int32)) := (f323.keep K324 (own_nmc (Ne.symm ne114) (own_nmc x113_2 own_nm0)))
    obtain ⟨cq329, kq329, q329a, q329b, q329c⟩ := isOf hZ rfl f326
    obtain ⟨_, _, ⟨T329, L329, kk329, nn329⟩, -, X329, ⟨Lc329, hQ329, l329, y329, z329⟩, st329⟩ := X324.virtualBack hx (y := (⟨"com/example/attacca/attacca/DecimatingBuffer", "accept", "(D)V"⟩ : MethodName)) (z := (⟨"com/example/attacca/attacca/DecimatingBuffer", "accept", "(D)V"⟩ : MethodName)) hown (mvT hZ (hw _ (List.mem_of_getElem? (i := 60) rfl))) (mvT hZ (hw _ (List.mem_of_getElem? (i := 61) rfl))) (notFace_of_selects (args := #[]) (mvT hZ (hw _ (List.mem_of_getElem? (i := 63) rfl)))) (mvT hZ (hw _ (List.mem_of_getElem? (i := 63) rfl))) (mvT hZ (hw _ (List.mem_of_getElem? (i := 62) rfl))) (by decide) (backOf (W := 0) (rmacc l Z a0 hw [] b110 (FP.i2d (p1 ||| p5)) l1_113 v1_113 kv_113 cap (((((((List.replicate 7 (Value.double 0)).set 0 (.double (FP.i2d p3))).set 1 (.double (FP.i2d p4))).set 2 (.double (FP.i2d p5))).set 3 (.double (FP.i2d (p3 ^^^ p4)))).set 4 (.double (FP.i2d (p4 - p5)))).set 5 (.double (FP.i2d (p3 &&& p5)))) 6 T324.heap n0 z325 f326 x324_0 x324_1 x324_2 x324_3 f327 f328 x324_4 g_b110 g_v1_113 ne115 ne114 x113_2 (hcap) (by decide) (by simp only [List.length_set, List.length_replicate])) hZ (hw _ (List.mem_of_getElem? (i := 64) rfl)) (hw _ (List.mem_of_getElem? (i := 2) rfl)) (by decide) (by decide)) q329a q329c (g := (mkF m 157 #[.val (.int p1), .val (.int p2), .val (.int p3), .val (.int p4), .val (.int p5), .val (.int cap), .val (.int (Int32.ofNat kn)), .val (.int fi), .val (.ref b110), .val (.long (1 : Int64)), .second, .unset, .unset] [(.double (FP.i2d (p1 ||| p5))), (.ref b110)])) rfl (by rw [hml]; rfl) (Steps.refl _) (argsL := [(.double (FP.i2d (p1 ||| p5)))]) (rest := []) (lenOf pd__28D_29V rfl) rfl (by show 2 * 0 + _ ≤ _; exact Nat.le_of_eq rfl) (hb hby at_157) (fun _ _ => ⟨rfl, rfl, (by decide : 3 + 0 ≤ _), (by decide : 4103 + 0 ≤ _)⟩)
    dsimp only [Pt.U, Pt.locs, Pt.cells, Pt.slots] at X329 l329 y329 z329 st329 hQ329
    subst l329 y329 z329
    obtain ⟨rfl, N329q, K329, x329_0, x329_1, x329_2, x329_3, x329_4⟩ := hQ329
    have N329 := Fr.app N324 N329q
    have z330 : n0 ≤ T329.heap.size := Nat.le_trans z325 K329.1
    have pre331 : ∀ t_, Steps p.tables e below (T329.setTop (mkF m 162 #[.val (.int p1), .val (.int p2), .val (.int p3), .val (.int p4), .val (.int p5), .val (.int cap), .val (.int (Int32.ofNat kn)), .val (.int fi), .val (.ref b110), .val (.long (1 : Int64)), .second, .unset, .unset] [(.int fi)])) t_ → Steps p.tables e below (s₁.setTop (entryFrame m #[(.int p1), (.int p2), (.int p3), (.int p4), (.int p5)] maxLocals)) t_ := fun t_ kt => pre119 t_ (by
        show Steps p.tables e below (T118.setTop (mkF m 59 #[.val (.int p1), .val (.int p2), .val (.int p3), .val (.int p4), .val (.int p5), .val (.int cap), .val (.int (Int32.ofNat kn)), .val (.int fi), .val (.ref b110), .val (.long (1 : Int64)), .second, .unset, .unset] [(.int (Int32.ofNat kn))])) _
        refine XS.ifNo X118.here hx rfl (hb hby at_59) rfl ((if0 _ _).trans (tlt (lt32 (i := 0) (n := kn) (by omega) (by omega) : (0 : Int32) < (Int32.ofNat kn))).2.2.2) ?_
        show Steps p.tables e below (T118.setTop (mkF m 62 #[.val (.int p1), .val (.int p2), .val (.int p3), .val (.int p4), .val (.int p5), .val (.int cap), .val (.int (Int32.ofNat kn)), .val (.int fi), .val (.ref b110), .val (.long (1 : Int64)), .second, .unset, .unset] [])) _
        refine XS.aload X118.here hx rfl (hb hby at_62) rfl rfl ?_
        show Steps p.tables e below (T118.setTop (mkF m 64 #[.val (.int p1), .val (.int p2), .val (.int p3), .val (.int p4), .val (.int p5), .val (.int cap), .val (.int (Int32.ofNat kn)), .val (.int fi), .val (.ref b110), .val (.long (1 : Int64)), .second, .unset, .unset] [(.ref b110)])) _
        refine XS.iloadN X118.here hx rfl (hb hby at_64) rfl ?_
        show Steps p.tables e below (T118.setTop (mkF m 65 #[.val (.int p1), .val (.int p2), .val (.int p3), .val (.int p4), .val (.int p5), .val (.int cap), .val (.int (Int32.ofNat kn)), .val (.int fi), .val (.ref b110), .val (.long (1 : Int64)), .second, .unset, .unset] [(.int p3), (.ref b110)])) _
        refine XS.i2dS X118.here hx rfl (hb hby at_65) rfl (v := (FP.i2d p3)) rfl ?_
        show Steps p.tables e below (T118.setTop (mkF m 66 #[.val (.int p1), .val (.int p2), .val (.int p3), .val (.int p4), .val (.int p5), .val (.int cap), .val (.int (Int32.ofNat kn)), .val (.int fi), .val (.ref b110), .val (.long (1 : Int64)), .second, .unset, .unset] [(.double (FP.i2d p3)), (.ref b110)])) _
        refine st299.trans ?_
        show Steps p.tables e below (T299.setTop (mkF m 69 #[.val (.int p1), .val (.int p2), .val (.int p3), .val (.int p4), .val (.int p5), .val (.int cap), .val (.int (Int32.ofNat kn)), .val (.int fi), .val (.ref b110), .val (.long (1 : Int64)), .second, .unset, .unset] [])) _
        refine XS.iload X299.here hx rfl (hb hby at_69) rfl ?_
        show Steps p.tables e below (T299.setTop (mkF m 71 #[.val (.int p1), .val (.int p2), .val (.int p3), .val (.int p4), .val (.int p5), .val (.int cap), .val (.int (Int32.ofNat kn)), .val (.int fi), .val (.ref b110), .val (.long (1 : Int64)), .second, .unset, .unset] [(.int (Int32.ofNat kn))])) _
        refine XS.iconst X299.here hx rfl (hb hby at_71) ?_
        show Steps p.tables e below (T299.setTop (mkF m 72 #[.val (.int p1), .val (.int p2), .val (.int p3), .val (.int p4), .val (.int p5), .val (.int cap), .val (.int (Int32.ofNat kn)), .val (.int fi), .val (.ref b110), .val (.long (1 : Int64)), .second, .unset, .unset] [(.int (1 : Int32)), (.int (Int32.ofNat kn))])) _
        refine XS.icmpNo X299.here hx rfl (hb hby at_72) rfl (tlt (lt32 (i := 1) (n := kn) (by omega) (by omega) : (1 : Int32) < (Int32.ofNat kn))).2.2.2 ?_
        show Steps p.tables e below (T299.setTop (mkF m 75 #[.val (.int p1), .val (.int p2), .val (.int p3), .val (.int p4), .val (.int p5), .val (.int cap), .val (.int (Int32.ofNat kn)), .val (.int fi), .val (.ref b110), .val (.long (1 : Int64)), .second, .unset, .unset] [])) _
        refine XS.aload X299.here hx rfl (hb hby at_75) rfl rfl ?_
        show Steps p.tables e below (T299.setTop (mkF m 77 #[.val (.int p1), .val (.int p2), .val (.int p3), .val (.int p4), .val (.int p5), .val (.int cap), .val (.int (Int32.ofNat kn)), .val (.int fi), .val (.ref b110), .val (.long (1 : Int64)), .second, .unset, .unset] [(.ref b110)])) _
        refine XS.iloadN X299.here hx rfl (hb hby at_77) rfl ?_
        show Steps p.tables e below (T299.setTop (mkF m 78 #[.val (.int p1), .val (.int p2), .val (.int p3), .val (.int p4), .val (.int p5), .val (.int cap), .val (.int (Int32.ofNat kn)), .val (.int fi), .val (.ref b110), .val (.long (1 : Int64)), .second, .unset, .unset] [(.int p4), (.ref b110)])) _
        refine XS.i2dS X299.here hx rfl (hb hby at_78) rfl (v := (FP.i2d p4)) rfl ?_
        show Steps p.tables e below (T299.setTop (mkF m 79 #[.val (.int p1), .val (.int p2), .val (.int p3), .val (.int p4), .val (.int p5), .val (.int cap), .val (.int (Int32.ofNat kn)), .val (.int fi), .val (.ref b110), .val (.long (1 : Int64)), .second, .unset, .unset] [(.double (FP.i2d p4)), (.ref b110)])) _
        refine st304.trans ?_
        show Steps p.tables e below (T304.setTop (mkF m 82 #[.val (.int p1), .val (.int p2), .val (.int p3), .val (.int p4), .val (.int p5), .val (.int cap), .val (.int (Int32.ofNat kn)), .val (.int fi), .val (.ref b110), .val (.long (1 : Int64)), .second, .unset, .unset] [])) _
        refine XS.iload X304.here hx rfl (hb hby at_82) rfl ?_
        show Steps p.tables e below (T304.setTop (mkF m 84 #[.val (.int p1), .val (.int p2), .val (.int p3), .val (.int p4), .val (.int p5), .val (.int cap), .val (.int (Int32.ofNat kn)), .val (.int fi), .val (.ref b110), .val (.long (1 : Int64)), .second, .unset, .unset] [(.int (Int32.ofNat kn))])) _
        refine XS.iconst X304.here hx rfl (hb hby at_84) ?_
        show Steps p.tables e below (T304.setTop (mkF m 85 #[.val (.int p1), .val (.int p2), .val (.int p3), .val (.int p4), .val (.int p5), .val (.int cap), .val (.int (Int32.ofNat kn)), .val (.int fi), .val (.ref b110), .val (.long (1 : Int64)), .second, .unset, .unset] [(.int (2 : Int32)), (.int (Int32.ofNat kn))])) _
        refine XS.icmpNo X304.here hx rfl (hb hby at_85) rfl (tlt (lt32 (i := 2) (n := kn) (by omega) (by omega) : (2 : Int32) < (Int32.ofNat kn))).2.2.2 ?_
        show Steps p.tables e below (T304.setTop (mkF m 88 #[.val (.int p1), .val (.int p2), .val (.int p3), .val (.int p4), .val (.int p5), .val (.int cap), .val (.int (Int32.ofNat kn)), .val (.int fi), .val (.ref b110), .val (.long (1 : Int64)), .second, .unset, .unset] [])) _
        refine XS.aload X304.here hx rfl (hb hby at_88) rfl rfl ?_
        show Steps p.tables e below (T304.setTop (mkF m 90 #[.val (.int p1), .val (.int p2), .val (.int p3), .val (.int p4), .val (.int p5), .val (.int cap), .val (.int (Int32.ofNat kn)), .val (.int fi), .val (.ref b110), .val (.long (1 : Int64)), .second, .unset, .unset] [(.ref b110)])) _
        refine XS.iload X304.here hx rfl (hb hby at_90) rfl ?_
        show Steps p.tables e below (T304.setTop (mkF m 92 #[.val (.int p1), .val (.int p2), .val (.int p3), .val (.int p4), .val (.int p5), .val (.int cap), .val (.int (Int32.ofNat kn)), .val (.int fi), .val (.ref b110), .val (.long (1 : Int64)), .second, .unset, .unset] [(.int p5), (.ref b110)])) _
        refine XS.i2dS X304.here hx rfl (hb hby at_92) rfl (v := (FP.i2d p5)) rfl ?_
        show Steps p.tables e below (T304.setTop (mkF m 93 #[.val (.int p1), .val (.int p2), .val (.int p3), .val (.int p4), .val (.int p5), .val (.int cap), .val (.int (Int32.ofNat kn)), .val (.int fi), .val (.ref b110), .val (.long (1 : Int64)), .second, .unset, .unset] [(.double (FP.i2d p5)), (.ref b110)])) _
        refine st309.trans ?_
        show Steps p.tables e below (T309.setTop (mkF m 96 #[.val (.int p1), .val (.int p2), .val (.int p3), .val (.int p4), .val (.int p5), .val (.int cap), .val (.int (Int32.ofNat kn)), .val (.int fi), .val (.ref b110), .val (.long (1 : Int64)), .second, .unset, .unset] [])) _
        refine XS.iload X309.here hx rfl (hb hby at_96) rfl ?_
        show Steps p.tables e below (T309.setTop (mkF m 98 #[.val (.int p1), .val (.int p2), .val (.int p3), .val (.int p4), .val (.int p5), .val (.int cap), .val (.int (Int32.ofNat kn)), .val (.int fi), .val (.ref b110), .val (.long (1 : Int64)), .second, .unset, .unset] [(.int (Int32.ofNat kn))])) _
        refine XS.iconst X309.here hx rfl (hb hby at_98) ?_
        show Steps p.tables e below (T309.setTop (mkF m 99 #[.val (.int p1), .val (.int p2), .val (.int p3), .val (.int p4), .val (.int p5), .val (.int cap), .val (.int (Int32.ofNat kn)), .val (.int fi), .val (.ref b110), .val (.long (1 : Int64)), .second, .unset, .unset] [(.int (3 : Int32)), (.int (Int32.ofNat kn))])) _
        refine XS.icmpNo X309.here hx rfl (hb hby at_99) rfl (tlt (lt32 (i := 3) (n := kn) (by omega) (by omega) : (3 : Int32) < (Int32.ofNat kn))).2.2.2 ?_
        show Steps p.tables e below (T309.setTop (mkF m 102 #[.val (.int p1), .val (.int p2), .val (.int p3), .val (.int p4), .val (.int p5), .val (.int cap), .val (.int (Int32.ofNat kn)), .val (.int fi), .val (.ref b110), .val (.long (1 : Int64)), .second, .unset, .unset] [])) _
        refine XS.aload X309.here hx rfl (hb hby at_102) rfl rfl ?_
        show Steps p.tables e below (T309.setTop (mkF m 104 #[.val (.int p1), .val (.int p2), .val (.int p3), .val (.int p4), .val (.int p5), .val (.int cap), .val (.int (Int32.ofNat kn)), .val (.int fi), .val (.ref b110), .val (.long (1 : Int64)), .second, .unset, .unset] [(.ref b110)])) _
        refine XS.iloadN X309.here hx rfl (hb hby at_104) rfl ?_
        show Steps p.tables e below (T309.setTop (mkF m 105 #[.val (.int p1), .val (.int p2), .val (.int p3), .val (.int p4), .val (.int p5), .val (.int cap), .val (.int (Int32.ofNat kn)), .val (.int fi), .val (.ref b110), .val (.long (1 : Int64)), .second, .unset, .unset] [(.int p3), (.ref b110)])) _
        refine XS.iloadN X309.here hx rfl (hb hby at_105) rfl ?_
        show Steps p.tables e below (T309.setTop (mkF m 106 #[.val (.int p1), .val (.int p2), .val (.int p3), .val (.int p4), .val (.int p5), .val (.int cap), .val (.int (Int32.ofNat kn)), .val (.int fi), .val (.ref b110), .val (.long (1 : Int64)), .second, .unset, .unset] [(.int p4), (.int p3), (.ref b110)])) _
        refine XS.ixor X309.here hx rfl (hb hby at_106) rfl ?_
        show Steps p.tables e below (T309.setTop (mkF m 107 #[.val (.int p1), .val (.int p2), .val (.int p3), .val (.int p4), .val (.int p5), .val (.int cap), .val (.int (Int32.ofNat kn)), .val (.int fi), .val (.ref b110), .val (.long (1 : Int64)), .second, .unset, .unset] [(.int (p3 ^^^ p4)), (.ref b110)])) _
        refine XS.i2dS X309.here hx rfl (hb hby at_107) rfl (v := (FP.i2d (p3 ^^^ p4))) rfl ?_
        show Steps p.tables e below (T309.setTop (mkF m 108 #[.val (.int p1), .val (.int p2), .val (.int p3), .val (.int p4), .val (.int p5), .val (.int cap), .val (.int (Int32.ofNat kn)), .val (.int fi), .val (.ref b110), .val (.long (1 : Int64)), .second, .unset, .unset] [(.double (FP.i2d (p3 ^^^ p4))), (.ref b110)])) _
        refine st314.trans ?_
        show Steps p.tables e below (T314.setTop (mkF m 111 #[.val (.int p1), .val (.int p2), .val (.int p3), .val (.int p4), .val (.int p5), .val (.int cap), .val (.int (Int32.ofNat kn)), .val (.int fi), .val (.ref b110), .val (.long (1 : Int64)), .second, .unset, .unset] [])) _
        refine XS.iload X314.here hx rfl (hb hby at_111) rfl ?_
        show Steps p.tables e below (T314.setTop (mkF m 113 #[.val (.int p1), .val (.int p2), .val (.int p3), .val (.int p4), .val (.int p5), .val (.int cap), .val (.int (Int32.ofNat kn)), .val (.int fi), .val (.ref b110), .val (.long (1 : Int64)), .second, .unset, .unset] [(.int (Int32.ofNat kn))])) _
        refine XS.iconst X314.here hx rfl (hb hby at_113) ?_
        show Steps p.tables e below (T314.setTop (mkF m 114 #[.val (.int p1), .val (.int p2), .val (.int p3), .val (.int p4), .val (.int p5), .val (.int cap), .val (.int (Int32.ofNat kn)), .val (.int fi), .val (.ref b110), .val (.long (1 : Int64)), .second, .unset, .unset] [(.int (4 : Int32)), (.int (Int32.ofNat kn))])) _
        refine XS.icmpNo X314.here hx rfl (hb hby at_114) rfl (tlt (lt32 (i := 4) (n := kn) (by omega) (by omega) : (4 : Int32) < (Int32.ofNat kn))).2.2.2 ?_
        show Steps p.tables e below (T314.setTop (mkF m 117 #[.val (.int p1), .val (.int p2), .val (.int p3), .val (.int p4), .val (.int p5), .val (.int cap), .val (.int (Int32.ofNat kn)), .val (.int fi), .val (.ref b110), .val (.long (1 : Int64)), .second, .unset, .unset] [])) _
        refine XS.aload X314.here hx rfl (hb hby at_117) rfl rfl ?_
        show Steps p.tables e below (T314.setTop (mkF m 119 #[.val (.int p1), .val (.int p2), .val (.int p3), .val (.int p4), .val (.int p5), .val (.int cap), .val (.int (Int32.ofNat kn)), .val (.int fi), .val (.ref b110), .val (.long (1 : Int64)), .second, .unset, .unset] [(.ref b110)])) _
        refine XS.iloadN X314.here hx rfl (hb hby at_119) rfl ?_
        show Steps p.tables e below (T314.setTop (mkF m 120 #[.val (.int p1), .val (.int p2), .val (.int p3), .val (.int p4), .val (.int p5), .val (.int cap), .val (.int (Int32.ofNat kn)), .val (.int fi), .val (.ref b110), .val (.long (1 : Int64)), .second, .unset, .unset] [(.int p4), (.ref b110)])) _
        refine XS.iload X314.here hx rfl (hb hby at_120) rfl ?_
        show Steps p.tables e below (T314.setTop (mkF m 122 #[.val (.int p1), .val (.int p2), .val (.int p3), .val (.int p4), .val (.int p5), .val (.int cap), .val (.int (Int32.ofNat kn)), .val (.int fi), .val (.ref b110), .val (.long (1 : Int64)), .second, .unset, .unset] [(.int p5), (.int p4), (.ref b110)])) _
        refine XS.isub X314.here hx rfl (hb hby at_122) rfl ?_
        show Steps p.tables e below (T314.setTop (mkF m 123 #[.val (.int p1), .val (.int p2), .val (.int p3), .val (.int p4), .val (.int p5), .val (.int cap), .val (.int (Int32.ofNat kn)), .val (.int fi), .val (.ref b110), .val (.long (1 : Int64)), .second, .unset, .unset] [(.int (p4 - p5)), (.ref b110)])) _
        refine XS.i2dS X314.here hx rfl (hb hby at_123) rfl (v := (FP.i2d (p4 - p5))) rfl ?_
        show Steps p.tables e below (T314.setTop (mkF m 124 #[.val (.int p1), .val (.int p2), .val (.int p3), .val (.int p4), .val (.int p5), .val (.int cap), .val (.int (Int32.ofNat kn)), .val (.int fi), .val (.ref b110), .val (.long (1 : Int64)), .second, .unset, .unset] [(.double (FP.i2d (p4 - p5))), (.ref b110)])) _
        refine st319.trans ?_
        show Steps p.tables e below (T319.setTop (mkF m 127 #[.val (.int p1), .val (.int p2), .val (.int p3), .val (.int p4), .val (.int p5), .val (.int cap), .val (.int (Int32.ofNat kn)), .val (.int fi), .val (.ref b110), .val (.long (1 : Int64)), .second, .unset, .unset] [])) _
        refine XS.iload X319.here hx rfl (hb hby at_127) rfl ?_
        show Steps p.tables e below (T319.setTop (mkF m 129 #[.val (.int p1), .val (.int p2), .val (.int p3), .val (.int p4), .val (.int p5), .val (.int cap), .val (.int (Int32.ofNat kn)), .val (.int fi), .val (.ref b110), .val (.long (1 : Int64)), .second, .unset, .unset] [(.int (Int32.ofNat kn))])) _
        refine XS.iconst X319.here hx rfl (hb hby at_129) ?_
        show Steps p.tables e below (T319.setTop (mkF m 130 #[.val (.int p1), .val (.int p2), .val (.int p3), .val (.int p4), .val (.int p5), .val (.int cap), .val (.int (Int32.ofNat kn)), .val (.int fi), .val (.ref b110), .val (.long (1 : Int64)), .second, .unset, .unset] [(.int (5 : Int32)), (.int (Int32.ofNat kn))])) _
        refine XS.icmpNo X319.here hx rfl (hb hby at_130) rfl (tlt (lt32 (i := 5) (n := kn) (by omega) (by omega) : (5 : Int32) < (Int32.ofNat kn))).2.2.2 ?_
        show Steps p.tables e below (T319.setTop (mkF m 133 #[.val (.int p1), .val (.int p2), .val (.int p3), .val (.int p4), .val (.int p5), .val (.int cap), .val (.int (Int32.ofNat kn)), .val (.int fi), .val (.ref b110), .val (.long (1 : Int64)), .second, .unset, .unset] [])) _
        refine XS.aload X319.here hx rfl (hb hby at_133) rfl rfl ?_
        show Steps p.tables e below (T319.setTop (mkF m 135 #[.val (.int p1), .val (.int p2), .val (.int p3), .val (.int p4), .val (.int p5), .val (.int cap), .val (.int (Int32.ofNat kn)), .val (.int fi), .val (.ref b110), .val (.long (1 : Int64)), .second, .unset, .unset] [(.ref b110)])) _
        refine XS.iloadN X319.here hx rfl (hb hby at_135) rfl ?_
        show Steps p.tables e below (T319.setTop (mkF m 136 #[.val (.int p1), .val (.int p2), .val (.int p3), .val (.int p4), .val (.int p5), .val (.int cap), .val (.int (Int32.ofNat kn)), .val (.int fi), .val (.ref b110), .val (.long (1 : Int64)), .second, .unset, .unset] [(.int p3), (.ref b110)])) _
        refine XS.iload X319.here hx rfl (hb hby at_136) rfl ?_
        show Steps p.tables e below (T319.setTop (mkF m 138 #[.val (.int p1), .val (.int p2), .val (.int p3), .val (.int p4), .val (.int p5), .val (.int cap), .val (.int (Int32.ofNat kn)), .val (.int fi), .val (.ref b110), .val (.long (1 : Int64)), .second, .unset, .unset] [(.int p5), (.int p3), (.ref b110)])) _
        refine XS.iand X319.here hx rfl (hb hby at_138) rfl ?_
        show Steps p.tables e below (T319.setTop (mkF m 139 #[.val (.int p1), .val (.int p2), .val (.int p3), .val (.int p4), .val (.int p5), .val (.int cap), .val (.int (Int32.ofNat kn)), .val (.int fi), .val (.ref b110), .val (.long (1 : Int64)), .second, .unset, .unset] [(.int (p3 &&& p5)), (.ref b110)])) _
        refine XS.i2dS X319.here hx rfl (hb hby at_139) rfl (v := (FP.i2d (p3 &&& p5))) rfl ?_
        show Steps p.tables e below (T319.setTop (mkF m 140 #[.val (.int p1), .val (.int p2), .val (.int p3), .val (.int p4), .val (.int p5), .val (.int cap), .val (.int (Int32.ofNat kn)), .val (.int fi), .val (.ref b110), .val (.long (1 : Int64)), .second, .unset, .unset] [(.double (FP.i2d (p3 &&& p5))), (.ref b110)])) _
        refine st324.trans ?_
        show Steps p.tables e below (T324.setTop (mkF m 143 #[.val (.int p1), .val (.int p2), .val (.int p3), .val (.int p4), .val (.int p5), .val (.int cap), .val (.int (Int32.ofNat kn)), .val (.int fi), .val (.ref b110), .val (.long (1 : Int64)), .second, .unset, .unset] [])) _
        refine XS.iload X324.here hx rfl (hb hby at_143) rfl ?_
        show Steps p.tables e below (T324.setTop (mkF m 145 #[.val (.int p1), .val (.int p2), .val (.int p3), .val (.int p4), .val (.int p5), .val (.int cap), .val (.int (Int32.ofNat kn)), .val (.int fi), .val (.ref b110), .val (.long (1 : Int64)), .second, .unset, .unset] [(.int (Int32.ofNat kn))])) _
        refine XS.bipush X324.here hx rfl (hb hby at_145) ?_
        show Steps p.tables e below (T324.setTop (mkF m 147 #[.val (.int p1), .val (.int p2), .val (.int p3), .val (.int p4), .val (.int p5), .val (.int cap), .val (.int (Int32.ofNat kn)), .val (.int fi), .val (.ref b110), .val (.long (1 : Int64)), .second, .unset, .unset] [(.int (6 : Int32)), (.int (Int32.ofNat kn))])) _
        refine XS.icmpNo X324.here hx rfl (hb hby at_147) rfl (tlt (lt32 (i := 6) (n := kn) (by omega) (by omega) : (6 : Int32) < (Int32.ofNat kn))).2.2.2 ?_
        show Steps p.tables e below (T324.setTop (mkF m 150 #[.val (.int p1), .val (.int p2), .val (.int p3), .val (.int p4), .val (.int p5), .val (.int cap), .val (.int (Int32.ofNat kn)), .val (.int fi), .val (.ref b110), .val (.long (1 : Int64)), .second, .unset, .unset] [])) _
        refine XS.aload X324.here hx rfl (hb hby at_150) rfl rfl ?_
        show Steps p.tables e below (T324.setTop (mkF m 152 #[.val (.int p1), .val (.int p2), .val (.int p3), .val (.int p4), .val (.int p5), .val (.int cap), .val (.int (Int32.ofNat kn)), .val (.int fi), .val (.ref b110), .val (.long (1 : Int64)), .second, .unset, .unset] [(.ref b110)])) _
        refine XS.iloadN X324.here hx rfl (hb hby at_152) rfl ?_
        show Steps p.tables e below (T324.setTop (mkF m 153 #[.val (.int p1), .val (.int p2), .val (.int p3), .val (.int p4), .val (.int p5), .val (.int cap), .val (.int (Int32.ofNat kn)), .val (.int fi), .val (.ref b110), .val (.long (1 : Int64)), .second, .unset, .unset] [(.int p1), (.ref b110)])) _
        refine XS.iload X324.here hx rfl (hb hby at_153) rfl ?_
        show Steps p.tables e below (T324.setTop (mkF m 155 #[.val (.int p1), .val (.int p2), .val (.int p3), .val (.int p4), .val (.int p5), .val (.int cap), .val (.int (Int32.ofNat kn)), .val (.int fi), .val (.ref b110), .val (.long (1 : Int64)), .second, .unset, .unset] [(.int p5), (.int p1), (.ref b110)])) _
        refine XS.ior X324.here hx rfl (hb hby at_155) rfl ?_
        show Steps p.tables e below (T324.setTop (mkF m 156 #[.val (.int p1), .val (.int p2), .val (.int p3), .val (.int p4), .val (.int p5), .val (.int cap), .val (.int (Int32.ofNat kn)), .val (.int fi), .val (.ref b110), .val (.long (1 : Int64)), .second, .unset, .unset] [(.int (p1 ||| p5)), (.ref b110)])) _
        refine XS.i2dS X324.here hx rfl (hb hby at_156) rfl (v := (FP.i2d (p1 ||| p5))) rfl ?_
        show Steps p.tables e below (T324.setTop (mkF m 157 #[.val (.int p1), .val (.int p2), .val (.int p3), .val (.int p4), .val (.int p5), .val (.int cap), .val (.int (Int32.ofNat kn)), .val (.int fi), .val (.ref b110), .val (.long (1 : Int64)), .second, .unset, .unset] [(.double (FP.i2d (p1 ||| p5))), (.ref b110)])) _
        refine st329.trans ?_
        show Steps p.tables e below (T329.setTop (mkF m 160 #[.val (.int p1), .val (.int p2), .val (.int p3), .val (.int p4), .val (.int p5), .val (.int cap), .val (.int (Int32.ofNat kn)), .val (.int fi), .val (.ref b110), .val (.long (1 : Int64)), .second, .unset, .unset] [])) _
        refine XS.iload X329.here hx rfl (hb hby at_160) rfl ?_
        exact kt)
    by_cases hF : fi = (0 : Int32)
    · skip
      have f332 : Exa Z T329.heap b110 "com/example/attacca/attacca/DecimatingBuffer" := (f326.keep K329)
      have f333 : Exa Z T329.heap l1_113 "java/util/ArrayList" := (f327.keep K329)
      have f334 : Fld Z T329.heap l1_113 "java/util/ArrayList" "size" "I" (.int (0 : Int32)) := (f328.keep K329 (own_nmc (Ne.symm ne114) (own_nmc x113_2 own_nm0)))
      obtain ⟨cq335, kq335, q335a, q335b, q335c⟩ := isOf hZ rfl f332
      obtain ⟨_, _, ⟨T335, L335, kk335, nn335⟩, -, X335, ⟨Lc335, hQ335, l335, y335, z335⟩, st335⟩ := X329.virtualBack hx (y := (⟨"com/example/attacca/attacca/DecimatingBuffer", "stride", "()J"⟩ : MethodName)) (z := (⟨"com/example/attacca/attacca/DecimatingBuffer", "stride", "()J"⟩ : MethodName)) hown (mvT hZ (hw _ (List.mem_of_getElem? (i := 44) rfl))) (mvT hZ (hw _ (List.mem_of_getElem? (i := 45) rfl))) (notFace_of_selects (args := #[]) (mvT hZ (hw _ (List.mem_of_getElem? (i := 47) rfl)))) (mvT hZ (hw _ (List.mem_of_getElem? (i := 47) rfl))) (mvT hZ (hw _ (List.mem_of_getElem? (i := 46) rfl))) (by decide) (backOf (W := 0) (rmstride l Z a0 hw [] b110 l1_113 T329.heap n0 z330 f332 x329_0 f333 f334) hZ (hw _ (List.mem_of_getElem? (i := 48) rfl)) (hw _ (List.mem_of_getElem? (i := 2) rfl)) (by decide) (by decide)) q335a q335c (g := (mkF m 172 #[.val (.int p1), .val (.int p2), .val (.int p3), .val (.int p4), .val (.int p5), .val (.int cap), .val (.int (Int32.ofNat kn)), .val (.int fi), .val (.ref b110), .val (.long (1 : Int64)), .second, .unset, .unset] [(.ref b110)])) rfl (by rw [hml]; rfl) (Steps.refl _) (argsL := []) (rest := []) (lenOf pd__28_29J rfl) rfl (by show 2 * 0 + _ ≤ _; exact Nat.le_of_eq rfl) (hb hby at_172) (fun _ _ => ⟨rfl, rfl, (by decide : 3 + 0 ≤ _), (by decide : 4103 + 0 ≤ _)⟩)
      dsimp only [Pt.U, Pt.locs, Pt.cells, Pt.slots] at X335 l335 y335 z335 st335 hQ335
      subst l335 y335 z335
      obtain ⟨rfl, N335q, e335⟩ := hQ335
      have N335 := Fr.app N329 N335q
      obtain ⟨cq336, kq336, q336a, q336b, q336c⟩ := isOf hZ e335 f332
      obtain ⟨_, _, ⟨T336, L336, kk336, nn336⟩, -, X336, ⟨Lc336, hQ336, l336, y336, z336⟩, st336⟩ := X335.virtualBack hx (y := (⟨"com/example/attacca/attacca/DecimatingBuffer", "count", "()I"⟩ : MethodName)) (z := (⟨"com/example/attacca/attacca/DecimatingBuffer", "count", "()I"⟩ : MethodName)) hown (mvT hZ (hw _ (List.mem_of_getElem? (i := 71) rfl))) (mvT hZ (hw _ (List.mem_of_getElem? (i := 72) rfl))) (notFace_of_selects (args := #[]) (mvT hZ (hw _ (List.mem_of_getElem? (i := 74) rfl)))) (mvT hZ (hw _ (List.mem_of_getElem? (i := 74) rfl))) (mvT hZ (hw _ (List.mem_of_getElem? (i := 73) rfl))) (by decide) (backOf (W := 0) (rmcount l Z a0 hw [] b110 7 T329.heap n0 z330 f332 x329_3) hZ (hw _ (List.mem_of_getElem? (i := 75) rfl)) (hw _ (List.mem_of_getElem? (i := 2) rfl)) (by decide) (by decide)) q336a q336c (g := (mkF m 193 #[.val (.int p1), .val (.int p2), .val (.int p3), .val (.int p4), .val (.int p5), .val (.int cap), .val (.int (Int32.ofNat kn)), .val (.int fi), .val (.ref b110), .val (.long (1 : Int64)), .second, .val (.long (1 : Int64)), .second] [(.ref b110)])) rfl (by rw [hml]; rfl) (Steps.refl _) (argsL := []) (rest := []) (lenOf pd__28_29I rfl) rfl (by show 2 * 0 + _ ≤ _; exact Nat.le_of_eq rfl) (hb hby at_193) (fun _ _ => ⟨rfl, e335, (by decide : 3 + 0 ≤ _), (by decide : 4103 + 0 ≤ _)⟩)
      dsimp only [Pt.U, Pt.locs, Pt.cells, Pt.slots] at X336 l336 y336 z336 st336 hQ336
      subst l336 y336 z336
      obtain ⟨rfl, N336q, e336⟩ := hQ336
      have N336 := Fr.app N335 N336q
      have pre337 : ∀ t_, Steps p.tables e below (T336.setTop (mkF m 206 #[.val (.int p1), .val (.int p2), .val (.int p3), .val (.int p4), .val (.int p5), .val (.int cap), .val (.int (Int32.ofNat kn)), .val (.int fi), .val (.ref b110), .val (.long (1 : Int64)), .second, .val (.long (1 : Int64)), .second] [(.int (1 : Int32))])) t_ → Steps p.tables e below (s₁.setTop (entryFrame m #[(.int p1), (.int p2), (.int p3), (.int p4), (.int p5)] maxLocals)) t_ := fun t_ kt => pre331 t_ (by
          show Steps p.tables e below (T329.setTop (mkF m 162 #[.val (.int p1), .val (.int p2), .val (.int p3), .val (.int p4), .val (.int p5), .val (.int cap), .val (.int (Int32.ofNat kn)), .val (.int fi), .val (.ref b110), .val (.long (1 : Int64)), .second, .unset, .unset] [(.int fi)])) _
          refine XS.ifYes X329.here hx rfl (pc0 := 162) (pc' := 170) rfl (hb hby at_162) rfl ((if0 _ _).trans (teq (hF : fi = (0 : Int32))).1) (by decide) (by decide) ?_
          show Steps p.tables e below (T329.setTop (mkF m 170 #[.val (.int p1), .val (.int p2), .val (.int p3), .val (.int p4), .val (.int p5), .val (.int cap), .val (.int (Int32.ofNat kn)), .val (.int fi), .val (.ref b110), .val (.long (1 : Int64)), .second, .unset, .unset] [])) _
          refine XS.aload X329.here hx rfl (hb hby at_170) rfl rfl ?_
          show Steps p.tables e below (T329.setTop (mkF m 172 #[.val (.int p1), .val (.int p2), .val (.int p3), .val (.int p4), .val (.int p5), .val (.int cap), .val (.int (Int32.ofNat kn)), .val (.int fi), .val (.ref b110), .val (.long (1 : Int64)), .second, .unset, .unset] [(.ref b110)])) _
          refine st335.trans ?_
          show Steps p.tables e below (T335.setTop (mkF m 175 #[.val (.int p1), .val (.int p2), .val (.int p3), .val (.int p4), .val (.int p5), .val (.int cap), .val (.int (Int32.ofNat kn)), .val (.int fi), .val (.ref b110), .val (.long (1 : Int64)), .second, .unset, .unset] [(.long (1 : Int64))])) _
          refine XS.lstore X335.here hx rfl (hb hby at_175) rfl (l' := #[.val (.int p1), .val (.int p2), .val (.int p3), .val (.int p4), .val (.int p5), .val (.int cap), .val (.int (Int32.ofNat kn)), .val (.int fi), .val (.ref b110), .val (.long (1 : Int64)), .second, .val (.long (1 : Int64)), .second]) rfl ?_
          show Steps p.tables e below (T335.setTop (mkF m 177 #[.val (.int p1), .val (.int p2), .val (.int p3), .val (.int p4), .val (.int p5), .val (.int cap), .val (.int (Int32.ofNat kn)), .val (.int fi), .val (.ref b110), .val (.long (1 : Int64)), .second, .val (.long (1 : Int64)), .second] [])) _
          refine XS.lload X335.here hx rfl (hb hby at_177) rfl ?_
          show Steps p.tables e below (T335.setTop (mkF m 179 #[.val (.int p1), .val (.int p2), .val (.int p3), .val (.int p4), .val (.int p5), .val (.int cap), .val (.int (Int32.ofNat kn)), .val (.int fi), .val (.ref b110), .val (.long (1 : Int64)), .second, .val (.long (1 : Int64)), .second] [(.long (1 : Int64))])) _
          refine XS.lconst X335.here hx rfl (hb hby at_179) ?_
          show Steps p.tables e below (T335.setTop (mkF m 180 #[.val (.int p1), .val (.int p2), .val (.int p3), .val (.int p4), .val (.int p5), .val (.int cap), .val (.int (Int32.ofNat kn)), .val (.int fi), .val (.ref b110), .val (.long (1 : Int64)), .second, .val (.long (1 : Int64)), .second] [(.long (1 : Int64)), (.long (1 : Int64))])) _
          refine XS.lcmp X335.here hx rfl (hb hby at_180) rfl ?_
          show Steps p.tables e below (T335.setTop (mkF m 181 #[.val (.int p1), .val (.int p2), .val (.int p3), .val (.int p4), .val (.int p5), .val (.int cap), .val (.int (Int32.ofNat kn)), .val (.int fi), .val (.ref b110), .val (.long (1 : Int64)), .second, .val (.long (1 : Int64)), .second] [(.int (lcmpW (1 : Int64) (1 : Int64)))])) _
          refine XS.ifNo X335.here hx rfl (hb hby at_181) rfl ((if0 _ _).trans (teq ((by decide) : (lcmpW (1 : Int64) (1 : Int64)) = (0 : Int32))).2) ?_
          show Steps p.tables e below (T335.setTop (mkF m 184 #[.val (.int p1), .val (.int p2), .val (.int p3), .val (.int p4), .val (.int p5), .val (.int cap), .val (.int (Int32.ofNat kn)), .val (.int fi), .val (.ref b110), .val (.long (1 : Int64)), .second, .val (.long (1 : Int64)), .second] [])) _
          refine XS.lload X335.here hx rfl (hb hby at_184) rfl ?_
          show Steps p.tables e below (T335.setTop (mkF m 186 #[.val (.int p1), .val (.int p2), .val (.int p3), .val (.int p4), .val (.int p5), .val (.int cap), .val (.int (Int32.ofNat kn)), .val (.int fi), .val (.ref b110), .val (.long (1 : Int64)), .second, .val (.long (1 : Int64)), .second] [(.long (1 : Int64))])) _
          refine XS.lconst X335.here hx rfl (hb hby at_186) ?_
          show Steps p.tables e below (T335.setTop (mkF m 187 #[.val (.int p1), .val (.int p2), .val (.int p3), .val (.int p4), .val (.int p5), .val (.int cap), .val (.int (Int32.ofNat kn)), .val (.int fi), .val (.ref b110), .val (.long (1 : Int64)), .second, .val (.long (1 : Int64)), .second] [(.long (1 : Int64)), (.long (1 : Int64))])) _
          refine XS.lcmp X335.here hx rfl (hb hby at_187) rfl ?_
          show Steps p.tables e below (T335.setTop (mkF m 188 #[.val (.int p1), .val (.int p2), .val (.int p3), .val (.int p4), .val (.int p5), .val (.int cap), .val (.int (Int32.ofNat kn)), .val (.int fi), .val (.ref b110), .val (.long (1 : Int64)), .second, .val (.long (1 : Int64)), .second] [(.int (lcmpW (1 : Int64) (1 : Int64)))])) _
          refine XS.ifNo X335.here hx rfl (hb hby at_188) rfl ((if0 _ _).trans (teq ((by decide) : (lcmpW (1 : Int64) (1 : Int64)) = (0 : Int32))).2) ?_
          show Steps p.tables e below (T335.setTop (mkF m 191 #[.val (.int p1), .val (.int p2), .val (.int p3), .val (.int p4), .val (.int p5), .val (.int cap), .val (.int (Int32.ofNat kn)), .val (.int fi), .val (.ref b110), .val (.long (1 : Int64)), .second, .val (.long (1 : Int64)), .second] [])) _
          refine XS.aload X335.here hx rfl (hb hby at_191) rfl rfl ?_
          show Steps p.tables e below (T335.setTop (mkF m 193 #[.val (.int p1), .val (.int p2), .val (.int p3), .val (.int p4), .val (.int p5), .val (.int cap), .val (.int (Int32.ofNat kn)), .val (.int fi), .val (.ref b110), .val (.long (1 : Int64)), .second, .val (.long (1 : Int64)), .second] [(.ref b110)])) _
          refine st336.trans ?_
          show Steps p.tables e below (T336.setTop (mkF m 196 #[.val (.int p1), .val (.int p2), .val (.int p3), .val (.int p4), .val (.int p5), .val (.int cap), .val (.int (Int32.ofNat kn)), .val (.int fi), .val (.ref b110), .val (.long (1 : Int64)), .second, .val (.long (1 : Int64)), .second] [(.int (Int32.ofNat 7))])) _
          refine XS.iload X336.here hx rfl (hb hby at_196) rfl ?_
          show Steps p.tables e below (T336.setTop (mkF m 198 #[.val (.int p1), .val (.int p2), .val (.int p3), .val (.int p4), .val (.int p5), .val (.int cap), .val (.int (Int32.ofNat kn)), .val (.int fi), .val (.ref b110), .val (.long (1 : Int64)), .second, .val (.long (1 : Int64)), .second] [(.int (Int32.ofNat kn)), (.int (Int32.ofNat 7))])) _
          refine XS.icmpNo X336.here hx rfl (hb hby at_198) rfl (teq ((congrArg Int32.ofNat hj.symm) : (Int32.ofNat 7) = (Int32.ofNat kn))).2 ?_
          show Steps p.tables e below (T336.setTop (mkF m 201 #[.val (.int p1), .val (.int p2), .val (.int p3), .val (.int p4), .val (.int p5), .val (.int cap), .val (.int (Int32.ofNat kn)), .val (.int fi), .val (.ref b110), .val (.long (1 : Int64)), .second, .val (.long (1 : Int64)), .second] [])) _
          refine XS.iconst X336.here hx rfl (hb hby at_201) ?_
          show Steps p.tables e below (T336.setTop (mkF m 202 #[.val (.int p1), .val (.int p2), .val (.int p3), .val (.int p4), .val (.int p5), .val (.int cap), .val (.int (Int32.ofNat kn)), .val (.int fi), .val (.ref b110), .val (.long (1 : Int64)), .second, .val (.long (1 : Int64)), .second] [(.int (1 : Int32))])) _
          refine XS.goto X336.here hx rfl (pc0 := 202) (pc' := 206) rfl (hb hby at_202) (by decide) (by decide) ?_
          exact kt)
      obtain ⟨fs, hr, hrun, hended, hW, hsame⟩ := X336.leave (v := some (.int (1 : Int32))) (fun h => by rw [Bd.returns] at h; cases h)
      refine ⟨_, _, pre337 _ ?_, hrun, hended, _, _, rfl, ?_, ⟨_, rfl⟩, hW, hsame.mono (by decide) (by decide)⟩
      · show Steps p.tables e below (T336.setTop (mkF m 206 #[.val (.int p1), .val (.int p2), .val (.int p3), .val (.int p4), .val (.int p5), .val (.int cap), .val (.int (Int32.ofNat kn)), .val (.int fi), .val (.ref b110), .val (.long (1 : Int64)), .second, .val (.long (1 : Int64)), .second] [(.int (1 : Int32))])) _
        exact retN X336 hx (t := .boolean) Bd.returns (by simp) (hb hby at_206) hr
      · show Q0 Z p1 p2 p3 p4 p5 DC h0 n0 _ T336.heap _
        rw [e336]
        exact ⟨rfl, N336⟩
    · skip
      have f338 : Exa Z T329.heap b110 "com/example/attacca/attacca/DecimatingBuffer" := (f326.keep K329)
      have f339 : Exa Z T329.heap l1_113 "java/util/ArrayList" := (f327.keep K329)
      have f340 : Fld Z T329.heap l1_113 "java/util/ArrayList" "size" "I" (.int (0 : Int32)) := (f328.keep K329 (own_nmc (Ne.symm ne114) (own_nmc x113_2 own_nm0)))
      obtain ⟨cq341, kq341, q341a, q341b, q341c⟩ := isOf hZ rfl f338
      obtain ⟨_, _, ⟨T341, L341, kk341, nn341⟩, -, X341, ⟨Lc341, hQ341, l341, y341, z341⟩, st341⟩ := X329.virtualBack hx (y := (⟨"com/example/attacca/attacca/DecimatingBuffer", "end", "()V"⟩ : MethodName)) (z := (⟨"com/example/attacca/attacca/DecimatingBuffer", "end", "()V"⟩ : MethodName)) hown (mvT hZ (hw _ (List.mem_of_getElem? (i := 76) rfl))) (mvT hZ (hw _ (List.mem_of_getElem? (i := 77) rfl))) (notFace_of_selects (args := #[]) (mvT hZ (hw _ (List.mem_of_getElem? (i := 79) rfl)))) (mvT hZ (hw _ (List.mem_of_getElem? (i := 79) rfl))) (mvT hZ (hw _ (List.mem_of_getElem? (i := 78) rfl))) (by decide) (backOf (W := 0) (rmend l Z a0 hw [] b110 l1_113 T329.heap n0 z330 f338 x329_0 f339 f340) hZ (hw _ (List.mem_of_getElem? (i := 80) rfl)) (hw _ (List.mem_of_getElem? (i := 2) rfl)) (by decide) (by decide)) q341a q341c (g := (mkF m 167 #[.val (.int p1), .val (.int p2), .val (.int p3), .val (.int p4), .val (.int p5), .val (.int cap), .val (.int (Int32.ofNat kn)), .val (.int fi), .val (.ref b110), .val (.long (1 : Int64)), .second, .unset, .unset] [(.ref b110)])) rfl (by rw [hml]; rfl) (Steps.refl _) (argsL := []) (rest := []) (lenOf pd__28_29V rfl) rfl (by show 2 * 0 + _ ≤ _; exact Nat.le_of_eq rfl) (hb hby at_167) (fun _ _ => ⟨rfl, rfl, (by decide : 3 + 0 ≤ _), (by decide : 4103 + 0 ≤ _)⟩)
      dsimp only [Pt.U, Pt.locs, Pt.cells, Pt.slots] at X341 l341 y341 z341 st341 hQ341
      subst l341 y341 z341
      obtain ⟨rfl, N341q, e341⟩ := hQ341
      have N341 := Fr.app N329 N341q
      obtain ⟨cq342, kq342, q342a, q342b, q342c⟩ := isOf hZ e341 f338
      obtain ⟨_, _, ⟨T342, L342, kk342, nn342⟩, -, X342, ⟨Lc342, hQ342, l342, y342, z342⟩, st342⟩ := X341.virtualBack hx (y := (⟨"com/example/attacca/attacca/DecimatingBuffer", "stride", "()J"⟩ : MethodName)) (z := (⟨"com/example/attacca/attacca/DecimatingBuffer", "stride", "()J"⟩ : MethodName)) hown (mvT hZ (hw _ (List.mem_of_getElem? (i := 44) rfl))) (mvT hZ (hw _ (List.mem_of_getElem? (i := 45) rfl))) (notFace_of_selects (args := #[]) (mvT hZ (hw _ (List.mem_of_getElem? (i := 47) rfl)))) (mvT hZ (hw _ (List.mem_of_getElem? (i := 47) rfl))) (mvT hZ (hw _ (List.mem_of_getElem? (i := 46) rfl))) (by decide) (backOf (W := 0) (rmstride l Z a0 hw [] b110 l1_113 T329.heap n0 z330 f338 x329_0 f339 f340) hZ (hw _ (List.mem_of_getElem? (i := 48) rfl)) (hw _ (List.mem_of_getElem? (i := 2) rfl)) (by decide) (by decide)) q342a q342c (g := (mkF m 172 #[.val (.int p1), .val (.int p2), .val (.int p3), .val (.int p4), .val (.int p5), .val (.int cap), .val (.int (Int32.ofNat kn)), .val (.int fi), .val (.ref b110), .val (.long (1 : Int64)), .second, .unset, .unset] [(.ref b110)])) rfl (by rw [hml]; rfl) (Steps.refl _) (argsL := []) (rest := []) (lenOf pd__28_29J rfl) rfl (by show 2 * 0 + _ ≤ _; exact Nat.le_of_eq rfl) (hb hby at_172) (fun _ _ => ⟨rfl, e341, (by decide : 3 + 0 ≤ _), (by decide : 4103 + 0 ≤ _)⟩)
      dsimp only [Pt.U, Pt.locs, Pt.cells, Pt.slots] at X342 l342 y342 z342 st342 hQ342
      subst l342 y342 z342
      obtain ⟨rfl, N342q, e342⟩ := hQ342
      have N342 := Fr.app N341 N342q
      obtain ⟨cq343, kq343, q343a, q343b, q343c⟩ := isOf hZ e342 f338
      obtain ⟨_, _, ⟨T343, L343, kk343, nn343⟩, -, X343, ⟨Lc343, hQ343, l343, y343, z343⟩, st343⟩ := X342.virtualBack hx (y := (⟨"com/example/attacca/attacca/DecimatingBuffer", "count", "()I"⟩ : MethodName)) (z := (⟨"com/example/attacca/attacca/DecimatingBuffer", "count", "()I"⟩ : MethodName)) hown (mvT hZ (hw _ (List.mem_of_getElem? (i := 71) rfl))) (mvT hZ (hw _ (List.mem_of_getElem? (i := 72) rfl))) (notFace_of_selects (args := #[]) (mvT hZ (hw _ (List.mem_of_getElem? (i := 74) rfl)))) (mvT hZ (hw _ (List.mem_of_getElem? (i := 74) rfl))) (mvT hZ (hw _ (List.mem_of_getElem? (i := 73) rfl))) (by decide) (backOf (W := 0) (rmcount l Z a0 hw [] b110 7 T329.heap n0 z330 f338 x329_3) hZ (hw _ (List.mem_of_getElem? (i := 75) rfl)) (hw _ (List.mem_of_getElem? (i := 2) rfl)) (by decide) (by decide)) q343a q343c (g := (mkF m 193 #[.val (.int p1), .val (.int p2), .val (.int p3), .val (.int p4), .val (.int p5), .val (.int cap), .val (.int (Int32.ofNat kn)), .val (.int fi), .val (.ref b110), .val (.long (1 : Int64)), .second, .val (.long (1 : Int64)), .second] [(.ref b110)])) rfl (by rw [hml]; rfl) (Steps.refl _) (argsL := []) (rest := []) (lenOf pd__28_29I rfl) rfl (by show 2 * 0 + _ ≤ _; exact Nat.le_of_eq rfl) (hb hby at_193) (fun _ _ => ⟨rfl, e342, (by decide : 3 + 0 ≤ _), (by decide : 4103 + 0 ≤ _)⟩)
      dsimp only [Pt.U, Pt.locs, Pt.cells, Pt.slots] at X343 l343 y343 z343 st343 hQ343
      subst l343 y343 z343
      obtain ⟨rfl, N343q, e343⟩ := hQ343
      have N343 := Fr.app N342 N343q
      have pre344 : ∀ t_, Steps p.tables e below (T343.setTop (mkF m 206 #[.val (.int p1), .val (.int p2), .val (.int p3), .val (.int p4), .val (.int p5), .val (.int cap), .val (.int (Int32.ofNat kn)), .val (.int fi), .val (.ref b110), .val (.long (1 : Int64)), .second, .val (.long (1 : Int64)), .second] [(.int (1 : Int32))])) t_ → Steps p.tables e below (s₁.setTop (entryFrame m #[(.int p1), (.int p2), (.int p3), (.int p4), (.int p5)] maxLocals)) t_ := fun t_ kt => pre331 t_ (by
          show Steps p.tables e below (T329.setTop (mkF m 162 #[.val (.int p1), .val (.int p2), .val (.int p3), .val (.int p4), .val (.int p5), .val (.int cap), .val (.int (Int32.ofNat kn)), .val (.int fi), .val (.ref b110), .val (.long (1 : Int64)), .second, .unset, .unset] [(.int fi)])) _
          refine XS.ifNo X329.here hx rfl (hb hby at_162) rfl ((if0 _ _).trans (feq (hF : ¬ (fi = (0 : Int32)))).1) ?_
          show Steps p.tables e below (T329.setTop (mkF m 165 #[.val (.int p1), .val (.int p2), .val (.int p3), .val (.int p4), .val (.int p5), .val (.int cap), .val (.int (Int32.ofNat kn)), .val (.int fi), .val (.ref b110), .val (.long (1 : Int64)), .second, .unset, .unset] [])) _
          refine XS.aload X329.here hx rfl (hb hby at_165) rfl rfl ?_
          show Steps p.tables e below (T329.setTop (mkF m 167 #[.val (.int p1), .val (.int p2), .val (.int p3), .val (.int p4), .val (.int p5), .val (.int cap), .val (.int (Int32.ofNat kn)), .val (.int fi), .val (.ref b110), .val (.long (1 : Int64)), .second, .unset, .unset] [(.ref b110)])) _
          refine st341.trans ?_
          show Steps p.tables e below (T341.setTop (mkF m 170 #[.val (.int p1), .val (.int p2), .val (.int p3), .val (.int p4), .val (.int p5), .val (.int cap), .val (.int (Int32.ofNat kn)), .val (.int fi), .val (.ref b110), .val (.long (1 : Int64)), .second, .unset, .unset] [])) _
          refine XS.aload X341.here hx rfl (hb hby at_170) rfl rfl ?_
          show Steps p.tables e below (T341.setTop (mkF m 172 #[.val (.int p1), .val (.int p2), .val (.int p3), .val (.int p4), .val (.int p5), .val (.int cap), .val (.int (Int32.ofNat kn)), .val (.int fi), .val (.ref b110), .val (.long (1 : Int64)), .second, .unset, .unset] [(.ref b110)])) _
          refine st342.trans ?_
          show Steps p.tables e below (T342.setTop (mkF m 175 #[.val (.int p1), .val (.int p2), .val (.int p3), .val (.int p4), .val (.int p5), .val (.int cap), .val (.int (Int32.ofNat kn)), .val (.int fi), .val (.ref b110), .val (.long (1 : Int64)), .second, .unset, .unset] [(.long (1 : Int64))])) _
          refine XS.lstore X342.here hx rfl (hb hby at_175) rfl (l' := #[.val (.int p1), .val (.int p2), .val (.int p3), .val (.int p4), .val (.int p5), .val (.int cap), .val (.int (Int32.ofNat kn)), .val (.int fi), .val (.ref b110), .val (.long (1 : Int64)), .second, .val (.long (1 : Int64)), .second]) rfl ?_
          show Steps p.tables e below (T342.setTop (mkF m 177 #[.val (.int p1), .val (.int p2), .val (.int p3), .val (.int p4), .val (.int p5), .val (.int cap), .val (.int (Int32.ofNat kn)), .val (.int fi), .val (.ref b110), .val (.long (1 : Int64)), .second, .val (.long (1 : Int64)), .second] [])) _
          refine XS.lload X342.here hx rfl (hb hby at_177) rfl ?_
          show Steps p.tables e below (T342.setTop (mkF m 179 #[.val (.int p1), .val (.int p2), .val (.int p3), .val (.int p4), .val (.int p5), .val (.int cap), .val (.int (Int32.ofNat kn)), .val (.int fi), .val (.ref b110), .val (.long (1 : Int64)), .second, .val (.long (1 : Int64)), .second] [(.long (1 : Int64))])) _
          refine XS.lconst X342.here hx rfl (hb hby at_179) ?_
          show Steps p.tables e below (T342.setTop (mkF m 180 #[.val (.int p1), .val (.int p2), .val (.int p3), .val (.int p4), .val (.int p5), .val (.int cap), .val (.int (Int32.ofNat kn)), .val (.int fi), .val (.ref b110), .val (.long (1 : Int64)), .second, .val (.long (1 : Int64)), .second] [(.long (1 : Int64)), (.long (1 : Int64))])) _
          refine XS.lcmp X342.here hx rfl (hb hby at_180) rfl ?_
          show Steps p.tables e below (T342.setTop (mkF m 181 #[.val (.int p1), .val (.int p2), .val (.int p3), .val (.int p4), .val (.int p5), .val (.int cap), .val (.int (Int32.ofNat kn)), .val (.int fi), .val (.ref b110), .val (.long (1 : Int64)), .second, .val (.long (1 : Int64)), .second] [(.int (lcmpW (1 : Int64) (1 : Int64)))])) _
          refine XS.ifNo X342.here hx rfl (hb hby at_181) rfl ((if0 _ _).trans (teq ((by decide) : (lcmpW (1 : Int64) (1 : Int64)) = (0 : Int32))).2) ?_
          show Steps p.tables e below (T342.setTop (mkF m 184 #[.val (.int p1), .val (.int p2), .val (.int p3), .val (.int p4), .val (.int p5), .val (.int cap), .val (.int (Int32.ofNat kn)), .val (.int fi), .val (.ref b110), .val (.long (1 : Int64)), .second, .val (.long (1 : Int64)), .second] [])) _
          refine XS.lload X342.here hx rfl (hb hby at_184) rfl ?_
          show Steps p.tables e below (T342.setTop (mkF m 186 #[.val (.int p1), .val (.int p2), .val (.int p3), .val (.int p4), .val (.int p5), .val (.int cap), .val (.int (Int32.ofNat kn)), .val (.int fi), .val (.ref b110), .val (.long (1 : Int64)), .second, .val (.long (1 : Int64)), .second] [(.long (1 : Int64))])) _
          refine XS.lconst X342.here hx rfl (hb hby at_186) ?_
          show Steps p.tables e below (T342.setTop (mkF m 187 #[.val (.int p1), .val (.int p2), .val (.int p3), .val (.int p4), .val (.int p5), .val (.int cap), .val (.int (Int32.ofNat kn)), .val (.int fi), .val (.ref b110), .val (.long (1 : Int64)), .second, .val (.long (1 : Int64)), .second] [(.long (1 : Int64)), (.long (1 : Int64))])) _
          refine XS.lcmp X342.here hx rfl (hb hby at_187) rfl ?_
          show Steps p.tables e below (T342.setTop (mkF m 188 #[.val (.int p1), .val (.int p2), .val (.int p3), .val (.int p4), .val (.int p5), .val (.int cap), .val (.int (Int32.ofNat kn)), .val (.int fi), .val (.ref b110), .val (.long (1 : Int64)), .second, .val (.long (1 : Int64)), .second] [(.int (lcmpW (1 : Int64) (1 : Int64)))])) _
          refine XS.ifNo X342.here hx rfl (hb hby at_188) rfl ((if0 _ _).trans (teq ((by decide) : (lcmpW (1 : Int64) (1 : Int64)) = (0 : Int32))).2) ?_
          show Steps p.tables e below (T342.setTop (mkF m 191 #[.val (.int p1), .val (.int p2), .val (.int p3), .val (.int p4), .val (.int p5), .val (.int cap), .val (.int (Int32.ofNat kn)), .val (.int fi), .val (.ref b110), .val (.long (1 : Int64)), .second, .val (.long (1 : Int64)), .second] [])) _
          refine XS.aload X342.here hx rfl (hb hby at_191) rfl rfl ?_
          show Steps p.tables e below (T342.setTop (mkF m 193 #[.val (.int p1), .val (.int p2), .val (.int p3), .val (.int p4), .val (.int p5), .val (.int cap), .val (.int (Int32.ofNat kn)), .val (.int fi), .val (.ref b110), .val (.long (1 : Int64)), .second, .val (.long (1 : Int64)), .second] [(.ref b110)])) _
          refine st343.trans ?_
          show Steps p.tables e below (T343.setTop (mkF m 196 #[.val (.int p1), .val (.int p2), .val (.int p3), .val (.int p4), .val (.int p5), .val (.int cap), .val (.int (Int32.ofNat kn)), .val (.int fi), .val (.ref b110), .val (.long (1 : Int64)), .second, .val (.long (1 : Int64)), .second] [(.int (Int32.ofNat 7))])) _
          refine XS.iload X343.here hx rfl (hb hby at_196) rfl ?_
          show Steps p.tables e below (T343.setTop (mkF m 198 #[.val (.int p1), .val (.int p2), .val (.int p3), .val (.int p4), .val (.int p5), .val (.int cap), .val (.int (Int32.ofNat kn)), .val (.int fi), .val (.ref b110), .val (.long (1 : Int64)), .second, .val (.long (1 : Int64)), .second] [(.int (Int32.ofNat kn)), (.int (Int32.ofNat 7))])) _
          refine XS.icmpNo X343.here hx rfl (hb hby at_198) rfl (teq ((congrArg Int32.ofNat hj.symm) : (Int32.ofNat 7) = (Int32.ofNat kn))).2 ?_
          show Steps p.tables e below (T343.setTop (mkF m 201 #[.val (.int p1), .val (.int p2), .val (.int p3), .val (.int p4), .val (.int p5), .val (.int cap), .val (.int (Int32.ofNat kn)), .val (.int fi), .val (.ref b110), .val (.long (1 : Int64)), .second, .val (.long (1 : Int64)), .second] [])) _
          refine XS.iconst X343.here hx rfl (hb hby at_201) ?_
          show Steps p.tables e below (T343.setTop (mkF m 202 #[.val (.int p1), .val (.int p2), .val (.int p3), .val (.int p4), .val (.int p5), .val (.int cap), .val (.int (Int32.ofNat kn)), .val (.int fi), .val (.ref b110), .val (.long (1 : Int64)), .second, .val (.long (1 : Int64)), .second] [(.int (1 : Int32))])) _
          refine XS.goto X343.here hx rfl (pc0 := 202) (pc' := 206) rfl (hb hby at_202) (by decide) (by decide) ?_
          exact kt)
      obtain ⟨fs, hr, hrun, hended, hW, hsame⟩ := X343.leave (v := some (.int (1 : Int32))) (fun h => by rw [Bd.returns] at h; cases h)
      refine ⟨_, _, pre344 _ ?_, hrun, hended, _, _, rfl, ?_, ⟨_, rfl⟩, hW, hsame.mono (by decide) (by decide)⟩
      · show Steps p.tables e below (T343.setTop (mkF m 206 #[.val (.int p1), .val (.int p2), .val (.int p3), .val (.int p4), .val (.int p5), .val (.int cap), .val (.int (Int32.ofNat kn)), .val (.int fi), .val (.ref b110), .val (.long (1 : Int64)), .second, .val (.long (1 : Int64)), .second] [(.int (1 : Int32))])) _
        exact retN X343 hx (t := .boolean) Bd.returns (by simp) (hb hby at_206) hr
      · show Q0 Z p1 p2 p3 p4 p5 DC h0 n0 _ T343.heap _
        rw [e343]
        exact ⟨rfl, N343⟩
set_option maxRecDepth 65536 in
set_option maxHeartbeats 40000000 in
theorem comes_1 {Post : Tables → Env → Array Value → State → Outcome → State → Prop} (hpost : ∀ tb e args s v u, (limb_1_1.after args s (.returned v) u = true ∧ limb_1_2.after args s (.returned v) u = true ∧ True) → FrameEnd s (.returned v) u (Jvm.fieldLocs frame_1_writes args s ++ Jvm.arrayLocs frame_1_arrays args s ++ Jvm.staticLocs frame_1_statics s) 16 8320 → Post tb e args s (.returned v) u) :
    ArmFor flags0 classFile x code maxLocals ret World_1 tables_1 room_1 Calls_1 rest_1 Pre_1 Post := by
  intro l hfl _ _ p e ha hc hk s m args below hf hA hF happ hP
  obtain ⟨hcalls, hrest, hpre⟩ := hP
  obtain ⟨-, -, -, hnamed, -, -, -, hat⟩ := (Spec.applies_iff hf).mp happ
  obtain ⟨hg, hn⟩ := and_e (Cond.before_iff.mp (show (Jvm.Cond.and given_1 narrow_1).before args s = true from hpre))
  obtain ⟨g1, g2⟩ := and_e hg
  obtain ⟨g3, g4⟩ := and_e g2
  obtain ⟨g5, g6⟩ := and_e g4
  obtain ⟨g7, g8⟩ := and_e g6
  obtain ⟨g9, g10⟩ := and_e g8
  obtain ⟨w0, w1, w2, w3, w4, rfl⟩ : ∃ w0 w1 w2 w3 w4 : Value, args = #[w0, w1, w2, w3, w4] := by
    have hs : args.size = 5 := by simpa [Cond.value, given_1] using g1
    obtain ⟨L⟩ := args
    match L, hs with
    | [w0, w1, w2, w3, w4], _ => exact ⟨w0, w1, w2, w3, w4, rfl⟩
  have hw := fun d (hd : d ∈ tables_1) => atoms_spec (ws := Jvm.Cond.code x code maxLocals ret :: tables_1) hat d (List.mem_cons_of_mem _ hd)
  have hfit : Fit s := fun {y c} hc i hi => by
    obtain ⟨ha, rfl⟩ := Array.getElem?_eq_some_iff.mp hc
    have q := List.all_eq_true.mp ((Array.all_eq_true_iff_forall_mem.mp hF) _ (Array.getElem_mem ha)) i (List.mem_range.mpr hi)
    simpa [Array.getElem?_eq_getElem hi] using q
  obtain ⟨hsets, hown0⟩ := atoms_of _ (rest_1_c_eq ▸ (show rest_1_c.before _ s = true from hrest))
  have hr0 := Cond.before_iff.mp hown0
  obtain ⟨i0, ei0⟩ := is_v g3
  obtain rfl : w0 = (.int i0) := Option.some.inj ei0
  obtain ⟨i1, ei1⟩ := is_v g5
  obtain rfl : w1 = (.int i1) := Option.some.inj ei1
  obtain ⟨i2, ei2⟩ := is_v g7
  obtain rfl : w2 = (.int i2) := Option.some.inj ei2
  obtain ⟨i3, ei3⟩ := is_v g9
  obtain rfl : w3 = (.int i3) := Option.some.inj ei3
  obtain ⟨i4, ei4⟩ := is_v g10
  obtain rfl : w4 = (.int i4) := Option.some.inj ei4
  obtain ⟨i_d, e_d⟩ := arr_v (Cond.before_iff.mp (hsets _ (List.mem_of_getElem? (i := 6) rfl)))
  have S_d : Sta s s.heap "java/util/ArrayList" "DEFAULTCAPACITY_EMPTY_ELEMENTDATA" "[Ljava/lang/Object;" (.ref i_d) := Sta.start e_d (Or.inr ⟨(hw _ (List.mem_of_getElem? (i := 11) rfl)), hsets _ (List.mem_of_getElem? (i := 2) rfl)⟩)
  obtain ⟨n, o, h1, h2, h3, _, L, rfl, ⟨rfl, N⟩, hq⟩ := rm0 l s _ hw tables_1 i0 i1 i2 i3 i4 i_d s.heap s.heap.size (Nat.le_refl _) S_d (Old.start s) p e ha hc hk s m _ below hf ((Spec.applies_iff_loose hf).mp happ).1 ⟨rfl, State.Warmed39.refl s, rfl⟩ trivial
  refine ⟨n, _, h1, h2, h3, hpost _ _ _ _ _ _ ⟨Cond.after_iff.mpr rfl, Cond.after_iff.mpr (eq_i res_at (Term.int_eval (1)) rfl), trivial⟩ ⟨hq.1, hq.2.1, (hq.2.2.sift fun y hy => Or.inr (N y hy)).mono (by decide) (by decide)⟩⟩
theorem main_1_1 : Claimed_1_1 := comes_1 fun _ _ _ _ _ _ h hF => ⟨h.1, hF⟩
theorem main_1_2 : Claimed_1_2 := comes_1 fun _ _ _ _ _ _ h hF => ⟨h.2.1, hF⟩
end Jvm.Pilot.@@N@@
namespace Jvm.Pilot.@@N@@
open Jvm Jvm.ClassFile Sem Op Lib Jvm.Free Jvm.Stand Jvm.Pilot.@@N@@.Jvm.D
/-! MADE BY PROGRAM (witnessworld.py) out of the Statement's table words and the real class files: 22 classes; the members and pool entries that the words name. The judged class is class 1, her method 1. -/
namespace start1
open Jvm.ClassFile
def u (s : String) : CpInfo := .utf8 (stringToUtf16 s)
/-- a pool by its gaps: so many unusable entries, then the entry; so many at the end -/
def gap : Nat → List CpInfo → List CpInfo
  | 0, r => r
  | n + 1, r => .unusable :: gap n r
def poolList (es : List (Nat × CpInfo)) (last : Nat) : List CpInfo := es.foldr (fun e r => gap e.1 (e.2 :: r)) (gap last [])
def pool (es : List (Nat × CpInfo)) (last : Nat) : Array CpInfo := ⟨poolList es last⟩
def fileOf (pool : Array CpInfo) (this : Nat) (attrs : Array Attribute := #[]) (ms : Array MethodInfo := #[]) (fl : Nat := 33) (sup : Nat := 0) (ifs : Array Nat := #[]) (fds : Array FieldInfo := #[]) : ClassFile where
  minorVersion := 0
  majorVersion := 65
  constantPool := pool
  accessFlags := fl
  thisClass := this
  superClass := sup
  interfaces := ifs
  fields := fds
  methods := ms
  attributes := attrs
def plain (name : String) (sup : Option ClassId) : Class where
  name := name
  kind := .ordinary
  loader := none
  accessFlags := 33
  super := sup
  interfaces := #[]
  cf := none
  fields := #[]
  methods := #[]
  instanceTypes := #[]
  staticTypes := #[]
  resolved := #[]
  callSites := []
  init := .initialized
  statics := none
  mirror := none

def pool0 : Array CpInfo := pool [(5, u "<init>"), (0, u "()V"), (1, .class_ 10), (1, u "java/lang/Object")] 113

def k0c0 : Code := { maxStack := 0, maxLocals := 1, code := object_method_1_code, exceptionTable := #[], attributes := #[] }
def k0m0 : Method := { name := "<init>", desc := "()V", sig := { parameters := [], returnType := none }, accessFlags := 1, code := some k0c0 }
/-- java/lang/Object -/
def k0 : Class := { plain "java/lang/Object" none with
  accessFlags := 33
  interfaces := #[]
  cf := some (fileOf pool0 8 #[] #[{ accessFlags := 1, nameIndex := 5, descriptorIndex := 6, attributes := #[] }] 33 0 #[] #[])
  fields := #[]
  methods := #[k0m0]
  instanceTypes := #[]
  staticTypes := #[]
  resolved := Array.replicate 124 none
  statics := none }

def pool1 : Array CpInfo := pool [(2, .class_ 4), (1, u "java/lang/Object"), (0, u "<init>"), (0, u "()V"), (0, .class_ 8), (0, u "com/example/attacca/attacca/DecimatingBuffer"), (0, .methodref 7 10), (0, .nameAndType 5 11), (0, u "(I)V"), (0, .methodref 7 13), (0, .nameAndType 14 15), (0, u "stride"), (0, u "()J"), (0, .methodref 7 17), (0, .nameAndType 18 19), (0, u "accept"), (0, u "(D)V"), (0, .methodref 7 21), (0, .nameAndType 22 6), (0, u "end"), (0, .methodref 7 24), (0, .nameAndType 25 26), (0, u "count"), (0, u "()I"), (0, .class_ 28), (0, u "com/example/attacca/attacca/DecimatingBufferStridePinLaw"), (2, u "law"), (0, u "(IIIII)Z")] 3

def k1m0 : Method := { name := "<init>", desc := "()V", sig := { parameters := [], returnType := none }, accessFlags := 1, code := none }
def k1c1 : Code := { maxStack := 4, maxLocals := 13, code := code, exceptionTable := #[], attributes := #[] }
def k1m1 : Method := { name := "law", desc := "(IIIII)Z", sig := { parameters := [.int, .int, .int, .int, .int], returnType := some .boolean }, accessFlags := 9, code := some k1c1 }
/-- com/example/attacca/attacca/DecimatingBufferStridePinLaw -/
def k1 : Class := { plain "com/example/attacca/attacca/DecimatingBufferStridePinLaw" (some 0) with
  accessFlags := 49
  interfaces := #[]
  cf := some (fileOf pool1 27 #[] #[{ accessFlags := 1, nameIndex := 5, descriptorIndex := 6, attributes := #[] }, { accessFlags := 9, nameIndex := 31, descriptorIndex := 32, attributes := #[] }] 49 2 #[] #[])
  fields := #[]
  methods := #[k1m0, k1m1]
  instanceTypes := #[]
  staticTypes := #[]
  resolved := Array.replicate 36 none
  statics := none }

def pool2 : Array CpInfo := pool [(1, .class_ 2), (0, u "com/example/attacca/attacca/ValueSink"), (0, .class_ 4), (0, u "java/lang/Object")] 8

/-- com/example/attacca/attacca/ValueSink -/
def k2 : Class := { plain "com/example/attacca/attacca/ValueSink" (some 0) with
  accessFlags := 1537
  interfaces := #[]
  cf := some (fileOf pool2 1 #[] #[] 1537 3 #[] #[])
  fields := #[]
  methods := #[]
  instanceTypes := #[]
  staticTypes := #[]
  resolved := Array.replicate 13 none
  statics := none }

def pool3 : Array CpInfo := pool [(1, .methodref 2 3), (0, .class_ 4), (0, .nameAndType 5 6), (0, u "java/lang/Object"), (0, u "<init>"), (0, u "()V"), (0, .class_ 8), (0, u "java/util/ArrayList"), (0, .methodref 7 3), (0, .fieldref 11 12), (0, .class_ 13), (0, .nameAndType 14 15), (0, u "com/example/attacca/attacca/DecimatingBuffer"), (0, u "stages"), (0, u "Ljava/util/List;"), (9, .fieldref 11 26), (0, .nameAndType 27 28), (0, u "capacity"), (0, u "I"), (0, .methodref 30 31), (0, .class_ 32), (0, .nameAndType 33 34), (0, u "java/lang/Math"), (0, u "min"), (0, u "(II)I"), (0, .fieldref 11 36), (0, .nameAndType 37 38), (0, u "values"), (0, u "[D"), (0, .methodref 11 40), (0, .nameAndType 41 42), (0, u "pass"), (0, u "(ID)V"), (0, .interfaceMethodref 44 45), (0, .class_ 46), (0, .nameAndType 47 48), (0, u "java/util/List"), (0, u "size"), (0, u "()I"), (0, .class_ 50), (0, u "com/example/attacca/attacca/DecimatingBuffer$HalfBand"), (0, .fieldref 11 52), (0, .nameAndType 53 28), (0, u "count"), (26, .class_ 81), (0, u "com/example/attacca/attacca/ValueSink"), (0, u "MIN_CAPACITY"), (2, u "INITIAL_LENGTH"), (3, u "(I)V"), (3, u "accept"), (0, u "(D)V"), (0, u "end"), (1, u "stride"), (0, u "()J")] 19

def k3c0 : Code := { maxStack := 3, maxLocals := 2, code := prog_4_method_1_code, exceptionTable := #[], attributes := #[] }
def k3m0 : Method := { name := "<init>", desc := "(I)V", sig := { parameters := [.int], returnType := none }, accessFlags := 0, code := some k3c0 }
def k3c1 : Code := { maxStack := 4, maxLocals := 3, code := prog_4_method_2_code, exceptionTable := #[], attributes := #[] }
def k3m1 : Method := { name := "accept", desc := "(D)V", sig := { parameters := [.double], returnType := none }, accessFlags := 1, code := some k3c1 }
def k3c2 : Code := { maxStack := 4, maxLocals := 3, code := prog_4_method_3_code, exceptionTable := #[], attributes := #[] }
def k3m2 : Method := { name := "end", desc := "()V", sig := { parameters := [], returnType := none }, accessFlags := 1, code := some k3c2 }
def k3c3 : Code := { maxStack := 1, maxLocals := 1, code := prog_4_method_5_code, exceptionTable := #[], attributes := #[] }
def k3m3 : Method := { name := "count", desc := "()I", sig := { parameters := [], returnType := some .int }, accessFlags := 0, code := some k3c3 }
def k3c4 : Code := { maxStack := 3, maxLocals := 1, code := prog_4_method_6_code, exceptionTable := #[], attributes := #[] }
def k3m4 : Method := { name := "stride", desc := "()J", sig := { parameters := [], returnType := some .long }, accessFlags := 0, code := some k3c4 }
def k3c5 : Code := { maxStack := 5, maxLocals := 8, code := prog_4_method_7_code, exceptionTable := #[], attributes := #[] }
def k3m5 : Method := { name := "pass", desc := "(ID)V", sig := { parameters := [.int, .double], returnType := none }, accessFlags := 2, code := some k3c5 }
/-- com/example/attacca/attacca/DecimatingBuffer -/
def k3 : Class := { plain "com/example/attacca/attacca/DecimatingBuffer" (some 0) with
  accessFlags := 48
  interfaces := #[2]
  cf := some (fileOf pool3 11 #[.nestMembers #[49]] #[{ accessFlags := 0, nameIndex := 5, descriptorIndex := 89, attributes := #[] }, { accessFlags := 1, nameIndex := 93, descriptorIndex := 94, attributes := #[] }, { accessFlags := 1, nameIndex := 95, descriptorIndex := 6, attributes := #[] }, { accessFlags := 0, nameIndex := 53, descriptorIndex := 48, attributes := #[] }, { accessFlags := 0, nameIndex := 97, descriptorIndex := 98, attributes := #[] }, { accessFlags := 2, nameIndex := 41, descriptorIndex := 42, attributes := #[] }] 48 2 #[80] #[{ accessFlags := 26, nameIndex := 82, descriptorIndex := 28, attributes := #[] }, { accessFlags := 26, nameIndex := 85, descriptorIndex := 28, attributes := #[] }, { accessFlags := 18, nameIndex := 27, descriptorIndex := 28, attributes := #[] }, { accessFlags := 18, nameIndex := 14, descriptorIndex := 15, attributes := #[] }, { accessFlags := 2, nameIndex := 37, descriptorIndex := 38, attributes := #[] }, { accessFlags := 2, nameIndex := 53, descriptorIndex := 28, attributes := #[] }])
  fields := #[{ name := "MIN_CAPACITY", type := .int, accessFlags := 26, slot := 0, constantValue := 0 }, { name := "INITIAL_LENGTH", type := .int, accessFlags := 26, slot := 1, constantValue := 0 }, { name := "capacity", type := .int, accessFlags := 18, slot := 0, constantValue := 0 }, { name := "stages", type := (.object "java/util/List"), accessFlags := 18, slot := 1, constantValue := 0 }, { name := "values", type := (.array .double), accessFlags := 2, slot := 2, constantValue := 0 }, { name := "count", type := .int, accessFlags := 2, slot := 3, constantValue := 0 }]
  methods := #[k3m0, k3m1, k3m2, k3m3, k3m4, k3m5]
  instanceTypes := #[.int, (.object "java/util/List"), (.array .double), .int]
  staticTypes := #[.int, .int]
  resolved := Array.replicate 118 none
  statics := none }

def pool4 : Array CpInfo := pool [(8, .class_ 10), (1, u "java/lang/Iterable"), (24, .class_ 36), (0, u "java/lang/Object")] 25

/-- java/lang/Iterable -/
def k4 : Class := { plain "java/lang/Iterable" (some 0) with
  accessFlags := 1537
  interfaces := #[]
  cf := some (fileOf pool4 8 #[] #[] 1537 35 #[] #[])
  fields := #[]
  methods := #[]
  instanceTypes := #[]
  staticTypes := #[]
  resolved := Array.replicate 62 none
  statics := none }

def pool5 : Array CpInfo := pool [(10, .class_ 12), (1, u "java/util/Collection"), (47, .class_ 61), (0, u "java/lang/Object"), (0, .class_ 63), (0, u "java/lang/Iterable")] 51

/-- java/util/Collection -/
def k5 : Class := { plain "java/util/Collection" (some 0) with
  accessFlags := 1537
  interfaces := #[4]
  cf := some (fileOf pool5 10 #[] #[] 1537 60 #[62] #[])
  fields := #[]
  methods := #[]
  instanceTypes := #[]
  staticTypes := #[]
  resolved := Array.replicate 115 none
  statics := none }

def pool6 : Array CpInfo := pool [(1, .methodref 2 3), (0, .class_ 4), (0, .nameAndType 5 6), (0, u "java/lang/Object"), (0, u "<init>"), (0, u "()V"), (1, .class_ 10), (1, u "java/util/AbstractCollection"), (66, .class_ 78), (0, u "java/util/Collection")] 81

def k6c0 : Code := { maxStack := 1, maxLocals := 1, code := jdk_22_method_1_code, exceptionTable := #[], attributes := #[] }
def k6m0 : Method := { name := "<init>", desc := "()V", sig := { parameters := [], returnType := none }, accessFlags := 4, code := some k6c0 }
/-- java/util/AbstractCollection -/
def k6 : Class := { plain "java/util/AbstractCollection" (some 0) with
  accessFlags := 1057
  interfaces := #[5]
  cf := some (fileOf pool6 8 #[] #[{ accessFlags := 4, nameIndex := 5, descriptorIndex := 6, attributes := #[] }] 1057 2 #[77] #[])
  fields := #[]
  methods := #[k6m0]
  instanceTypes := #[]
  staticTypes := #[]
  resolved := Array.replicate 160 none
  statics := none }

def pool7 : Array CpInfo := pool [(8, .class_ 10), (1, u "java/util/SequencedCollection"), (15, .class_ 27), (0, u "java/lang/Object"), (0, .class_ 29), (0, u "java/util/Collection")] 27

/-- java/util/SequencedCollection -/
def k7 : Class := { plain "java/util/SequencedCollection" (some 0) with
  accessFlags := 1537
  interfaces := #[5]
  cf := some (fileOf pool7 8 #[] #[] 1537 26 #[28] #[])
  fields := #[]
  methods := #[]
  instanceTypes := #[]
  staticTypes := #[]
  resolved := Array.replicate 57 none
  statics := none }

def pool8 : Array CpInfo := pool [(8, .class_ 10), (1, u "java/util/List"), (68, u "size"), (0, u "()I"), (22, .class_ 104), (0, u "java/lang/Object"), (15, .class_ 121), (0, u "java/util/SequencedCollection")] 129

def k8m0 : Method := { name := "size", desc := "()I", sig := { parameters := [], returnType := some .int }, accessFlags := 1025, code := none }
/-- java/util/List -/
def k8 : Class := { plain "java/util/List" (some 0) with
  accessFlags := 1537
  interfaces := #[7]
  cf := some (fileOf pool8 8 #[] #[{ accessFlags := 1025, nameIndex := 79, descriptorIndex := 80, attributes := #[] }] 1537 103 #[120] #[])
  fields := #[]
  methods := #[k8m0]
  instanceTypes := #[]
  staticTypes := #[]
  resolved := Array.replicate 251 none
  statics := none }

def pool9 : Array CpInfo := pool [(1, .methodref 2 3), (0, .class_ 4), (0, .nameAndType 5 6), (0, u "java/util/AbstractCollection"), (0, u "<init>"), (0, u "()V"), (0, .fieldref 8 9), (0, .class_ 10), (0, .nameAndType 11 12), (0, u "java/util/AbstractList"), (0, u "modCount"), (0, u "I"), (64, .class_ 78), (0, u "java/util/AbstractList$Itr"), (3, .class_ 83), (0, u "java/util/AbstractList$ListItr"), (9, .class_ 94), (0, u "java/util/AbstractList$RandomAccessSubList"), (3, .class_ 99), (0, u "java/util/AbstractList$SubList"), (33, .class_ 134), (0, u "java/util/List"), (73, .class_ 209), (0, u "java/util/AbstractList$SubList$1"), (0, .class_ 211), (0, u "java/util/AbstractList$RandomAccessSpliterator")] 6

def k9c0 : Code := { maxStack := 2, maxLocals := 1, code := jdk_39_method_1_code, exceptionTable := #[], attributes := #[] }
def k9m0 : Method := { name := "<init>", desc := "()V", sig := { parameters := [], returnType := none }, accessFlags := 4, code := some k9c0 }
/-- java/util/AbstractList -/
def k9 : Class := { plain "java/util/AbstractList" (some 6) with
  accessFlags := 1057
  interfaces := #[8]
  cf := some (fileOf pool9 8 #[.nestMembers #[93, 98, 208, 210, 82, 77]] #[{ accessFlags := 4, nameIndex := 5, descriptorIndex := 6, attributes := #[] }] 1057 2 #[133] #[{ accessFlags := 132, nameIndex := 11, descriptorIndex := 12, attributes := #[] }])
  fields := #[{ name := "modCount", type := .int, accessFlags := 132, slot := 0, constantValue := 0 }]
  methods := #[k9m0]
  instanceTypes := #[.int]
  staticTypes := #[]
  resolved := Array.replicate 218 none
  statics := none }

def pool10 : Array CpInfo := pool [(1, .class_ 2), (0, u "java/util/RandomAccess"), (0, .class_ 4), (0, u "java/lang/Object")] 2

/-- java/util/RandomAccess -/
def k10 : Class := { plain "java/util/RandomAccess" (some 0) with
  accessFlags := 1537
  interfaces := #[]
  cf := some (fileOf pool10 1 #[] #[] 1537 3 #[] #[])
  fields := #[]
  methods := #[]
  instanceTypes := #[]
  staticTypes := #[]
  resolved := Array.replicate 7 none
  statics := none }

def pool11 : Array CpInfo := pool [(1, .class_ 2), (0, u "java/lang/Cloneable"), (0, .class_ 4), (0, u "java/lang/Object")] 2

/-- java/lang/Cloneable -/
def k11 : Class := { plain "java/lang/Cloneable" (some 0) with
  accessFlags := 1537
  interfaces := #[]
  cf := some (fileOf pool11 1 #[] #[] 1537 3 #[] #[])
  fields := #[]
  methods := #[]
  instanceTypes := #[]
  staticTypes := #[]
  resolved := Array.replicate 7 none
  statics := none }

def pool12 : Array CpInfo := pool [(1, .class_ 2), (0, u "java/io/Serializable"), (0, .class_ 4), (0, u "java/lang/Object")] 2

/-- java/io/Serializable -/
def k12 : Class := { plain "java/io/Serializable" (some 0) with
  accessFlags := 1537
  interfaces := #[]
  cf := some (fileOf pool12 1 #[] #[] 1537 3 #[] #[])
  fields := #[]
  methods := #[]
  instanceTypes := #[]
  staticTypes := #[]
  resolved := Array.replicate 7 none
  statics := none }

def pool13 : Array CpInfo := pool [(1, .methodref 2 3), (0, .class_ 4), (0, .nameAndType 5 6), (0, u "java/util/AbstractList"), (0, u "<init>"), (0, u "()V"), (2, .fieldref 10 11), (0, .class_ 12), (0, .nameAndType 13 14), (0, u "java/util/ArrayList"), (0, u "elementData"), (0, u "[Ljava/lang/Object;"), (2, u "EMPTY_ELEMENTDATA"), (21, .fieldref 10 40), (0, .nameAndType 41 14), (0, u "DEFAULTCAPACITY_EMPTY_ELEMENTDATA"), (6, .fieldref 10 49), (0, .nameAndType 50 51), (0, u "size"), (0, u "I"), (96, .class_ 149), (0, u "java/util/List"), (36, u "()I"), (75, .class_ 263), (0, u "java/util/ArrayList$ListItr"), (3, .class_ 268), (0, u "java/util/ArrayList$Itr"), (7, .class_ 277), (0, u "java/util/ArrayList$SubList"), (12, .class_ 291), (0, u "java/util/ArrayList$ArrayListSpliterator"), (37, .class_ 330), (0, u "java/util/RandomAccess"), (0, .class_ 332), (0, u "java/lang/Cloneable"), (0, .class_ 334), (0, u "java/io/Serializable"), (0, u "serialVersionUID"), (0, u "J"), (3, u "DEFAULT_CAPACITY"), (159, .class_ 501), (0, u "java/util/ArrayList$SubList$2"), (0, .class_ 503), (0, u "java/util/ArrayList$SubList$1")] 5

def k13c0 : Code := { maxStack := 2, maxLocals := 1, code := jdk_38_method_2_code, exceptionTable := #[], attributes := #[] }
def k13m0 : Method := { name := "<init>", desc := "()V", sig := { parameters := [], returnType := none }, accessFlags := 1, code := some k13c0 }
def k13c1 : Code := { maxStack := 1, maxLocals := 1, code := jdk_38_method_8_code, exceptionTable := #[], attributes := #[] }
def k13m1 : Method := { name := "size", desc := "()I", sig := { parameters := [], returnType := some .int }, accessFlags := 1, code := some k13c1 }
/-- java/util/ArrayList -/
def k13 : Class := { plain "java/util/ArrayList" (some 9) with
  accessFlags := 33
  interfaces := #[8, 10, 11, 12]
  cf := some (fileOf pool13 10 #[.nestMembers #[290, 276, 500, 502, 262, 267]] #[{ accessFlags := 1, nameIndex := 5, descriptorIndex := 6, attributes := #[] }, { accessFlags := 1, nameIndex := 50, descriptorIndex := 186, attributes := #[] }] 33 2 #[148, 329, 331, 333] #[{ accessFlags := 26, nameIndex := 335, descriptorIndex := 336, attributes := #[] }, { accessFlags := 26, nameIndex := 340, descriptorIndex := 51, attributes := #[] }, { accessFlags := 26, nameIndex := 17, descriptorIndex := 14, attributes := #[] }, { accessFlags := 26, nameIndex := 41, descriptorIndex := 14, attributes := #[] }, { accessFlags := 128, nameIndex := 13, descriptorIndex := 14, attributes := #[] }, { accessFlags := 2, nameIndex := 50, descriptorIndex := 51, attributes := #[] }])
  fields := #[{ name := "serialVersionUID", type := .long, accessFlags := 26, slot := 0, constantValue := 0 }, { name := "DEFAULT_CAPACITY", type := .int, accessFlags := 26, slot := 1, constantValue := 0 }, { name := "EMPTY_ELEMENTDATA", type := (.array (.object "java/lang/Object")), accessFlags := 26, slot := 2, constantValue := 0 }, { name := "DEFAULTCAPACITY_EMPTY_ELEMENTDATA", type := (.array (.object "java/lang/Object")), accessFlags := 26, slot := 3, constantValue := 0 }, { name := "elementData", type := (.array (.object "java/lang/Object")), accessFlags := 128, slot := 1, constantValue := 0 }, { name := "size", type := .int, accessFlags := 2, slot := 2, constantValue := 0 }]
  methods := #[k13m0, k13m1]
  instanceTypes := #[.int, (.array (.object "java/lang/Object")), .int]
  staticTypes := #[.long, .int, (.array (.object "java/lang/Object")), (.array (.object "java/lang/Object"))]
  resolved := Array.replicate 509 none
  statics := some 0 }

def pool14 : Array CpInfo := pool [(1, .class_ 2), (0, u "java/lang/Math"), (1, .class_ 6), (1, u "java/lang/Object"), (0, u "<init>"), (0, u "()V"), (89, .class_ 100), (1, u "java/lang/Math$RandomNumberGeneratorHolder"), (71, u "negativeZeroFloatBits"), (0, u "J"), (2, u "negativeZeroDoubleBits"), (24, u "min"), (43, u "$assertionsDisabled"), (0, u "Z"), (88, u "(II)I"), (2, u "twoToTheDoubleScaleDown"), (0, u "D"), (4, u "twoToTheDoubleScaleUp"), (9, u "E"), (3, u "PI"), (2, u "TAU"), (2, u "DEGREES_TO_RADIANS"), (0, u "RADIANS_TO_DEGREES")] 94

def k14m0 : Method := { name := "<init>", desc := "()V", sig := { parameters := [], returnType := none }, accessFlags := 2, code := none }
def k14c1 : Code := { maxStack := 2, maxLocals := 2, code := jdk_29_method_69_code, exceptionTable := #[], attributes := #[] }
def k14m1 : Method := { name := "min", desc := "(II)I", sig := { parameters := [.int, .int], returnType := some .int }, accessFlags := 9, code := some k14c1 }
/-- java/lang/Math -/
def k14 : Class := { plain "java/lang/Math" (some 0) with
  accessFlags := 49
  interfaces := #[]
  cf := some (fileOf pool14 1 #[.nestMembers #[98]] #[{ accessFlags := 2, nameIndex := 7, descriptorIndex := 8, attributes := #[] }, { accessFlags := 9, nameIndex := 201, descriptorIndex := 335, attributes := #[] }] 49 4 #[] #[{ accessFlags := 25, nameIndex := 354, descriptorIndex := 339, attributes := #[] }, { accessFlags := 25, nameIndex := 358, descriptorIndex := 339, attributes := #[] }, { accessFlags := 25, nameIndex := 361, descriptorIndex := 339, attributes := #[] }, { accessFlags := 26, nameIndex := 364, descriptorIndex := 339, attributes := #[] }, { accessFlags := 26, nameIndex := 365, descriptorIndex := 339, attributes := #[] }, { accessFlags := 26, nameIndex := 172, descriptorIndex := 173, attributes := #[] }, { accessFlags := 26, nameIndex := 176, descriptorIndex := 173, attributes := #[] }, { accessFlags := 8, nameIndex := 344, descriptorIndex := 339, attributes := #[] }, { accessFlags := 8, nameIndex := 338, descriptorIndex := 339, attributes := #[] }, { accessFlags := 4120, nameIndex := 245, descriptorIndex := 246, attributes := #[] }])
  fields := #[{ name := "E", type := .double, accessFlags := 25, slot := 0, constantValue := 0 }, { name := "PI", type := .double, accessFlags := 25, slot := 1, constantValue := 0 }, { name := "TAU", type := .double, accessFlags := 25, slot := 2, constantValue := 0 }, { name := "DEGREES_TO_RADIANS", type := .double, accessFlags := 26, slot := 3, constantValue := 0 }, { name := "RADIANS_TO_DEGREES", type := .double, accessFlags := 26, slot := 4, constantValue := 0 }, { name := "negativeZeroFloatBits", type := .long, accessFlags := 26, slot := 5, constantValue := 0 }, { name := "negativeZeroDoubleBits", type := .long, accessFlags := 26, slot := 6, constantValue := 0 }, { name := "twoToTheDoubleScaleUp", type := .double, accessFlags := 8, slot := 7, constantValue := 0 }, { name := "twoToTheDoubleScaleDown", type := .double, accessFlags := 8, slot := 8, constantValue := 0 }, { name := "$assertionsDisabled", type := .boolean, accessFlags := 4120, slot := 9, constantValue := 0 }]
  methods := #[k14m0, k14m1]
  instanceTypes := #[]
  staticTypes := #[.double, .double, .double, .double, .double, .long, .long, .double, .double, .boolean]
  resolved := Array.replicate 460 none
  statics := none }

/-- the primitive byte -/
def k15 : Class := { plain "byte" none with kind := .primitive 'B', accessFlags := 0x411 }
/-- [B -/
def k16 : Class := { plain "[B" (some 0) with kind := .array 15 .byte, interfaces := #[11, 12], accessFlags := 1041 }

/-- the primitive double -/
def k17 : Class := { plain "double" none with kind := .primitive 'D', accessFlags := 0x411 }
/-- [D -/
def k18 : Class := { plain "[D" (some 0) with kind := .array 17 .double, interfaces := #[11, 12], accessFlags := 1041 }

/-- the primitive int -/
def k19 : Class := { plain "int" none with kind := .primitive 'I', accessFlags := 0x411 }
/-- [I -/
def k20 : Class := { plain "[I" (some 0) with kind := .array 19 .int, interfaces := #[11, 12], accessFlags := 1041 }

/-- [Ljava/lang/Object; -/
def k21 : Class := { plain "[Ljava/lang/Object;" (some 0) with kind := .array 0 (.object "java/lang/Object"), interfaces := #[11, 12], accessFlags := 1041 }

def heap : Heap := #[{ cls := 13, slots := #[.long 0, .int 0, .ref 1, .ref 2], vm := .statics 13 },
  { cls := 21, slots := #[], vm := .none },
  { cls := 21, slots := #[], vm := .none }]
def classes : Array Class := #[k0, k1, k2, k3, k4, k5, k6, k7, k8, k9, k10, k11, k12, k13, k14, k15, k16, k17, k18, k19, k20, k21]
def interned : List (Array UInt16 × Addr) := []
def slotsUsed : Nat := 4
def theMethod : MethodId := ⟨1, 1⟩
def args0 : Array Value := #[.int 20, .int 11, .int 3, .int 4, .int 5]
def aboutOver (below : List Frame) : State where
  vm := { classes := classes, interned := interned.toArray }
  heap := heap
  slotsUsed := slotsUsed
  threads := #[{ frames := .invoking theMethod args0 :: below }]
def below0 : List Frame := [.native { method := ⟨0, 0⟩, args := #[] }]
def about1 : State := aboutOver below0
def p0 : Program := .bare "" "" ""
def e0 : Env := launch0.env 0 0 0
theorem w_frames : about1.frames = Frame.invoking theMethod args0 :: below0 := rfl
set_option maxRecDepth 65536 in
theorem w_args : argsFit about1.vm theMethod args0 = true := by decide +kernel
set_option maxRecDepth 65536 in
theorem w_heap : heapFits about1 = true := by decide +kernel
set_option maxRecDepth 65536 in
theorem w_runnable : about1.curStatus? = some .runnable := by decide +kernel
set_option maxRecDepth 65536 in
theorem w_alone : about1.alone = true := by decide +kernel
set_option maxRecDepth 65536 in
theorem w_named : about1.methodNamed? x = some theMethod := by decide +kernel
set_option maxRecDepth 65536 in
theorem w_hears : about1.hears theMethod below0 = true := by decide +kernel
set_option maxRecDepth 65536 in
theorem w_ripe : about1.ripe theMethod args0 below0 = true := by decide +kernel
theorem w_running : about1.status = .running := rfl
set_option maxRecDepth 65536 in
theorem w_room : about1.hasRoom e0.platform room_1 = true :=
  launch0.hasRoom_least _ room_1 (by decide +kernel) (by decide +kernel) (by decide +kernel) (by decide +kernel) (by decide +kernel) (by decide +kernel)
theorem allAtoms_all (ts : List Jvm.Cond) (a : Array Jvm.Value) (st : Jvm.State) : (allAtoms ts).before a st = ts.all (fun c => c.before a st) := by
  induction ts with
  | nil => rfl
  | cons c t ih =>
    show (Jvm.Cond.and c (allAtoms t)).before a st = _
    rw [Jvm.Cond.before_and, ih, List.all_cons]
def words1 : List Jvm.Cond := Jvm.Cond.code x code maxLocals ret :: tables_1
/-- a 'code' word, met by the world's own term for the bytes: nothing is compared byte by byte -/
theorem code_word {y : MethodName} {bytes : ByteArray} {mx : Nat} {rt : Option FieldType} {a : Array Value} {s : State} {m : MethodId} {meth : Method} {c : Code} (h1 : s.methodNamed? y = some m) (h2 : s.vm.method? m = some meth) (h3 : meth.code = some c) (h4 : c.code = bytes)
    (h5 : (c.maxLocals == mx && c.exceptionTable.isEmpty && decide (c.maxStack ≤ mostOperands) && decide (meth.sig.returnType = rt) && !meth.locks && decide (parseMethodDescriptor y.desc = some meth.sig)) = true) : (Jvm.Cond.code y bytes mx rt).before a s = true := by
  simp only [Bool.and_eq_true, beq_iff_eq, Bool.not_eq_true', decide_eq_true_eq] at h5
  obtain ⟨⟨⟨⟨⟨g1, g2⟩, g3⟩, g4⟩, g5⟩, g6⟩ := h5
  simp [Cond.before, Cond.holds, Cond.value, h1, h2, h3, h4, g1, g2, g3, g4, g5, g6]
def isCode : Jvm.Cond → Bool
  | .code _ _ _ _ => true
  | _ => false
theorem all_split {L : List Jvm.Cond} {P : Jvm.Cond → Bool} (h1 : L.all (fun c => isCode c || P c) = true) (h2 : ∀ c ∈ L.filter isCode, P c = true) : L.all P = true := by
  refine List.all_eq_true.mpr fun c hc => ?_
  have h := List.all_eq_true.mp h1 c hc
  rcases Bool.eq_false_or_eq_true (isCode c) with hi | hi
  · exact h2 c (List.mem_filter.mpr ⟨hc, hi⟩)
  · simpa [hi] using h
set_option maxRecDepth 65536 in
theorem w_c0 : (Jvm.Cond.code x code maxLocals ret).before args0 about1 = true := code_word (m := ⟨1, 1⟩) (meth := k1m1) (c := k1c1) (by decide +kernel) rfl rfl rfl (by decide +kernel)
set_option maxRecDepth 65536 in
theorem w_c1 : (Jvm.Cond.code ({ cls := "com/example/attacca/attacca/DecimatingBuffer", name := "<init>", desc := "(I)V" } : Jvm.MethodName) prog_4_method_1_code (2 : Nat) (Option.none : Option Jvm.ClassFile.FieldType)).before args0 about1 = true := code_word (m := ⟨3, 0⟩) (meth := k3m0) (c := k3c0) (by decide +kernel) rfl rfl rfl (by decide +kernel)
set_option maxRecDepth 65536 in
theorem w_c2 : (Jvm.Cond.code ({ cls := "java/lang/Object", name := "<init>", desc := "()V" } : Jvm.MethodName) object_method_1_code (1 : Nat) (Option.none : Option Jvm.ClassFile.FieldType)).before args0 about1 = true := code_word (m := ⟨0, 0⟩) (meth := k0m0) (c := k0c0) (by decide +kernel) rfl rfl rfl (by decide +kernel)
set_option maxRecDepth 65536 in
theorem w_c3 : (Jvm.Cond.code ({ cls := "java/util/ArrayList", name := "<init>", desc := "()V" } : Jvm.MethodName) jdk_38_method_2_code (1 : Nat) (Option.none : Option Jvm.ClassFile.FieldType)).before args0 about1 = true := code_word (m := ⟨13, 0⟩) (meth := k13m0) (c := k13c0) (by decide +kernel) rfl rfl rfl (by decide +kernel)
set_option maxRecDepth 65536 in
theorem w_c4 : (Jvm.Cond.code ({ cls := "java/util/AbstractList", name := "<init>", desc := "()V" } : Jvm.MethodName) jdk_39_method_1_code (1 : Nat) (Option.none : Option Jvm.ClassFile.FieldType)).before args0 about1 = true := code_word (m := ⟨9, 0⟩) (meth := k9m0) (c := k9c0) (by decide +kernel) rfl rfl rfl (by decide +kernel)
set_option maxRecDepth 65536 in
theorem w_c5 : (Jvm.Cond.code ({ cls := "java/util/AbstractCollection", name := "<init>", desc := "()V" } : Jvm.MethodName) jdk_22_method_1_code (1 : Nat) (Option.none : Option Jvm.ClassFile.FieldType)).before args0 about1 = true := code_word (m := ⟨6, 0⟩) (meth := k6m0) (c := k6c0) (by decide +kernel) rfl rfl rfl (by decide +kernel)
set_option maxRecDepth 65536 in
theorem w_c6 : (Jvm.Cond.code ({ cls := "java/lang/Math", name := "min", desc := "(II)I" } : Jvm.MethodName) jdk_29_method_69_code (2 : Nat) (Option.some Jvm.ClassFile.FieldType.int)).before args0 about1 = true := code_word (m := ⟨14, 1⟩) (meth := k14m1) (c := k14c1) (by decide +kernel) rfl rfl rfl (by decide +kernel)
set_option maxRecDepth 65536 in
theorem w_c7 : (Jvm.Cond.code ({ cls := "com/example/attacca/attacca/DecimatingBuffer", name := "stride", desc := "()J" } : Jvm.MethodName) prog_4_method_6_code (1 : Nat) (Option.some Jvm.ClassFile.FieldType.long)).before args0 about1 = true := code_word (m := ⟨3, 4⟩) (meth := k3m4) (c := k3c4) (by decide +kernel) rfl rfl rfl (by decide +kernel)
set_option maxRecDepth 65536 in
theorem w_c8 : (Jvm.Cond.code ({ cls := "java/util/ArrayList", name := "size", desc := "()I" } : Jvm.MethodName) jdk_38_method_8_code (1 : Nat) (Option.some Jvm.ClassFile.FieldType.int)).before args0 about1 = true := code_word (m := ⟨13, 1⟩) (meth := k13m1) (c := k13c1) (by decide +kernel) rfl rfl rfl (by decide +kernel)
set_option maxRecDepth 65536 in
theorem w_c9 : (Jvm.Cond.code ({ cls := "com/example/attacca/attacca/DecimatingBuffer", name := "accept", desc := "(D)V" } : Jvm.MethodName) prog_4_method_2_code (3 : Nat) (Option.none : Option Jvm.ClassFile.FieldType)).before args0 about1 = true := code_word (m := ⟨3, 1⟩) (meth := k3m1) (c := k3c1) (by decide +kernel) rfl rfl rfl (by decide +kernel)
set_option maxRecDepth 65536 in
theorem w_c10 : (Jvm.Cond.code ({ cls := "com/example/attacca/attacca/DecimatingBuffer", name := "pass", desc := "(ID)V" } : Jvm.MethodName) prog_4_method_7_code (8 : Nat) (Option.none : Option Jvm.ClassFile.FieldType)).before args0 about1 = true := code_word (m := ⟨3, 5⟩) (meth := k3m5) (c := k3c5) (by decide +kernel) rfl rfl rfl (by decide +kernel)
set_option maxRecDepth 65536 in
theorem w_c11 : (Jvm.Cond.code ({ cls := "com/example/attacca/attacca/DecimatingBuffer", name := "count", desc := "()I" } : Jvm.MethodName) prog_4_method_5_code (1 : Nat) (Option.some Jvm.ClassFile.FieldType.int)).before args0 about1 = true := code_word (m := ⟨3, 3⟩) (meth := k3m3) (c := k3c3) (by decide +kernel) rfl rfl rfl (by decide +kernel)
set_option maxRecDepth 65536 in
theorem w_c12 : (Jvm.Cond.code ({ cls := "com/example/attacca/attacca/DecimatingBuffer", name := "end", desc := "()V" } : Jvm.MethodName) prog_4_method_3_code (3 : Nat) (Option.none : Option Jvm.ClassFile.FieldType)).before args0 about1 = true := code_word (m := ⟨3, 2⟩) (meth := k3m2) (c := k3c2) (by decide +kernel) rfl rfl rfl (by decide +kernel)
def codes1 : List Jvm.Cond := [Jvm.Cond.code x code maxLocals ret, Jvm.Cond.code ({ cls := "com/example/attacca/attacca/DecimatingBuffer", name := "<init>", desc := "(I)V" } : Jvm.MethodName) prog_4_method_1_code (2 : Nat) (Option.none : Option Jvm.ClassFile.FieldType), Jvm.Cond.code ({ cls := "java/lang/Object", name := "<init>", desc := "()V" } : Jvm.MethodName) object_method_1_code (1 : Nat) (Option.none : Option Jvm.ClassFile.FieldType), Jvm.Cond.code ({ cls := "java/util/ArrayList", name := "<init>", desc := "()V" } : Jvm.MethodName) jdk_38_method_2_code (1 : Nat) (Option.none : Option Jvm.ClassFile.FieldType), Jvm.Cond.code ({ cls := "java/util/AbstractList", name := "<init>", desc := "()V" } : Jvm.MethodName) jdk_39_method_1_code (1 : Nat) (Option.none : Option Jvm.ClassFile.FieldType), Jvm.Cond.code ({ cls := "java/util/AbstractCollection", name := "<init>", desc := "()V" } : Jvm.MethodName) jdk_22_method_1_code (1 : Nat) (Option.none : Option Jvm.ClassFile.FieldType), Jvm.Cond.code ({ cls := "java/lang/Math", name := "min", desc := "(II)I" } : Jvm.MethodName) jdk_29_method_69_code (2 : Nat) (Option.some Jvm.ClassFile.FieldType.int), Jvm.Cond.code ({ cls := "com/example/attacca/attacca/DecimatingBuffer", name := "stride", desc := "()J" } : Jvm.MethodName) prog_4_method_6_code (1 : Nat) (Option.some Jvm.ClassFile.FieldType.long), Jvm.Cond.code ({ cls := "java/util/ArrayList", name := "size", desc := "()I" } : Jvm.MethodName) jdk_38_method_8_code (1 : Nat) (Option.some Jvm.ClassFile.FieldType.int), Jvm.Cond.code ({ cls := "com/example/attacca/attacca/DecimatingBuffer", name := "accept", desc := "(D)V" } : Jvm.MethodName) prog_4_method_2_code (3 : Nat) (Option.none : Option Jvm.ClassFile.FieldType), Jvm.Cond.code ({ cls := "com/example/attacca/attacca/DecimatingBuffer", name := "pass", desc := "(ID)V" } : Jvm.MethodName) prog_4_method_7_code (8 : Nat) (Option.none : Option Jvm.ClassFile.FieldType), Jvm.Cond.code ({ cls := "com/example/attacca/attacca/DecimatingBuffer", name := "count", desc := "()I" } : Jvm.MethodName) prog_4_method_5_code (1 : Nat) (Option.some Jvm.ClassFile.FieldType.int), Jvm.Cond.code ({ cls := "com/example/attacca/attacca/DecimatingBuffer", name := "end", desc := "()V" } : Jvm.MethodName) prog_4_method_3_code (3 : Nat) (Option.none : Option Jvm.ClassFile.FieldType)]
set_option maxRecDepth 65536 in
theorem codes_eq : words1.filter isCode = codes1 := rfl
theorem w_codes : ∀ c ∈ words1.filter isCode, c.before args0 about1 = true := by
  rw [codes_eq]
  intro c hc
  simp only [codes1, List.mem_cons, List.not_mem_nil, or_false] at hc
  rcases hc with rfl | rfl | rfl | rfl | rfl | rfl | rfl | rfl | rfl | rfl | rfl | rfl | rfl
  · exact w_c0
  · exact w_c1
  · exact w_c2
  · exact w_c3
  · exact w_c4
  · exact w_c5
  · exact w_c6
  · exact w_c7
  · exact w_c8
  · exact w_c9
  · exact w_c10
  · exact w_c11
  · exact w_c12
set_option maxRecDepth 65536 in
theorem w_t1 : (words1.take 24).all (fun c => isCode c || c.before args0 about1) = true := by decide +kernel
set_option maxRecDepth 65536 in
theorem w_t2 : ((words1.drop 24).take 24).all (fun c => isCode c || c.before args0 about1) = true := by decide +kernel
set_option maxRecDepth 65536 in
theorem w_t3 : (((words1.drop 24).drop 24).take 24).all (fun c => isCode c || c.before args0 about1) = true := by decide +kernel
set_option maxRecDepth 65536 in
theorem w_t4 : (((words1.drop 24).drop 24).drop 24).all (fun c => isCode c || c.before args0 about1) = true := by decide +kernel
theorem w_tables : (allAtoms (Jvm.Cond.code x code maxLocals ret :: tables_1)).before args0 about1 = true := by
  rw [allAtoms_all]
  show words1.all (fun c => c.before args0 about1) = true
  refine all_split ?_ w_codes
  rw [← List.take_append_drop 24 words1, List.all_append, w_t1, ← List.take_append_drop 24 (words1.drop 24), List.all_append, w_t2, ← List.take_append_drop 24 ((words1.drop 24).drop 24), List.all_append, w_t3, w_t4]
  rfl
set_option maxRecDepth 65536 in
theorem w_rest : rest_1_c.before args0 about1 = true := by decide +kernel
set_option maxRecDepth 65536 in
theorem w_case : (Jvm.Cond.and given_1 narrow_1).before args0 about1 = true := by decide +kernel
theorem w_applies : (headSpec (Jvm.Cond.code x code maxLocals ret :: tables_1) room_1).applies x e0.platform about1 = true :=
  (Spec.applies_iff w_frames).mpr ⟨w_running, w_runnable, w_alone, w_named, w_hears, w_ripe, w_room, w_tables⟩
theorem atStart : AtStart classFile x code maxLocals ret World_1 tables_1 room_1 Calls_1 rest_1 Pre_1 launch0 p0 e0 about1 theMethod args0 below0 :=
  ⟨lists_1, trivial, launch0.admits_env _ _ _, launch0.least_env, fairChoices_fair.cas, fairChoices_fair.clock, w_frames, w_args, w_heap, w_applies, trivial, w_rest, w_case⟩
end start1
theorem witness_1 : WitnessClaimed_1 := ⟨start1.p0, start1.e0, start1.about1, start1.theMethod, start1.args0, start1.below0, start1.atStart⟩
end Jvm.Pilot.@@N@@
