import JvmDerived
import JvmDerived.Pilot.@@N@@Statement
import JvmDerived.Pilot.@@N@@Code
set_option linter.unusedVariables false
set_option linter.unusedSimpArgs false
namespace Jvm.RoadKit
open Sem ClassFile Op Lib Jvm.Stand Jvm.Free Jvm.LawKit
section New
variable {p : Program} {l : Launch} {e : Env} {R : Room} {s : State} {m : MethodId} {args : Array Value} {below : List Frame} {meth : Method} {c : Code} {T : State} {locs : List Loc} {cells slots : Nat}
theorem retI (X : Stand p l e R s m args below meth c T locs cells slots) (hx : p.tables.exec = Jvm.exec) {pc : Nat} {Ls : Array Slot} {z : Int32} {rest : List Value} (hret : meth.sig.returnType = some .int) (hd : decode c.code pc = .ok (.ireturn, 1)) {fs : List Frame}
    (hl : ∀ (f : JFrame) (acts : List Action), f.method = m → f.locked = none → f.entered = [] → (doReturn e (T.setTop f) acts (some (.int z))).1 = T.setFrames fs) : Steps p.tables e below (T.setTop (mkF m pc Ls (.int z :: rest))) (T.setFrames fs) := by
  have hm' : T.vm.method? m = some meth := X.method'
  have hn : narrow .int (.int z) = .int z := rfl
  show Steps p.tables e below (T.setTop { method := m, pc := pc, locals := Ls, stack := _ :: rest, locked := none }) _
  jvm_step X.here [X.here.top, hx, hd, hm', hret, hn]
  first | (intro acts; rw [hl _ acts rfl rfl rfl]) | rw [hl _ _ rfl rfl rfl]
  exact Steps.refl _
theorem own_retJ (X : Stand p l e R s m args below meth c T locs cells slots) (hx : p.tables.exec = Jvm.exec) {pc : Nat} {Ls : Array Slot} {z : Int64} {rest : List Value} (hret : meth.sig.returnType = some .long) (hd : decode c.code pc = .ok (.lreturn, 1)) {fs : List Frame}
    (hl : ∀ (f : JFrame) (acts : List Action), f.method = m → f.locked = none → f.entered = [] → (doReturn e (T.setTop f) acts (some (.long z))).1 = T.setFrames fs) : Steps p.tables e below (T.setTop (mkF m pc Ls (.long z :: rest))) (T.setFrames fs) := by
  have hm' : T.vm.method? m = some meth := X.method'
  show Steps p.tables e below (T.setTop { method := m, pc := pc, locals := Ls, stack := _ :: rest, locked := none }) _
  jvm_step X.here [X.here.top, hx, hd, hm', hret, narrow]
  first | (intro acts; rw [hl _ acts rfl rfl rfl]) | rw [hl _ _ rfl rfl rfl]
  exact Steps.refl _
theorem own_retD (X : Stand p l e R s m args below meth c T locs cells slots) (hx : p.tables.exec = Jvm.exec) {pc : Nat} {Ls : Array Slot} {z : UInt64} {rest : List Value} (hret : meth.sig.returnType = some .double) (hd : decode c.code pc = .ok (.dreturn, 1)) {fs : List Frame}
    (hl : ∀ (f : JFrame) (acts : List Action), f.method = m → f.locked = none → f.entered = [] → (doReturn e (T.setTop f) acts (some (.double z))).1 = T.setFrames fs) : Steps p.tables e below (T.setTop (mkF m pc Ls (.double z :: rest))) (T.setFrames fs) := by
  have hm' : T.vm.method? m = some meth := X.method'
  show Steps p.tables e below (T.setTop { method := m, pc := pc, locals := Ls, stack := _ :: rest, locked := none }) _
  jvm_step X.here [X.here.top, hx, hd, hm', hret, narrow]
  first | (intro acts; rw [hl _ acts rfl rfl rfl]) | rw [hl _ _ rfl rfl rfl]
  exact Steps.refl _
theorem own_retR (X : Stand p l e R s m args below meth c T locs cells slots) (hx : p.tables.exec = Jvm.exec) {pc : Nat} {Ls : Array Slot} {z : Addr} {rest : List Value} {ty : FieldType} (hret : meth.sig.returnType = some ty) (hty : ty.isReference = true) (hd : decode c.code pc = .ok (.areturn, 1)) {fs : List Frame}
    (hl : ∀ (f : JFrame) (acts : List Action), f.method = m → f.locked = none → f.entered = [] → (doReturn e (T.setTop f) acts (some (.ref z))).1 = T.setFrames fs) : Steps p.tables e below (T.setTop (mkF m pc Ls (.ref z :: rest))) (T.setFrames fs) := by
  have hm' : T.vm.method? m = some meth := X.method'
  show Steps p.tables e below (T.setTop { method := m, pc := pc, locals := Ls, stack := _ :: rest, locked := none }) _
  jvm_step X.here [X.here.top, hx, hd, hm', hret, hty, Value.isRef]
  first | (intro acts; rw [hl _ acts rfl rfl rfl]) | rw [hl _ _ rfl rfl rfl]
  exact Steps.refl _
theorem own_selp {Z : State} {a0 : Array Value} {y : MethodName} {n : Nat} (hy : y.cls ≠ "java/lang/invoke/MethodHandle" ∧ y.cls ≠ "java/lang/invoke/VarHandle") (h1 : (Cond.instantiable y.cls n).before a0 Z = true) (h2 : (Cond.privateMethod y).before a0 Z = true) (h3 : (Cond.instanceMethod y).before a0 Z = true) : (Cond.selects y.cls y y).before a0 Z = true := by
  obtain ⟨c, k, hc, hk, -, hf, -⟩ := Cond.instantiable_spec h1
  exact selects_self_of_private hc hk (Bool.or_eq_false_iff.mp hf).1 (Cond.privateMethod_at h2) h3 hy
theorem own_nm0 {a : Addr} : a ∉ ([] : List Addr) := List.not_mem_nil
theorem own_nmc {a w : Addr} {ws : List Addr} (h : a ≠ w) (r : a ∉ ws) : a ∉ w :: ws := fun q => (List.mem_cons.mp q).elim h r
theorem own_wm0 {P : Addr → Prop} : ∀ x ∈ ([] : List Addr), P x := fun _ q => nomatch q
theorem own_wmc {P : Addr → Prop} {w : Addr} {ws : List Addr} (h : P w) (r : ∀ x ∈ ws, P x) : ∀ x ∈ w :: ws, P x := fun x q => (List.mem_cons.mp q).elim (fun z => z ▸ h) (r x)
end New
end Jvm.RoadKit
namespace Jvm.OwnFP
open Jvm.FP Jvm.Free.Fl Sem ClassFile Op
/-- the double's value in units of 2 ^ -1074 -/
def zv (x : UInt64) : Int := Core.zval Core.b64 (Core.val64 x)
def zm (x : UInt64) : Nat := Core.zmag Core.b64 (Core.val64 x)
theorem nn {x : UInt64} (h : NoNaN64 x) : Core.val64 x ≠ .nan := (Core.notNaN_iff x).mp (noNaN64_no.mp h)
theorem nnF {x : UInt64} (h : Fin64 x) : NoNaN64 x := h.noNaN
theorem cv {x y : UInt64} (hx : NoNaN64 x) (hy : NoNaN64 y) (o : CmpOp) : cmpValue (FP.dcmp x y) o = if zv x < zv y then -1 else if zv x = zv y then 0 else 1 := by
  have h : FP.dcmp x y = some (compare (zv x) (zv y)) := Core.dcmp_zval (nn hx) (nn hy)
  rw [h, Core.compare_ite]
  by_cases h1 : zv x < zv y
  · rw [if_pos h1, if_pos h1]; cases o <;> rfl
  · rw [if_neg h1, if_neg h1]
    by_cases h2 : zv x = zv y
    · rw [if_pos h2, if_pos h2]; cases o <;> rfl
    · rw [if_neg h2, if_neg h2]; cases o <;> rfl
theorem cv_lt {x y : UInt64} (hx : NoNaN64 x) (hy : NoNaN64 y) (h : zv x < zv y) (o : CmpOp) : cmpValue (FP.dcmp x y) o = -1 := by rw [cv hx hy, if_pos h]
theorem cv_eq {x y : UInt64} (hx : NoNaN64 x) (hy : NoNaN64 y) (h : zv x = zv y) (o : CmpOp) : cmpValue (FP.dcmp x y) o = 0 := by rw [cv hx hy, if_neg (by omega), if_pos h]
theorem cv_gt {x y : UInt64} (hx : NoNaN64 x) (hy : NoNaN64 y) (h : zv y < zv x) (o : CmpOp) : cmpValue (FP.dcmp x y) o = 1 := by rw [cv hx hy, if_neg (by omega), if_neg (by omega)]
theorem cv_ge {x y : UInt64} (hx : NoNaN64 x) (hy : NoNaN64 y) (h : zv y ≤ zv x) (o : CmpOp) : ¬ cmpValue (FP.dcmp x y) o < 0 := by
  rw [cv hx hy, if_neg (by omega)]; split <;> decide
theorem cv_le {x y : UInt64} (hx : NoNaN64 x) (hy : NoNaN64 y) (h : zv x ≤ zv y) (o : CmpOp) : ¬ 0 < cmpValue (FP.dcmp x y) o := by
  rw [cv hx hy]; split
  · decide
  · rw [if_pos (by omega)]; decide
theorem sh {x : UInt64} (h : Fin64 x) : ∃ s c q, Core.val64 x = .fin s c q := fin64_core.mp h
theorem zv_dint {i : Int} {x : UInt64} (h : Core.DInt i x) : zv x = i * (Core.one64 : Int) := Core.DInt_zval h
theorem zv_zero : zv 0 = 0 := Core.zval64_zero
theorem fin_zero : Fin64 0 := by unfold Fin64; decide
theorem fin_one : Fin64 4607182418800017408 := by unfold Fin64; decide
theorem one_pos : (0 : Int) < (Core.one64 : Int) := by have := Core.one64_pos; omega
theorem zv_sgn (x : UInt64) : zv x = Core.signed (Core.sgn (Core.val64 x)) (zm x) := rfl
theorem zm_abs (x : UInt64) : (zv x).natAbs = zm x := by rw [zv_sgn, Core.natAbs_signed]
theorem add_le {x y v : UInt64} (hx : Fin64 x) (hy : Fin64 y) (hv : NoNaN64 v) (h : zv x + zv y ≤ zv v) : zv (FP.dadd x y) ≤ zv v := by
  show Core.zval Core.b64 (Core.val64 (Core.dadd x y)) ≤ _
  rw [Core.val64_dadd]
  exact Core.sum_le Core.good_b64 (sh hx) (sh hy) (Core.val64_fits x) (Core.val64_fits y) (Core.val64_fits v) (nn hv) h
theorem add_ge {x y v : UInt64} (hx : Fin64 x) (hy : Fin64 y) (hv : NoNaN64 v) (h : zv v ≤ zv x + zv y) : zv v ≤ zv (FP.dadd x y) := by
  show _ ≤ Core.zval Core.b64 (Core.val64 (Core.dadd x y))
  rw [Core.val64_dadd]
  exact Core.sum_ge Core.good_b64 (sh hx) (sh hy) (Core.val64_fits x) (Core.val64_fits y) (Core.val64_fits v) (nn hv) h
theorem shn {x : UInt64} (h : Fin64 x) : ∃ s c q, Core.negate (Core.val64 x) = .fin s c q := by
  obtain ⟨s, c, q, e⟩ := sh h; exact ⟨!s, c, q, by rw [e]; rfl⟩
theorem sub_le {x y v : UInt64} (hx : Fin64 x) (hy : Fin64 y) (hv : NoNaN64 v) (h : zv x - zv y ≤ zv v) : zv (FP.dsub x y) ≤ zv v := by
  show Core.zval Core.b64 (Core.val64 (Core.dsub x y)) ≤ _
  rw [Core.val64_dsub]
  exact Core.sum_le Core.good_b64 (sh hx) (shn hy) (Core.val64_fits x) (Core.negate_fits (Core.val64_fits y)) (Core.val64_fits v) (nn hv) (by rw [Core.zval_negate]; exact h)
theorem sub_ge {x y v : UInt64} (hx : Fin64 x) (hy : Fin64 y) (hv : NoNaN64 v) (h : zv v ≤ zv x - zv y) : zv v ≤ zv (FP.dsub x y) := by
  show _ ≤ Core.zval Core.b64 (Core.val64 (Core.dsub x y))
  rw [Core.val64_dsub]
  exact Core.sum_ge Core.good_b64 (sh hx) (shn hy) (Core.val64_fits x) (Core.negate_fits (Core.val64_fits y)) (Core.val64_fits v) (nn hv) (by rw [Core.zval_negate]; exact h)
/-- no NaN and no greater than something finite: finite -/
theorem fin_of {x v : UInt64} (hx : NoNaN64 x) (hv : Fin64 v) (h : zm x ≤ zm v) : Fin64 x := by
  refine fin64_core.mpr ?_
  have h1 : Core.zmag Core.b64 (Core.val64 v) < _ := (fin64_core.mp hv).zval_lt
  have h2 := nn hx
  unfold zm at h
  cases e : Core.val64 x with
  | nan => exact absurd e h2
  | inf s => rw [e] at h; exact absurd (Nat.lt_of_le_of_lt h h1) (Nat.lt_irrefl _)
  | fin s c q => exact ⟨s, c, q, e⟩
/-- 2 ^ -k in those units -/
def U (k : Nat) : Int := ((2 ^ (1074 - k) : Nat) : Int)
theorem U_pos (k : Nat) : 0 < U k := by unfold U; have := Nat.two_pow_pos (1074 - k); omega
theorem U_zero : U 0 = (Core.one64 : Int) := rfl
theorem U_add {k j : Nat} (h : k + j ≤ 1074) : U k = ((2 ^ j : Nat) : Int) * U (k + j) := by
  unfold U
  rw [← Int.natCast_mul, ← Nat.pow_add, show j + (1074 - (k + j)) = 1074 - k by omega]
/-- x is i / 2 ^ k, exactly -/
def Is (x : UInt64) (i : Int) (k : Nat) : Prop := Fin64 x ∧ zv x = i * U k
theorem signed_abs (i : Int) : Core.signed (decide (i < 0)) i.natAbs = i := by
  unfold Core.signed
  by_cases h : i < 0
  · simp [h]; omega
  · simp [h]; omega
theorem repr (i : Int) (k : Nat) (hk : k ≤ 1074) (hi : i.natAbs < 2 ^ 53) : ∃ v : UInt64, Is v i k := by
  obtain ⟨c', q', h1, h2⟩ := Core.round_exact Core.good_b64 (decide (i < 0)) (c := i.natAbs) (q := -(k : Int)) hi (by rw [Core.qmin_b64]; omega) (by show _ ≤ (971 : Int); omega)
  have hf : Core.fits Core.b64 (.fin (decide (i < 0)) c' q') := h1 ▸ Core.round_fits Core.good_b64 _
  have hv := Core.val64_of64 hf
  refine ⟨Core.of64 (.fin (decide (i < 0)) c' q'), fin64_core.mpr ⟨_, _, _, hv⟩, ?_⟩
  unfold zv Core.zval
  rw [hv]
  show Core.signed (decide (i < 0)) (Core.inUnits c' q' Core.b64.qmin) = _
  rw [h2]
  unfold Core.inUnits
  rw [Core.signed_mul, signed_abs, Core.qmin_b64]
  unfold U
  rw [show (-(k : Int) - -1074).toNat = 1074 - k by omega]
theorem is_dint {i : Int} {x : UInt64} (h : Core.DInt i x) (hf : Fin64 x) : Is x i 0 := ⟨hf, by rw [zv_dint h, U_zero]⟩
theorem is_i2d (v : Int32) : Is (FP.i2d v) v.toInt 0 := is_dint (Core.i2d_int v) (i2d_fin v)
theorem is_l2d {v : Int64} (h : v.toInt.natAbs ≤ 2 ^ 53) : Is (FP.l2d v) v.toInt 0 := is_dint (Core.l2d_int h) (l2d_fin v)
theorem is_zero (k : Nat) : Is 0 0 k := ⟨fin_zero, by rw [zv_zero, Int.zero_mul]⟩
theorem is_one : Is 4607182418800017408 1 0 := is_dint Core.dint_one fin_one
theorem Is.nn {x : UInt64} {i : Int} {k : Nat} (h : Is x i k) : NoNaN64 x := h.1.noNaN
theorem Is.up {x : UInt64} {i : Int} {k : Nat} (h : Is x i k) (j : Nat) (hj : k + j ≤ 1074) : Is x (i * ((2 ^ j : Nat) : Int)) (k + j) := ⟨h.1, by rw [h.2, U_add hj, Int.mul_assoc]⟩
theorem is_val {x v : UInt64} {i : Int} {k : Nat} (hn : NoNaN64 x) (hv : Is v i k) (h : zv x = zv v) : Is x i k := ⟨fin_of hn hv.1 (by rw [← zm_abs, ← zm_abs, h]; exact Nat.le_refl _), h.trans hv.2⟩
theorem Is.add {x y : UInt64} {i j : Int} {k : Nat} (hx : Is x i k) (hy : Is y j k) (hk : k ≤ 1074) (h : (i + j).natAbs < 2 ^ 53) : Is (FP.dadd x y) (i + j) k := by
  obtain ⟨v, hv⟩ := repr (i + j) k hk h
  have e : zv x + zv y = zv v := by rw [hx.2, hy.2, hv.2, Int.add_mul]
  exact is_val (dadd_out hx.nn hy.1) hv (Int.le_antisymm (add_le hx.1 hy.1 hv.nn (by omega)) (add_ge hx.1 hy.1 hv.nn (by omega)))
theorem Is.sub {x y : UInt64} {i j : Int} {k : Nat} (hx : Is x i k) (hy : Is y j k) (hk : k ≤ 1074) (h : (i - j).natAbs < 2 ^ 53) : Is (FP.dsub x y) (i - j) k := by
  obtain ⟨v, hv⟩ := repr (i - j) k hk h
  have e : zv x - zv y = zv v := by rw [hx.2, hy.2, hv.2, Int.sub_mul]
  exact is_val (dsub_out hx.nn hy.1) hv (Int.le_antisymm (sub_le hx.1 hy.1 hv.nn (by omega)) (sub_ge hx.1 hy.1 hv.nn (by omega)))
theorem Is.lt_iff {x y : UInt64} {i j : Int} {k : Nat} (hx : Is x i k) (hy : Is y j k) : zv x < zv y ↔ i < j := by
  rw [hx.2, hy.2]; exact Int.mul_lt_mul_right (U_pos k)
theorem Is.eq_iff {x y : UInt64} {i j : Int} {k : Nat} (hx : Is x i k) (hy : Is y j k) : zv x = zv y ↔ i = j := by
  rw [hx.2, hy.2]; exact ⟨fun h => Int.eq_of_mul_eq_mul_right (Int.ne_of_gt (U_pos k)) h, fun h => by rw [h]⟩
theorem Is.cmp {x y : UInt64} {i j : Int} {k : Nat} (hx : Is x i k) (hy : Is y j k) (o : CmpOp) : cmpValue (FP.dcmp x y) o = if i < j then -1 else if i = j then 0 else 1 := by
  rw [cv hx.nn hy.nn]
  simp only [hx.lt_iff hy, hx.eq_iff hy]
/-- a quotient: her magnitude lies on the same side of any double as the true one; her sign is the signs' product -/
theorem div_shape {x y : UInt64} (hx : Fin64 x) (hy : Fin64 y) (hz : zm y ≠ 0) : ∃ (s t : Bool) (c d : Nat) (q r : Int), Core.val64 x = .fin s c q ∧ Core.val64 y = .fin t d r ∧ 0 < d ∧ Core.val64 (FP.ddiv x y) = Core.roundRatio Core.b64 (s != t) c d (q - r) := by
  obtain ⟨s, c, q, e1⟩ := sh hx
  obtain ⟨t, d, r, e2⟩ := sh hy
  have hd : d ≠ 0 := fun h => hz (by unfold zm; rw [e2]; show Core.inUnits d r _ = 0; rw [h]; simp [Core.inUnits])
  refine ⟨s, t, c, d, q, r, e1, e2, by omega, ?_⟩
  have := Core.val64_ddiv x y
  rw [e1, e2] at this
  show Core.val64 (Core.ddiv x y) = _
  rw [this]
  simp [Core.quotient, hd]
theorem units2 (c : Nat) (q r : Int) (hq : -1074 ≤ q) (hr : -1074 ≤ r) : Core.inUnits c (q - r) (-1074 - (r + 1074)) = Core.inUnits c q (-1074) * Core.one64 := by
  unfold Core.inUnits Core.one64
  rw [Nat.mul_assoc, ← Nat.pow_add]
  congr 2
  omega
theorem div_le {x y v : UInt64} (hx : Fin64 x) (hy : Fin64 y) (hz : zm y ≠ 0) (hv : NoNaN64 v) (h : zm x * Core.one64 ≤ zm v * zm y) : zm (FP.ddiv x y) ≤ zm v := by
  obtain ⟨s, t, c, d, q, r, e1, e2, hd, e3⟩ := div_shape hx hy hz
  have f1 := Core.val64_fits x; have f2 := Core.val64_fits y
  rw [e1] at f1; rw [e2] at f2
  have q1 := f1.2.1; have r1 := f2.2.1
  rw [Core.qmin_b64] at q1 r1
  unfold zm at h ⊢
  rw [e3]
  rw [e1, e2] at h
  refine Core.zmag_roundRatio_le Core.good_b64 hd (Core.val64_fits v) (nn hv) (e0 := -1074 - (r + 1074)) (by rw [Core.qmin_b64]; omega) (by omega) ?_
  rw [units2 c q r q1 r1, Core.qmin_b64, show (-1074 - (-1074 - (r + 1074))).toNat = (r + 1074).toNat by omega]
  change Core.inUnits c q Core.b64.qmin * _ ≤ _ * Core.inUnits d r Core.b64.qmin at h
  rw [Core.qmin_b64] at h
  refine Nat.le_trans h (Nat.le_of_eq ?_)
  unfold Core.inUnits
  rw [show (r - -1074).toNat = (r + 1074).toNat by omega]
  ac_rfl
theorem div_ge {x y v : UInt64} (hx : Fin64 x) (hy : Fin64 y) (hz : zm y ≠ 0) (h : zm v * zm y ≤ zm x * Core.one64) : zm v ≤ zm (FP.ddiv x y) := by
  obtain ⟨s, t, c, d, q, r, e1, e2, hd, e3⟩ := div_shape hx hy hz
  have f1 := Core.val64_fits x; have f2 := Core.val64_fits y
  rw [e1] at f1; rw [e2] at f2
  have q1 := f1.2.1; have r1 := f2.2.1
  rw [Core.qmin_b64] at q1 r1
  unfold zm at h ⊢
  rw [e3]
  rw [e1, e2] at h
  refine Core.zmag_roundRatio_ge Core.good_b64 hd (Core.val64_fits v) (e0 := -1074 - (r + 1074)) (by rw [Core.qmin_b64]; omega) (by omega) ?_
  rw [units2 c q r q1 r1, Core.qmin_b64, show (-1074 - (-1074 - (r + 1074))).toNat = (r + 1074).toNat by omega]
  change _ * Core.inUnits d r Core.b64.qmin ≤ Core.inUnits c q Core.b64.qmin * _ at h
  rw [Core.qmin_b64] at h
  refine Nat.le_trans (Nat.le_of_eq ?_) h
  unfold Core.inUnits
  rw [show (r - -1074).toNat = (r + 1074).toNat by omega]
  ac_rfl
theorem div_sgn {x y : UInt64} (hx : Fin64 x) (hy : Fin64 y) (hz : zm y ≠ 0) : Core.sgn (Core.val64 (FP.ddiv x y)) = (Core.sgn (Core.val64 x) != Core.sgn (Core.val64 y)) := by
  obtain ⟨s, t, c, d, q, r, e1, e2, hd, e3⟩ := div_shape hx hy hz
  rw [e3, Core.sgn_roundRatio, e1, e2]; rfl
theorem nz_of {y : UInt64} (hy : Fin64 y) (hz : zm y ≠ 0) : Nz64 y := by
  refine nz64_core.mpr fun ⟨s, q, e⟩ => hz ?_
  unfold zm; rw [e]; simp [Core.zmag, Core.inUnits]
theorem div_nn {x y : UInt64} (hx : Fin64 x) (hy : Fin64 y) (hz : zm y ≠ 0) : NoNaN64 (FP.ddiv x y) := ddiv_out hx.noNaN hy (nz_of hy hz)
theorem sgn_pos {x : UInt64} (h : 0 < zv x) : Core.sgn (Core.val64 x) = false := by
  rw [zv_sgn] at h
  cases e : Core.sgn (Core.val64 x)
  · rfl
  · rw [e] at h; simp [Core.signed] at h; omega
theorem zv_of_pos {x : UInt64} (h : Core.sgn (Core.val64 x) = false) : zv x = (zm x : Int) := by rw [zv_sgn, h]; rfl
theorem Is.zm {x : UInt64} {i : Int} {k : Nat} (h : Is x i k) : (OwnFP.zm x : Int) = (i.natAbs : Int) * U k := by
  rw [← zm_abs, h.2, Int.natAbs_mul, Int.natCast_mul, Int.natAbs_of_nonneg (Int.le_of_lt (U_pos k))]
/-- i / 2 ^ j is exact -/
theorem Is.div2 {x y : UInt64} {i : Int} {j : Nat} (hx : Is x i 0) (hy : Is y ((2 ^ j : Nat) : Int) 0) (hj : j ≤ 1074) (hi : i.natAbs < 2 ^ 53) : Is (FP.ddiv x y) i j := by
  obtain ⟨v, hv⟩ := repr i j hj hi
  have p2 := Nat.two_pow_pos j
  have hyz : (OwnFP.zm y : Int) = ((2 ^ j : Nat) : Int) * U 0 := by rw [hy.zm]; simp
  have hz : OwnFP.zm y ≠ 0 := fun h => by
    rw [h] at hyz
    have := Int.mul_pos (Int.natCast_pos.mpr p2) (U_pos 0)
    omega
  have e : OwnFP.zm x * Core.one64 = OwnFP.zm v * OwnFP.zm y := by
    have : ((OwnFP.zm x * Core.one64 : Nat) : Int) = ((OwnFP.zm v * OwnFP.zm y : Nat) : Int) := by
      rw [Int.natCast_mul, Int.natCast_mul, hx.zm, hv.zm, hyz, ← U_zero, U_add (k := 0) (j := j) (by omega), Nat.zero_add]
      ac_rfl
    exact Int.ofNat.inj this
  have em : OwnFP.zm (FP.ddiv x y) = OwnFP.zm v := Nat.le_antisymm (div_le hx.1 hy.1 hz hv.nn (Nat.le_of_eq e)) (div_ge hx.1 hy.1 hz (Nat.le_of_eq e.symm))
  have sy : Core.sgn (Core.val64 y) = false := sgn_pos (by rw [hy.2]; exact Int.mul_pos (Int.natCast_pos.mpr p2) (U_pos 0))
  refine ⟨fin_of (div_nn hx.1 hy.1 hz) hv.1 (Nat.le_of_eq em), ?_⟩
  rw [zv_sgn, div_sgn hx.1 hy.1 hz, sy, em]
  by_cases h0 : i = 0
  · have : OwnFP.zm v = 0 := by have := hv.zm; rw [h0] at this; simp at this; exact this
    rw [this, h0]; simp [Core.signed_zero]
  · have ex : Core.signed (Core.sgn (Core.val64 x)) (OwnFP.zm x) = i * U 0 := hx.2
    have hz2 := hv.zm
    have hzx := hx.zm
    have u0 := U_pos 0; have uj := U_pos j
    cases e : Core.sgn (Core.val64 x)
    · rw [e] at ex
      have : 0 < i := by
        have h1 : (0 : Int) ≤ i * U 0 := by rw [← ex]; simp [Core.signed]
        have h2 : 0 ≤ i := Int.not_lt.mp fun q => by have := Int.mul_neg_of_neg_of_pos q u0; omega
        omega
      show ((OwnFP.zm v : Nat) : Int) = _
      rw [hz2, show ((i.natAbs : Nat) : Int) = i by omega]
    · rw [e] at ex
      have : i < 0 := by
        have h1 : i * U 0 ≤ 0 := by rw [← ex]; simp [Core.signed]
        have h2 : i ≤ 0 := Int.not_lt.mp fun q => by have := Int.mul_pos q u0; omega
        omega
      show -((OwnFP.zm v : Nat) : Int) = _
      rw [hz2, show ((i.natAbs : Nat) : Int) = -i by omega, Int.neg_mul, Int.neg_neg]
theorem abs_le_max {x : UInt64} (h : Fin64 x) : ¬ (0 : Int32) < cmpValue (FP.dcmp (x &&& 0x7fffffffffffffff) (9218868437227405311 : UInt64)) .g := by
  rcases (Core.le_max (noNaN64_no.mp h.noNaN)).mpr (fin64_core.mp h) with q | q
  · rw [show FP.dcmp (x &&& 0x7fffffffffffffff) (9218868437227405311 : UInt64) = some .lt from q]; decide
  · rw [show FP.dcmp (x &&& 0x7fffffffffffffff) (9218868437227405311 : UInt64) = some .eq from q]; decide
/-- equal numbers over one divisor: equal numbers -/
theorem div_congr {x x' y : UInt64} (hx : Fin64 x) (hx' : Fin64 x') (h : zv x = zv x') (hy : Fin64 y) (hz : OwnFP.zm y ≠ 0) : zv (FP.ddiv x y) = zv (FP.ddiv x' y) := by
  by_cases h0 : zv x' = 0
  · have e1 : OwnFP.zm x = 0 := by rw [← zm_abs, h, h0]; rfl
    have e2 : OwnFP.zm x' = 0 := by rw [← zm_abs, h0]; rfl
    have z0 : OwnFP.zm 0 = 0 := by rw [← zm_abs, zv_zero]; rfl
    have d1 := div_le (v := 0) hx hy hz fin_zero.noNaN (by rw [e1]; simp)
    have d2 := div_le (v := 0) hx' hy hz fin_zero.noNaN (by rw [e2]; simp)
    rw [z0] at d1 d2
    rw [zv_sgn, zv_sgn, Nat.le_zero.mp d1, Nat.le_zero.mp d2, Core.signed_zero, Core.signed_zero]
  · have : x = x' := by
      refine Core.eq_bits (fun hz' => h0 hz'.zval) ?_
      have q : Core.dcmp x x' = some (compare (zv x) (zv x')) := Core.dcmp_zval (nn hx.noNaN) (nn hx'.noNaN)
      rw [q, h, Core.compare_self_int]
    rw [this]
end Jvm.OwnFP
namespace Jvm.OwnArr
open Sem ClassFile Op Lib Jvm.Stand Jvm.Free Jvm.LawKit Jvm.RoadKit
theorem lt32 {i n : Nat} (h : i < n) (hn : n ≤ 100000) : Int32.ofNat i < Int32.ofNat n := by
  rw [Int32.lt_iff_toInt_lt, Int32.toInt_ofNat_of_lt (by omega), Int32.toInt_ofNat_of_lt (by omega)]
  omega
theorem nlt32 {i n : Nat} (h : n ≤ i) (hn : i ≤ 100000) : ¬ Int32.ofNat i < Int32.ofNat n := by
  rw [Int32.lt_iff_toInt_lt, Int32.toInt_ofNat_of_lt (by omega), Int32.toInt_ofNat_of_lt (by omega)]
  omega
theorem lt32_iff {i n : Nat} (hi : i ≤ 100000) (hn : n ≤ 100000) : Int32.ofNat i < Int32.ofNat n ↔ i < n := by
  rw [Int32.lt_iff_toInt_lt, Int32.toInt_ofNat_of_lt (by omega), Int32.toInt_ofNat_of_lt (by omega)]
  omega
theorem eq32_iff {i n : Nat} (hi : i ≤ 100000) (hn : n ≤ 100000) : Int32.ofNat i = Int32.ofNat n ↔ i = n := by
  rw [← Int32.toInt_inj, Int32.toInt_ofNat_of_lt (by omega), Int32.toInt_ofNat_of_lt (by omega)]
  omega
theorem nn32 {n : Nat} (hn : n ≤ 100000) : ¬ Int32.ofNat n < 0 := by
  rw [Int32.lt_iff_toInt_lt, Int32.toInt_ofNat_of_lt (by omega), show (0 : Int32).toInt = 0 from rfl]
  omega
theorem n32 {n : Nat} (hn : n ≤ 100000) : (Int32.ofNat n).toNatClampNeg = n := by
  rw [Int32.toNatClampNeg, Int32.toInt_ofNat_of_lt (by omega)]; rfl
theorem one32 (i : Nat) : Int32.ofNat i + (1 : Int32) = Int32.ofNat (i + 1) := (Int32.ofNat_add i 1).symm
/-- an int from 0 on is the Nat of its value -/
theorem of_int {x : Int32} (h : 0 ≤ x.toInt) : x = Int32.ofNat x.toInt.toNat := by
  apply Int32.toInt_inj.mp
  have := x.toInt_lt
  rw [Int32.toInt_ofNat_of_lt (by omega)]
  omega
def vals (f : Nat → Value) (n : Nat) : List Value := (List.range n).map f
theorem vals_len (f : Nat → Value) (n : Nat) : (vals f n).length = n := by simp [vals]
theorem vals_at (f : Nat → Value) {n j : Nat} (h : j < n) (d : Value) : (vals f n).getD j d = f j := by simp [vals, List.getD_eq_getElem?_getD, h]
theorem vals_congr {f g : Nat → Value} {n : Nat} (h : ∀ j, j < n → f j = g j) : vals f n = vals g n := by
  simp only [vals]
  exact List.map_congr_left fun j hj => h j (List.mem_range.mp hj)
theorem vals_set (f : Nat → Value) {n i : Nat} (v : Value) : (vals f n).set i v = vals (fun j => if j = i then v else f j) n := by
  apply List.ext_getElem
  · simp [vals]
  · intro k h1 h2
    simp only [vals, List.getElem_set, List.getElem_map, List.getElem_range]
    by_cases q : i = k
    · rw [if_pos q, if_pos q.symm]
    · rw [if_neg q, if_neg fun z => q z.symm]
theorem vals_const (v : Value) (n : Nat) : vals (fun _ => v) n = List.replicate n v := by
  simp [vals, List.map_const']
end Jvm.OwnArr
namespace Jvm.Pilot.@@N@@
open Jvm Jvm.ClassFile Sem Op Lib Jvm.Free Jvm.Stand Jvm.LawKit Jvm.RoadKit Bundle Jvm.Pilot.@@N@@.Jvm.D
open Jvm.Free.Fl (NoNaN64 Fin64 Nz64)
open Jvm.OwnArr
theorem own_padv (d : Value) (n i : Nat) : (vals (fun _ => d) n).getD i d = ([] : List Value).getD i d := by
  by_cases h : i < n
  · rw [vals_at _ h]; simp
  · simp [vals, List.getD_eq_getElem?_getD, h]
def own_dv (f : Nat → UInt64) (n : Nat) : List Value := vals (fun j => .double (f j)) n
theorem own_dat (f : Nat → UInt64) {n j : Nat} (h : j < n) (d : Value) : (own_dv f n).getD j d = .double (f j) := vals_at _ h d
theorem own_dlen (f : Nat → UInt64) (n : Nat) : (own_dv f n).length = n := vals_len _ _
theorem own_dcong {f g : Nat → UInt64} {n : Nat} (h : ∀ j, j < n → f j = g j) : own_dv f n = own_dv g n := vals_congr fun j hj => by rw [h j hj]
def own_upd (f : Nat → UInt64) (k : Nat) (v : UInt64) (j : Nat) : UInt64 := if j = k then v else f j
theorem own_upd_set (f : Nat → UInt64) (n k : Nat) (v : UInt64) : (own_dv f n).set k (.double v) = own_dv (own_upd f k v) n := by
  unfold own_dv
  rw [vals_set]
  refine vals_congr fun j _ => ?_
  unfold own_upd
  by_cases q : j = k
  · rw [if_pos q, if_pos q]
  · rw [if_neg q, if_neg q]
theorem own_mul (i j : Nat) : Int32.ofNat i * Int32.ofNat j = Int32.ofNat (i * j) := (Int32.ofNat_mul i j).symm
theorem own_add (i j : Nat) : Int32.ofNat i + Int32.ofNat j = Int32.ofNat (i + j) := (Int32.ofNat_add i j).symm
theorem own_idx {i j m n : Nat} (hi : i < m) (hj : j < n) : i + j * m < m * n := by
  have h : (j + 1) * m ≤ n * m := Nat.mul_le_mul_right m hj
  rw [Nat.add_mul, Nat.one_mul, Nat.mul_comm n m] at h
  omega
theorem own_m9 {m n : Nat} (hm : m ≤ 3) (hn : n ≤ 3) : m * n ≤ 9 := Nat.mul_le_mul hm hn
theorem own_lc {m n : Nat} (hm : m ≤ 3) (hn : n ≤ 3) : ¬ (0 : Int32) < lcmpW ((Int32.ofNat m).toInt64 * (Int32.ofNat n).toInt64) (2147483639 : Int64) := by
  have h1 : m = 0 ∨ m = 1 ∨ m = 2 ∨ m = 3 := by omega
  have h2 : n = 0 ∨ n = 1 ∨ n = 2 ∨ n = 3 := by omega
  rcases h1 with rfl | rfl | rfl | rfl <;> rcases h2 with rfl | rfl | rfl | rfl <;> decide
theorem own_sub1 {n i : Nat} (h : i < n) : Int32.ofNat n - (1 : Int32) - Int32.ofNat i = Int32.ofNat (n - 1 - i) := by
  obtain ⟨k, rfl⟩ : ∃ k, n = k + i + 1 := ⟨n - 1 - i, by omega⟩
  rw [show k + i + 1 - 1 - i = k from by omega, Int32.ofNat_add, Int32.ofNat_add]
  show Int32.ofNat k + Int32.ofNat i + 1 - 1 - Int32.ofNat i = Int32.ofNat k
  rw [Int32.add_sub_cancel, Int32.add_sub_cancel]
theorem own_and3 (x : Int32) : ∃ k : Nat, k ≤ 3 ∧ x &&& (3 : Int32) = Int32.ofNat k := by
  have h := c_and x 3 (by decide)
  rw [show (3 : Int32).toInt = 3 from rfl] at h
  exact ⟨(x &&& (3 : Int32)).toInt.toNat, by omega, of_int h.1⟩
theorem own_rem {x : Int32} {k : Nat} (hx : 0 ≤ x.toInt) (h0 : ¬ k = 0) (hk : k ≤ 100) : ∃ i : Nat, i < k ∧ x % (Int32.ofNat k) = Int32.ofNat i := by
  have e : (Int32.ofNat k).toInt = k := Int32.toInt_ofNat_of_lt (by omega)
  have h := (c_irem x (Int32.ofNat k) k e).1 hx
  have h2 : 0 ≤ x.toInt % (k : Int) := Int.emod_nonneg _ (by omega)
  have h3 : x.toInt % (k : Int) < k := Int.emod_lt_of_pos _ (by omega)
  exact ⟨(x % (Int32.ofNat k)).toInt.toNat, by omega, of_int (by omega)⟩
theorem own_nz {k : Nat} (h : ¬ k = 0) (hk : k ≤ 100) : ¬ (Int32.ofNat k = (0 : Int32)) := fun q => h ((eq32_iff (i := k) (n := 0) (by omega) (by omega)).mp q)
theorem own_inj {i j i' j' m : Nat} (hi : i < m) (hi' : i' < m) : i + j * m = i' + j' * m ↔ i = i' ∧ j = j' := by
  constructor
  · intro h
    have e1 : (i + j * m) % m = i := by rw [Nat.add_mul_mod_self_right, Nat.mod_eq_of_lt hi]
    have e2 : (i' + j' * m) % m = i' := by rw [Nat.add_mul_mod_self_right, Nat.mod_eq_of_lt hi']
    have e3 : (i + j * m) / m = j := by rw [Nat.add_mul_div_right _ _ (by omega), Nat.div_eq_of_lt hi, Nat.zero_add]
    have e4 : (i' + j' * m) / m = j' := by rw [Nat.add_mul_div_right _ _ (by omega), Nat.div_eq_of_lt hi', Nat.zero_add]
    exact ⟨by rw [← e1, ← e2, h], by rw [← e3, ← e4, h]⟩
  · rintro ⟨rfl, rfl⟩; rfl
theorem own_flip {i j m n : Nat} (hi : i < m) (hj : j < n) : m * n - 1 - (i + j * m) = (m - 1 - i) + (n - 1 - j) * m := by
  obtain ⟨a, rfl⟩ : ∃ a, m = a + i + 1 := ⟨m - 1 - i, by omega⟩
  obtain ⟨b, rfl⟩ : ∃ b, n = b + j + 1 := ⟨n - 1 - j, by omega⟩
  rw [show a + i + 1 - 1 - i = a from by omega, show b + j + 1 - 1 - j = b from by omega, Nat.mul_add, Nat.mul_add, Nat.mul_comm (a + i + 1) b, Nat.mul_comm (a + i + 1) j]
  omega
def own_bef (i j pi pj qi qj : Int32) (va vb : UInt64) : UInt64 := if i = qi ∧ j = qj then vb else if i = pi ∧ j = pj then va else 0
theorem own_law {i j pi pj qi qj m n : Nat} (va vb : UInt64) (hm : m ≤ 3) (hn : n ≤ 3) (h1 : i < m) (h2 : j < n) (h3 : pi < m) (h4 : pj < n) (h5 : qi < m) (h6 : qj < n) : own_upd (own_upd (fun _ => (0 : UInt64)) (pi + pj * m) va) (qi + qj * m) vb (i + j * m) = own_bef (Int32.ofNat i) (Int32.ofNat j) (Int32.ofNat pi) (Int32.ofNat pj) (Int32.ofNat qi) (Int32.ofNat qj) va vb := by
  unfold own_upd own_bef
  simp only [own_inj h1 h5, own_inj h1 h3, eq32_iff (i := i) (n := qi) (by omega) (by omega), eq32_iff (i := j) (n := qj) (by omega) (by omega), eq32_iff (i := i) (n := pi) (by omega) (by omega), eq32_iff (i := j) (n := pj) (by omega) (by omega)]
theorem own_bnn {i j pi pj qi qj : Int32} {va vb : UInt64} (h1 : NoNaN64 va) (h2 : NoNaN64 vb) : NoNaN64 (own_bef i j pi pj qi qj va vb) := by
  unfold own_bef
  split
  · exact h2
  · split
    · exact h1
    · unfold NoNaN64; decide
theorem own_bq {i j pi pj : Int32} {va vb : UInt64} : own_bef i j pi pj i j va vb = vb := by unfold own_bef; rw [if_pos ⟨rfl, rfl⟩]
theorem own_nneg (x : Int32) : 0 ≤ (x &&& (65535 : Int32)).toInt := (c_and x 65535 (by decide)).1
theorem ef_ctor (m : MethodId) (a1 : Addr) : entryFrame m #[(.ref a1), (.int (Int32.ofNat m1)), (.int (Int32.ofNat n1))] 3 = mkF m 0 #[.val (.ref a1), .val (.int (Int32.ofNat m1)), .val (.int (Int32.ofNat n1))] [] := by first | (simp [entryFrame, mkF, argsToLocals, Value.category]; done) | rfl
theorem d1_0 : decode prog_4_method_1_code 0 = .ok (.aload_n 0, 1) := by decide +kernel
theorem d1_1 : decode prog_4_method_1_code 1 = .ok (.invokespecial 1, 3) := by decide +kernel
theorem d1_4 : decode prog_4_method_1_code 4 = .ok (.iload_n 1, 1) := by decide +kernel
theorem d1_5 : decode prog_4_method_1_code 5 = .ok (.ifCond .lt 7, 3) := by decide +kernel
theorem d1_8 : decode prog_4_method_1_code 8 = .ok (.iload_n 2, 1) := by decide +kernel
theorem d1_9 : decode prog_4_method_1_code 9 = .ok (.ifCond .ge 18, 3) := by decide +kernel
theorem d1_27 : decode prog_4_method_1_code 27 = .ok (.iload_n 1, 1) := by decide +kernel
theorem d1_28 : decode prog_4_method_1_code 28 = .ok (.i2l, 1) := by decide +kernel
theorem d1_29 : decode prog_4_method_1_code 29 = .ok (.iload_n 2, 1) := by decide +kernel
theorem d1_30 : decode prog_4_method_1_code 30 = .ok (.i2l, 1) := by decide +kernel
theorem d1_31 : decode prog_4_method_1_code 31 = .ok (.lmul, 1) := by decide +kernel
theorem d1_32 : decode prog_4_method_1_code 32 = .ok (.ldc2_w 18, 3) := by decide +kernel
theorem d1_35 : decode prog_4_method_1_code 35 = .ok (.lcmp, 1) := by decide +kernel
theorem d1_36 : decode prog_4_method_1_code 36 = .ok (.ifCond .le 18, 3) := by decide +kernel
theorem d1_54 : decode prog_4_method_1_code 54 = .ok (.aload_n 0, 1) := by decide +kernel
theorem d1_55 : decode prog_4_method_1_code 55 = .ok (.iload_n 1, 1) := by decide +kernel
theorem d1_56 : decode prog_4_method_1_code 56 = .ok (.putfield 21, 3) := by decide +kernel
theorem d1_59 : decode prog_4_method_1_code 59 = .ok (.aload_n 0, 1) := by decide +kernel
theorem d1_60 : decode prog_4_method_1_code 60 = .ok (.iload_n 2, 1) := by decide +kernel
theorem d1_61 : decode prog_4_method_1_code 61 = .ok (.putfield 27, 3) := by decide +kernel
theorem d1_64 : decode prog_4_method_1_code 64 = .ok (.aload_n 0, 1) := by decide +kernel
theorem d1_65 : decode prog_4_method_1_code 65 = .ok (.iload_n 1, 1) := by decide +kernel
theorem d1_66 : decode prog_4_method_1_code 66 = .ok (.iload_n 2, 1) := by decide +kernel
theorem d1_67 : decode prog_4_method_1_code 67 = .ok (.imul, 1) := by decide +kernel
theorem d1_68 : decode prog_4_method_1_code 68 = .ok (.newarray .double, 2) := by decide +kernel
theorem d1_70 : decode prog_4_method_1_code 70 = .ok (.putfield 30, 3) := by decide +kernel
theorem d1_73 : decode prog_4_method_1_code 73 = .ok (.return_, 1) := by decide +kernel
theorem pn_com_example_orthoform_kernel_DenseMatrix : plainName "com/example/orthoform/kernel/DenseMatrix" = true := by first | (simp [plainName, overriddenIn]; done) | decide +kernel
def Qctor (Z : State) (a1 : Addr) (m1 : Nat) (n1 : Nat) (h0 : Heap) (n0 : Nat) (v : Option Value) (h : Heap) (L : List Loc) : Prop := ∃ (b : Addr) (kb : ClassId), v = none ∧ Fr n0 L ∧ Keep h0 h [a1] ∧ (h0.size ≤ b) ∧ (Fld Z h a1 "com/example/orthoform/kernel/DenseMatrix" "rows" "I" (.int (Int32.ofNat m1))) ∧ (Fld Z h a1 "com/example/orthoform/kernel/DenseMatrix" "columns" "I" (.int (Int32.ofNat n1))) ∧ (Fld Z h a1 "com/example/orthoform/kernel/DenseMatrix" "entries" "[D" (.ref b)) ∧ (Arv Z h b kb .double (Int32.ofNat (m1 * n1)) (own_dv (fun _ => (0 : UInt64)) (m1 * n1)) (.double (0 : UInt64)))
set_option maxRecDepth 65536 in
set_option maxHeartbeats 40000000 in
theorem rmctor (l : Launch) (Z : State) (a0 : Array Value) (hw : ∀ d ∈ tables_1, d.before a0 Z = true) (ws : List Jvm.Cond) (a1 : Addr) (m1 : Nat) (n1 : Nat) (h0 : Heap) (n0 : Nat) (Z0 : n0 ≤ h0.size) (P_E_a1 : Exa Z h0 a1 "com/example/orthoform/kernel/DenseMatrix") (P_F_a1_rows : Fld Z h0 a1 "com/example/orthoform/kernel/DenseMatrix" "rows" "I" (.int (0 : Int32))) (P_F_a1_columns : Fld Z h0 a1 "com/example/orthoform/kernel/DenseMatrix" "columns" "I" (.int (0 : Int32))) (P_F_a1_entries : Fld Z h0 a1 "com/example/orthoform/kernel/DenseMatrix" "entries" "[D" .null) (P_G_a1 : n0 ≤ a1) (hm : m1 ≤ 3) (hn : n1 ≤ 3) :
    MetFree l (⟨"com/example/orthoform/kernel/DenseMatrix", "<init>", "(II)V"⟩ : MethodName) (head1 (Jvm.Cond.code (⟨"com/example/orthoform/kernel/DenseMatrix", "<init>", "(II)V"⟩ : MethodName) prog_4_method_1_code 3 none :: ws) ({ frames := 1, cells := 1, slots := 9, locals := 12 } : Room)) (fun a U => a = #[(.ref a1), (.int (Int32.ofNat m1)), (.int (Int32.ofNat n1))] ∧ Z.Warmed39 U.vm ∧ U.heap = h0) (fun _ _ _ _ _ => True) (fun _ U o U' => ∃ v L, o = .returned v ∧ Qctor Z a1 m1 n1 h0 n0 v U'.heap L ∧ FrameEnd U o U' L ({ frames := 1, cells := 1, slots := 9, locals := 12 } : Room).cells ({ frames := 1, cells := 1, slots := 9, locals := 12 } : Room).slots) := by
  refine MetFree.of_bodySF (plainFor_of_name pn_com_example_orthoform_kernel_DenseMatrix) hisR ?_
  intro p e s m args below meth c s₁ Bd hml0 hP hK
  obtain ⟨rfl, hZ, hh⟩ := hP
  have hx := Bd.exec
  have hby := Bd.bytes
  have hml : c.maxLocals = 3 := hml0
  have hown : s.vm.findClass "com/example/orthoform/kernel/DenseMatrix" = some m.cls := findClass_of_methodNamed Bd.named
  have hnm := (name_of_methodNamed Bd.named Bd.method).1
  have X0 : Stand p l e ({ frames := 1, cells := 1, slots := 9, locals := 12 } : Room) s m #[(.ref a1), (.int (Int32.ofNat m1)), (.int (Int32.ofNat n1))] below meth c s₁ [] 0 0 := Stand.of_body Bd
  have e0 : s₁.heap = h0 := by rw [← hh, Bd.state]; rfl
  have N0 := Fr.nil n0
  have pre0 : ∀ t_, Steps p.tables e below (s₁.setTop (mkF m 0 #[.val (.ref a1), .val (.int (Int32.ofNat m1)), .val (.int (Int32.ofNat n1))] [])) t_ → Steps p.tables e below (s₁.setTop (entryFrame m #[(.ref a1), (.int (Int32.ofNat m1)), (.int (Int32.ofNat n1))] 3)) t_ := fun t_ k => castTop (ef_ctor m a1) k
  have hmn := own_m9 hm hn
  obtain ⟨T101, X101, e101, st101⟩ := initO X0 hx hZ hown (hw _ (List.mem_of_getElem? (i := 6) rfl)) (hw _ (List.mem_of_getElem? (i := 7) rfl)) (hw _ (List.mem_of_getElem? (i := 8) rfl)) e0 (g := (mkF m 1 #[.val (.ref a1), .val (.int (Int32.ofNat m1)), .val (.int (Int32.ofNat n1))] [(.ref a1)])) rfl (by rw [hml]; rfl) rfl (hb hby d1_1) (by decide) (W := 0) (by show 2 * 0 + _ ≤ _; exact Nat.le_of_eq rfl) (by decide)
  obtain ⟨T102, h102, X102, e102, W102, st102⟩ := putF X101 hx hZ hown (host := "") (Or.inl (hw _ (List.mem_of_getElem? (i := 10) rfl))) Via.refl e101 P_F_a1_rows P_E_a1 (Or.inr ⟨(hw _ (List.mem_of_getElem? (i := 11) rfl)), rfl, hnm⟩) (hw _ (List.mem_of_getElem? (i := 1) rfl)) (ty := .int) (by decide) rfl rfl (g := (mkF m 56 #[.val (.ref a1), .val (.int (Int32.ofNat m1)), .val (.int (Int32.ofNat n1))] [(.int (Int32.ofNat m1)), (.ref a1)])) rfl rfl (hb hby d1_56)
  have F102 : Fld Z h102 a1 "com/example/orthoform/kernel/DenseMatrix" "rows" "I" (.int (Int32.ofNat m1)) := P_F_a1_rows.same W102
  have z103 : n0 ≤ h102.size := Nat.le_trans Z0 (Keep.of_wr W102).1
  have k104 : Keep h0 h102 [a1] := (Keep.refl h0 [a1]).wr W102 (Or.inl (List.mem_of_getElem? (i := 0) rfl))
  have N102 : Fr n0 _ := Fr.snoc X102 N0 P_G_a1
  have f105 : Fld Z h102 a1 "com/example/orthoform/kernel/DenseMatrix" "columns" "I" (.int (0 : Int32)) := (P_F_a1_columns.other W102 (Or.inr (slot_ne (Or.inr (hw _ (List.mem_of_getElem? (i := 13) rfl))) (Or.inr (hw _ (List.mem_of_getElem? (i := 11) rfl))) (by decide) (t := .int) (t' := .int) (by decide) (by decide))))
  have f106 : Exa Z h102 a1 "com/example/orthoform/kernel/DenseMatrix" := (P_E_a1.wr W102)
  obtain ⟨T107, h107, X107, e107, W107, st107⟩ := putF X102 hx hZ hown (host := "") (Or.inl (hw _ (List.mem_of_getElem? (i := 12) rfl))) Via.refl e102 f105 f106 (Or.inr ⟨(hw _ (List.mem_of_getElem? (i := 13) rfl)), rfl, hnm⟩) (hw _ (List.mem_of_getElem? (i := 1) rfl)) (ty := .int) (by decide) rfl rfl (g := (mkF m 61 #[.val (.ref a1), .val (.int (Int32.ofNat m1)), .val (.int (Int32.ofNat n1))] [(.int (Int32.ofNat n1)), (.ref a1)])) rfl rfl (hb hby d1_61)
  have F107 : Fld Z h107 a1 "com/example/orthoform/kernel/DenseMatrix" "columns" "I" (.int (Int32.ofNat n1)) := f105.same W107
  have z108 : n0 ≤ h107.size := Nat.le_trans z103 (Keep.of_wr W107).1
  have k109 : Keep h0 h107 [a1] := k104.wr W107 (Or.inl (List.mem_of_getElem? (i := 0) rfl))
  have N107 : Fr n0 _ := Fr.snoc X107 N102 P_G_a1
  obtain ⟨T110, h110, k110, X110, e110, E110, A110, st110⟩ := newP X107 hx hZ (hw _ (List.mem_of_getElem? (i := 14) rfl)) e107 (g := (mkF m 68 #[.val (.ref a1), .val (.int (Int32.ofNat m1)), .val (.int (Int32.ofNat n1))] [(.int (Int32.ofNat (m1 * n1))), (.ref a1)])) rfl (hb hby d1_68) rfl (nn32 (by omega)) (cap := 9) (by rw [n32 (by omega)]; omega) (by decide) (by decide) (by decide)
  obtain ⟨b110, g110⟩ : ∃ z, z = h107.size := ⟨_, rfl⟩
  rw [← g110] at A110 st110
  have f112 : Exa Z h107 a1 "com/example/orthoform/kernel/DenseMatrix" := (f106.wr W107)
  have ne111 : a1 ≠ b110 := Nat.ne_of_lt (Nat.lt_of_lt_of_le f112.lt (Nat.le_of_eq g110.symm))
  have g_b110 : n0 ≤ b110 := Nat.le_trans z108 (Nat.le_of_eq g110.symm)
  have sz_b110 : h0.size ≤ b110 := Nat.le_trans k109.1 (Nat.le_of_eq g110.symm)
  have z113 : n0 ≤ h110.size := Nat.le_trans z108 E110.1
  have k114 : Keep h0 h110 [a1] := k109.ext E110
  have V110 : Arv Z h110 b110 k110 .double (Int32.ofNat (m1 * n1)) (own_dv (fun _ => (0 : UInt64)) (m1 * n1)) (.double (0 : UInt64)) := (Arv.new A110 (nn32 (by omega))).pad (own_padv (.double 0) (m1 * n1))
  have f115 : Fld Z h110 a1 "com/example/orthoform/kernel/DenseMatrix" "entries" "[D" .null := (((P_F_a1_entries.other W102 (Or.inr (slot_ne (Or.inr (hw _ (List.mem_of_getElem? (i := 16) rfl))) (Or.inr (hw _ (List.mem_of_getElem? (i := 11) rfl))) (by decide) (t := (.array .double)) (t' := .int) (by decide) (by decide)))).other W107 (Or.inr (slot_ne (Or.inr (hw _ (List.mem_of_getElem? (i := 16) rfl))) (Or.inr (hw _ (List.mem_of_getElem? (i := 13) rfl))) (by decide) (t := (.array .double)) (t' := .int) (by decide) (by decide)))).ext E110)
  have f116 : Exa Z h110 a1 "com/example/orthoform/kernel/DenseMatrix" := (f112.ext E110)
  obtain ⟨T117, h117, X117, e117, W117, st117⟩ := putF X110 hx hZ hown (host := "") (Or.inl (hw _ (List.mem_of_getElem? (i := 15) rfl))) Via.refl e110 f115 f116 (Or.inr ⟨(hw _ (List.mem_of_getElem? (i := 16) rfl)), rfl, hnm⟩) (hw _ (List.mem_of_getElem? (i := 1) rfl)) (ty := (.array .double)) (by decide) rfl rfl (g := (mkF m 70 #[.val (.ref a1), .val (.int (Int32.ofNat m1)), .val (.int (Int32.ofNat n1))] [(.ref b110), (.ref a1)])) rfl rfl (hb hby d1_70)
  have F117 : Fld Z h117 a1 "com/example/orthoform/kernel/DenseMatrix" "entries" "[D" (.ref b110) := f115.same W117
  have z118 : n0 ≤ h117.size := Nat.le_trans z113 (Keep.of_wr W117).1
  have k119 : Keep h0 h117 [a1] := k114.wr W117 (Or.inl (List.mem_of_getElem? (i := 0) rfl))
  have N117 : Fr n0 _ := Fr.snoc X117 N107 P_G_a1
  have pre120 : ∀ t_, Steps p.tables e below (T117.setTop (mkF m 73 #[.val (.ref a1), .val (.int (Int32.ofNat m1)), .val (.int (Int32.ofNat n1))] [])) t_ → Steps p.tables e below (s₁.setTop (entryFrame m #[(.ref a1), (.int (Int32.ofNat m1)), (.int (Int32.ofNat n1))] 3)) t_ := fun t_ kt => pre0 t_ (by
      show Steps p.tables e below (s₁.setTop (mkF m 0 #[.val (.ref a1), .val (.int (Int32.ofNat m1)), .val (.int (Int32.ofNat n1))] [])) _
      refine XS.aloadN X0.here hx rfl (hb hby d1_0) rfl rfl ?_
      show Steps p.tables e below (s₁.setTop (mkF m 1 #[.val (.ref a1), .val (.int (Int32.ofNat m1)), .val (.int (Int32.ofNat n1))] [(.ref a1)])) _
      refine st101 _ ?_
      show Steps p.tables e below (T101.setTop (mkF m 4 #[.val (.ref a1), .val (.int (Int32.ofNat m1)), .val (.int (Int32.ofNat n1))] [])) _
      refine XS.iloadN X101.here hx rfl (hb hby d1_4) rfl ?_
      show Steps p.tables e below (T101.setTop (mkF m 5 #[.val (.ref a1), .val (.int (Int32.ofNat m1)), .val (.int (Int32.ofNat n1))] [(.int (Int32.ofNat m1))])) _
      refine XS.ifNo X101.here hx rfl (hb hby d1_5) rfl ((if0 _ _).trans (flt (nn32 (by omega) : ¬ ((Int32.ofNat m1) < (0 : Int32)))).1) ?_
      show Steps p.tables e below (T101.setTop (mkF m 8 #[.val (.ref a1), .val (.int (Int32.ofNat m1)), .val (.int (Int32.ofNat n1))] [])) _
      refine XS.iloadN X101.here hx rfl (hb hby d1_8) rfl ?_
      show Steps p.tables e below (T101.setTop (mkF m 9 #[.val (.ref a1), .val (.int (Int32.ofNat m1)), .val (.int (Int32.ofNat n1))] [(.int (Int32.ofNat n1))])) _
      refine XS.ifYes X101.here hx rfl (pc0 := 9) (pc' := 27) rfl (hb hby d1_9) rfl ((if0 _ _).trans (flt (nn32 (by omega) : ¬ ((Int32.ofNat n1) < (0 : Int32)))).2.1) (by decide) (by decide) ?_
      show Steps p.tables e below (T101.setTop (mkF m 27 #[.val (.ref a1), .val (.int (Int32.ofNat m1)), .val (.int (Int32.ofNat n1))] [])) _
      refine XS.iloadN X101.here hx rfl (hb hby d1_27) rfl ?_
      show Steps p.tables e below (T101.setTop (mkF m 28 #[.val (.ref a1), .val (.int (Int32.ofNat m1)), .val (.int (Int32.ofNat n1))] [(.int (Int32.ofNat m1))])) _
      refine XS.i2l X101.here hx rfl (hb hby d1_28) rfl ?_
      show Steps p.tables e below (T101.setTop (mkF m 29 #[.val (.ref a1), .val (.int (Int32.ofNat m1)), .val (.int (Int32.ofNat n1))] [(.long ((Int32.ofNat m1).toInt64))])) _
      refine XS.iloadN X101.here hx rfl (hb hby d1_29) rfl ?_
      show Steps p.tables e below (T101.setTop (mkF m 30 #[.val (.ref a1), .val (.int (Int32.ofNat m1)), .val (.int (Int32.ofNat n1))] [(.int (Int32.ofNat n1)), (.long ((Int32.ofNat m1).toInt64))])) _
      refine XS.i2l X101.here hx rfl (hb hby d1_30) rfl ?_
      show Steps p.tables e below (T101.setTop (mkF m 31 #[.val (.ref a1), .val (.int (Int32.ofNat m1)), .val (.int (Int32.ofNat n1))] [(.long ((Int32.ofNat n1).toInt64)), (.long ((Int32.ofNat m1).toInt64))])) _
      refine XS.lmul X101.here hx rfl (hb hby d1_31) rfl ?_
      show Steps p.tables e below (T101.setTop (mkF m 32 #[.val (.ref a1), .val (.int (Int32.ofNat m1)), .val (.int (Int32.ofNat n1))] [(.long (((Int32.ofNat m1).toInt64) * ((Int32.ofNat n1).toInt64)))])) _
      refine X101.ldc2Long hx hown (mvT hZ (hw _ (List.mem_of_getElem? (i := 9) rfl))) (g := (mkF m 32 #[.val (.ref a1), .val (.int (Int32.ofNat m1)), .val (.int (Int32.ofNat n1))] [(.long (((Int32.ofNat m1).toInt64) * ((Int32.ofNat n1).toInt64)))])) rfl (hb hby d1_32) _ ?_
      show Steps p.tables e below (T101.setTop (mkF m 35 #[.val (.ref a1), .val (.int (Int32.ofNat m1)), .val (.int (Int32.ofNat n1))] [(.long (2147483639 : Int64)), (.long (((Int32.ofNat m1).toInt64) * ((Int32.ofNat n1).toInt64)))])) _
      refine XS.lcmp X101.here hx rfl (hb hby d1_35) rfl ?_
      show Steps p.tables e below (T101.setTop (mkF m 36 #[.val (.ref a1), .val (.int (Int32.ofNat m1)), .val (.int (Int32.ofNat n1))] [(.int (lcmpW (((Int32.ofNat m1).toInt64) * ((Int32.ofNat n1).toInt64)) (2147483639 : Int64)))])) _
      refine XS.ifYes X101.here hx rfl (pc0 := 36) (pc' := 54) rfl (hb hby d1_36) rfl ((if0 _ _).trans (flt (own_lc hm hn : ¬ ((0 : Int32) < (lcmpW (((Int32.ofNat m1).toInt64) * ((Int32.ofNat n1).toInt64)) (2147483639 : Int64))))).2.2.2) (by decide) (by decide) ?_
      show Steps p.tables e below (T101.setTop (mkF m 54 #[.val (.ref a1), .val (.int (Int32.ofNat m1)), .val (.int (Int32.ofNat n1))] [])) _
      refine XS.aloadN X101.here hx rfl (hb hby d1_54) rfl rfl ?_
      show Steps p.tables e below (T101.setTop (mkF m 55 #[.val (.ref a1), .val (.int (Int32.ofNat m1)), .val (.int (Int32.ofNat n1))] [(.ref a1)])) _
      refine XS.iloadN X101.here hx rfl (hb hby d1_55) rfl ?_
      show Steps p.tables e below (T101.setTop (mkF m 56 #[.val (.ref a1), .val (.int (Int32.ofNat m1)), .val (.int (Int32.ofNat n1))] [(.int (Int32.ofNat m1)), (.ref a1)])) _
      refine st102 _ ?_
      show Steps p.tables e below (T102.setTop (mkF m 59 #[.val (.ref a1), .val (.int (Int32.ofNat m1)), .val (.int (Int32.ofNat n1))] [])) _
      refine XS.aloadN X102.here hx rfl (hb hby d1_59) rfl rfl ?_
      show Steps p.tables e below (T102.setTop (mkF m 60 #[.val (.ref a1), .val (.int (Int32.ofNat m1)), .val (.int (Int32.ofNat n1))] [(.ref a1)])) _
      refine XS.iloadN X102.here hx rfl (hb hby d1_60) rfl ?_
      show Steps p.tables e below (T102.setTop (mkF m 61 #[.val (.ref a1), .val (.int (Int32.ofNat m1)), .val (.int (Int32.ofNat n1))] [(.int (Int32.ofNat n1)), (.ref a1)])) _
      refine st107 _ ?_
      show Steps p.tables e below (T107.setTop (mkF m 64 #[.val (.ref a1), .val (.int (Int32.ofNat m1)), .val (.int (Int32.ofNat n1))] [])) _
      refine XS.aloadN X107.here hx rfl (hb hby d1_64) rfl rfl ?_
      show Steps p.tables e below (T107.setTop (mkF m 65 #[.val (.ref a1), .val (.int (Int32.ofNat m1)), .val (.int (Int32.ofNat n1))] [(.ref a1)])) _
      refine XS.iloadN X107.here hx rfl (hb hby d1_65) rfl ?_
      show Steps p.tables e below (T107.setTop (mkF m 66 #[.val (.ref a1), .val (.int (Int32.ofNat m1)), .val (.int (Int32.ofNat n1))] [(.int (Int32.ofNat m1)), (.ref a1)])) _
      refine XS.iloadN X107.here hx rfl (hb hby d1_66) rfl ?_
      show Steps p.tables e below (T107.setTop (mkF m 67 #[.val (.ref a1), .val (.int (Int32.ofNat m1)), .val (.int (Int32.ofNat n1))] [(.int (Int32.ofNat n1)), (.int (Int32.ofNat m1)), (.ref a1)])) _
      refine XS.imul X107.here hx rfl (hb hby d1_67) rfl ?_
      show Steps p.tables e below (T107.setTop (mkF m 68 #[.val (.ref a1), .val (.int (Int32.ofNat m1)), .val (.int (Int32.ofNat n1))] [(.int ((Int32.ofNat m1) * (Int32.ofNat n1))), (.ref a1)])) _
      rw [own_mul m1 n1]
      show Steps p.tables e below (T107.setTop (mkF m 68 #[.val (.ref a1), .val (.int (Int32.ofNat m1)), .val (.int (Int32.ofNat n1))] [(.int (Int32.ofNat (m1 * n1))), (.ref a1)])) _
      refine st110 _ ?_
      show Steps p.tables e below (T110.setTop (mkF m 70 #[.val (.ref a1), .val (.int (Int32.ofNat m1)), .val (.int (Int32.ofNat n1))] [(.ref b110), (.ref a1)])) _
      refine st117 _ ?_
      exact kt)
  have f121 : Fld Z h117 a1 "com/example/orthoform/kernel/DenseMatrix" "rows" "I" (.int (Int32.ofNat m1)) := (((F102.other W107 (Or.inr (slot_ne (Or.inr (hw _ (List.mem_of_getElem? (i := 11) rfl))) (Or.inr (hw _ (List.mem_of_getElem? (i := 13) rfl))) (by decide) (t := .int) (t' := .int) (by decide) (by decide)))).ext E110).other W117 (Or.inr (slot_ne (Or.inr (hw _ (List.mem_of_getElem? (i := 11) rfl))) (Or.inr (hw _ (List.mem_of_getElem? (i := 16) rfl))) (by decide) (t := .int) (t' := (.array .double)) (by decide) (by decide))))
  have f122 : Fld Z h117 a1 "com/example/orthoform/kernel/DenseMatrix" "columns" "I" (.int (Int32.ofNat n1)) := ((F107.ext E110).other W117 (Or.inr (slot_ne (Or.inr (hw _ (List.mem_of_getElem? (i := 13) rfl))) (Or.inr (hw _ (List.mem_of_getElem? (i := 16) rfl))) (by decide) (t := .int) (t' := (.array .double)) (by decide) (by decide))))
  have f123 : Arv Z h117 b110 k110 .double (Int32.ofNat (m1 * n1)) (own_dv (fun _ => (0 : UInt64)) (m1 * n1)) (.double (0 : UInt64)) := (V110.other W117 (Ne.symm ne111))
  obtain ⟨fs, hr, hrun, hended, hW, hsame⟩ := X117.leave (v := none) (fun _ => rfl)
  refine ⟨_, _, pre120 _ ?_, hrun, hended, _, _, rfl, ?_, ⟨_, rfl⟩, hW, hsame.mono (by decide) (by decide)⟩
  · show Steps p.tables e below (T117.setTop (mkF m 73 #[.val (.ref a1), .val (.int (Int32.ofNat m1)), .val (.int (Int32.ofNat n1))] [])) _
    exact X117.returnOut hx Bd.returns (hb hby d1_73) hr
  · show Qctor Z a1 m1 n1 h0 n0 _ T117.heap _
    rw [e117]
    exact ⟨b110, k110, rfl, N117, k119, sz_b110, f121, f122, F117, f123⟩
theorem ef_idx (m : MethodId) (a1 : Addr) : entryFrame m #[(.ref a1), (.int (Int32.ofNat i1)), (.int (Int32.ofNat j1))] 3 = mkF m 0 #[.val (.ref a1), .val (.int (Int32.ofNat i1)), .val (.int (Int32.ofNat j1))] [] := by first | (simp [entryFrame, mkF, argsToLocals, Value.category]; done) | rfl
theorem d6_0 : decode prog_4_method_11_code 0 = .ok (.iload_n 1, 1) := by decide +kernel
theorem d6_1 : decode prog_4_method_11_code 1 = .ok (.ifCond .lt 23, 3) := by decide +kernel
theorem d6_4 : decode prog_4_method_11_code 4 = .ok (.iload_n 1, 1) := by decide +kernel
theorem d6_5 : decode prog_4_method_11_code 5 = .ok (.aload_n 0, 1) := by decide +kernel
theorem d6_6 : decode prog_4_method_11_code 6 = .ok (.getfield 21, 3) := by decide +kernel
theorem d6_9 : decode prog_4_method_11_code 9 = .ok (.if_icmp .ge 15, 3) := by decide +kernel
theorem d6_12 : decode prog_4_method_11_code 12 = .ok (.iload_n 2, 1) := by decide +kernel
theorem d6_13 : decode prog_4_method_11_code 13 = .ok (.ifCond .lt 11, 3) := by decide +kernel
theorem d6_16 : decode prog_4_method_11_code 16 = .ok (.iload_n 2, 1) := by decide +kernel
theorem d6_17 : decode prog_4_method_11_code 17 = .ok (.aload_n 0, 1) := by decide +kernel
theorem d6_18 : decode prog_4_method_11_code 18 = .ok (.getfield 27, 3) := by decide +kernel
theorem d6_21 : decode prog_4_method_11_code 21 = .ok (.if_icmp .lt 26, 3) := by decide +kernel
theorem d6_47 : decode prog_4_method_11_code 47 = .ok (.iload_n 1, 1) := by decide +kernel
theorem d6_48 : decode prog_4_method_11_code 48 = .ok (.iload_n 2, 1) := by decide +kernel
theorem d6_49 : decode prog_4_method_11_code 49 = .ok (.aload_n 0, 1) := by decide +kernel
theorem d6_50 : decode prog_4_method_11_code 50 = .ok (.getfield 21, 3) := by decide +kernel
theorem d6_53 : decode prog_4_method_11_code 53 = .ok (.imul, 1) := by decide +kernel
theorem d6_54 : decode prog_4_method_11_code 54 = .ok (.iadd, 1) := by decide +kernel
theorem d6_55 : decode prog_4_method_11_code 55 = .ok (.ireturn, 1) := by decide +kernel
def Qidx (Z : State) (a1 : Addr) (m1 : Nat) (n1 : Nat) (i1 : Nat) (j1 : Nat) (h0 : Heap) (n0 : Nat) (v : Option Value) (h : Heap) (L : List Loc) : Prop := v = some (.int (Int32.ofNat (i1 + j1 * m1))) ∧ Fr n0 L ∧ h = h0
set_option maxRecDepth 65536 in
set_option maxHeartbeats 40000000 in
theorem rmidx (l : Launch) (Z : State) (a0 : Array Value) (hw : ∀ d ∈ tables_1, d.before a0 Z = true) (ws : List Jvm.Cond) (a1 : Addr) (m1 : Nat) (n1 : Nat) (i1 : Nat) (j1 : Nat) (h0 : Heap) (n0 : Nat) (Z0 : n0 ≤ h0.size) (P_F_a1_rows : Fld Z h0 a1 "com/example/orthoform/kernel/DenseMatrix" "rows" "I" (.int (Int32.ofNat m1))) (P_F_a1_columns : Fld Z h0 a1 "com/example/orthoform/kernel/DenseMatrix" "columns" "I" (.int (Int32.ofNat n1))) (hm : m1 ≤ 3) (hn : n1 ≤ 3) (hi : i1 < m1) (hj : j1 < n1) :
    MetFree l (⟨"com/example/orthoform/kernel/DenseMatrix", "indexOf", "(II)I"⟩ : MethodName) (head1 (Jvm.Cond.code (⟨"com/example/orthoform/kernel/DenseMatrix", "indexOf", "(II)I"⟩ : MethodName) prog_4_method_11_code 3 (some .int) :: ws) ({ frames := 0, cells := 0, slots := 0, locals := 0 } : Room)) (fun a U => a = #[(.ref a1), (.int (Int32.ofNat i1)), (.int (Int32.ofNat j1))] ∧ Z.Warmed39 U.vm ∧ U.heap = h0) (fun _ _ _ _ _ => True) (fun _ U o U' => ∃ v L, o = .returned v ∧ Qidx Z a1 m1 n1 i1 j1 h0 n0 v U'.heap L ∧ FrameEnd U o U' L ({ frames := 0, cells := 0, slots := 0, locals := 0 } : Room).cells ({ frames := 0, cells := 0, slots := 0, locals := 0 } : Room).slots) := by
  refine MetFree.of_bodySF (plainFor_of_name pn_com_example_orthoform_kernel_DenseMatrix) hisR ?_
  intro p e s m args below meth c s₁ Bd hml0 hP hK
  obtain ⟨rfl, hZ, hh⟩ := hP
  have hx := Bd.exec
  have hby := Bd.bytes
  have hml : c.maxLocals = 3 := hml0
  have hown : s.vm.findClass "com/example/orthoform/kernel/DenseMatrix" = some m.cls := findClass_of_methodNamed Bd.named
  have hnm := (name_of_methodNamed Bd.named Bd.method).1
  have X0 : Stand p l e ({ frames := 0, cells := 0, slots := 0, locals := 0 } : Room) s m #[(.ref a1), (.int (Int32.ofNat i1)), (.int (Int32.ofNat j1))] below meth c s₁ [] 0 0 := Stand.of_body Bd
  have e0 : s₁.heap = h0 := by rw [← hh, Bd.state]; rfl
  have N0 := Fr.nil n0
  have pre0 : ∀ t_, Steps p.tables e below (s₁.setTop (mkF m 0 #[.val (.ref a1), .val (.int (Int32.ofNat i1)), .val (.int (Int32.ofNat j1))] [])) t_ → Steps p.tables e below (s₁.setTop (entryFrame m #[(.ref a1), (.int (Int32.ofNat i1)), (.int (Int32.ofNat j1))] 3)) t_ := fun t_ k => castTop (ef_idx m a1) k
  have hix := own_idx hi hj; have hmn := own_m9 hm hn
  obtain ⟨T101, X101, e101, st101⟩ := getF X0 hx hZ hown (host := "") (Or.inl (hw _ (List.mem_of_getElem? (i := 10) rfl))) Via.refl e0 P_F_a1_rows (g := (mkF m 6 #[.val (.ref a1), .val (.int (Int32.ofNat i1)), .val (.int (Int32.ofNat j1))] [(.ref a1), (.int (Int32.ofNat i1))])) rfl rfl (hb hby d6_6)
  obtain ⟨T102, X102, e102, st102⟩ := getF X101 hx hZ hown (host := "") (Or.inl (hw _ (List.mem_of_getElem? (i := 12) rfl))) Via.refl e101 P_F_a1_columns (g := (mkF m 18 #[.val (.ref a1), .val (.int (Int32.ofNat i1)), .val (.int (Int32.ofNat j1))] [(.ref a1), (.int (Int32.ofNat j1))])) rfl rfl (hb hby d6_18)
  obtain ⟨T103, X103, e103, st103⟩ := getF X102 hx hZ hown (host := "") (Or.inl (hw _ (List.mem_of_getElem? (i := 10) rfl))) Via.refl e102 P_F_a1_rows (g := (mkF m 50 #[.val (.ref a1), .val (.int (Int32.ofNat i1)), .val (.int (Int32.ofNat j1))] [(.ref a1), (.int (Int32.ofNat j1)), (.int (Int32.ofNat i1))])) rfl rfl (hb hby d6_50)
  have pre104 : ∀ t_, Steps p.tables e below (T103.setTop (mkF m 55 #[.val (.ref a1), .val (.int (Int32.ofNat i1)), .val (.int (Int32.ofNat j1))] [(.int (Int32.ofNat (i1 + j1 * m1)))])) t_ → Steps p.tables e below (s₁.setTop (entryFrame m #[(.ref a1), (.int (Int32.ofNat i1)), (.int (Int32.ofNat j1))] 3)) t_ := fun t_ kt => pre0 t_ (by
      show Steps p.tables e below (s₁.setTop (mkF m 0 #[.val (.ref a1), .val (.int (Int32.ofNat i1)), .val (.int (Int32.ofNat j1))] [])) _
      refine XS.iloadN X0.here hx rfl (hb hby d6_0) rfl ?_
      show Steps p.tables e below (s₁.setTop (mkF m 1 #[.val (.ref a1), .val (.int (Int32.ofNat i1)), .val (.int (Int32.ofNat j1))] [(.int (Int32.ofNat i1))])) _
      refine XS.ifNo X0.here hx rfl (hb hby d6_1) rfl ((if0 _ _).trans (flt (nn32 (by omega) : ¬ ((Int32.ofNat i1) < (0 : Int32)))).1) ?_
      show Steps p.tables e below (s₁.setTop (mkF m 4 #[.val (.ref a1), .val (.int (Int32.ofNat i1)), .val (.int (Int32.ofNat j1))] [])) _
      refine XS.iloadN X0.here hx rfl (hb hby d6_4) rfl ?_
      show Steps p.tables e below (s₁.setTop (mkF m 5 #[.val (.ref a1), .val (.int (Int32.ofNat i1)), .val (.int (Int32.ofNat j1))] [(.int (Int32.ofNat i1))])) _
      refine XS.aloadN X0.here hx rfl (hb hby d6_5) rfl rfl ?_
      show Steps p.tables e below (s₁.setTop (mkF m 6 #[.val (.ref a1), .val (.int (Int32.ofNat i1)), .val (.int (Int32.ofNat j1))] [(.ref a1), (.int (Int32.ofNat i1))])) _
      refine st101 _ ?_
      show Steps p.tables e below (T101.setTop (mkF m 9 #[.val (.ref a1), .val (.int (Int32.ofNat i1)), .val (.int (Int32.ofNat j1))] [(.int (Int32.ofNat m1)), (.int (Int32.ofNat i1))])) _
      refine XS.icmpNo X101.here hx rfl (hb hby d6_9) rfl (tlt (lt32 hi (by omega) : (Int32.ofNat i1) < (Int32.ofNat m1))).2.1 ?_
      show Steps p.tables e below (T101.setTop (mkF m 12 #[.val (.ref a1), .val (.int (Int32.ofNat i1)), .val (.int (Int32.ofNat j1))] [])) _
      refine XS.iloadN X101.here hx rfl (hb hby d6_12) rfl ?_
      show Steps p.tables e below (T101.setTop (mkF m 13 #[.val (.ref a1), .val (.int (Int32.ofNat i1)), .val (.int (Int32.ofNat j1))] [(.int (Int32.ofNat j1))])) _
      refine XS.ifNo X101.here hx rfl (hb hby d6_13) rfl ((if0 _ _).trans (flt (nn32 (by omega) : ¬ ((Int32.ofNat j1) < (0 : Int32)))).1) ?_
      show Steps p.tables e below (T101.setTop (mkF m 16 #[.val (.ref a1), .val (.int (Int32.ofNat i1)), .val (.int (Int32.ofNat j1))] [])) _
      refine XS.iloadN X101.here hx rfl (hb hby d6_16) rfl ?_
      show Steps p.tables e below (T101.setTop (mkF m 17 #[.val (.ref a1), .val (.int (Int32.ofNat i1)), .val (.int (Int32.ofNat j1))] [(.int (Int32.ofNat j1))])) _
      refine XS.aloadN X101.here hx rfl (hb hby d6_17) rfl rfl ?_
      show Steps p.tables e below (T101.setTop (mkF m 18 #[.val (.ref a1), .val (.int (Int32.ofNat i1)), .val (.int (Int32.ofNat j1))] [(.ref a1), (.int (Int32.ofNat j1))])) _
      refine st102 _ ?_
      show Steps p.tables e below (T102.setTop (mkF m 21 #[.val (.ref a1), .val (.int (Int32.ofNat i1)), .val (.int (Int32.ofNat j1))] [(.int (Int32.ofNat n1)), (.int (Int32.ofNat j1))])) _
      refine XS.icmpYes X102.here hx rfl (pc0 := 21) (pc' := 47) rfl (hb hby d6_21) rfl (tlt (lt32 hj (by omega) : (Int32.ofNat j1) < (Int32.ofNat n1))).1 (by decide) (by decide) ?_
      show Steps p.tables e below (T102.setTop (mkF m 47 #[.val (.ref a1), .val (.int (Int32.ofNat i1)), .val (.int (Int32.ofNat j1))] [])) _
      refine XS.iloadN X102.here hx rfl (hb hby d6_47) rfl ?_
      show Steps p.tables e below (T102.setTop (mkF m 48 #[.val (.ref a1), .val (.int (Int32.ofNat i1)), .val (.int (Int32.ofNat j1))] [(.int (Int32.ofNat i1))])) _
      refine XS.iloadN X102.here hx rfl (hb hby d6_48) rfl ?_
      show Steps p.tables e below (T102.setTop (mkF m 49 #[.val (.ref a1), .val (.int (Int32.ofNat i1)), .val (.int (Int32.ofNat j1))] [(.int (Int32.ofNat j1)), (.int (Int32.ofNat i1))])) _
      refine XS.aloadN X102.here hx rfl (hb hby d6_49) rfl rfl ?_
      show Steps p.tables e below (T102.setTop (mkF m 50 #[.val (.ref a1), .val (.int (Int32.ofNat i1)), .val (.int (Int32.ofNat j1))] [(.ref a1), (.int (Int32.ofNat j1)), (.int (Int32.ofNat i1))])) _
      refine st103 _ ?_
      show Steps p.tables e below (T103.setTop (mkF m 53 #[.val (.ref a1), .val (.int (Int32.ofNat i1)), .val (.int (Int32.ofNat j1))] [(.int (Int32.ofNat m1)), (.int (Int32.ofNat j1)), (.int (Int32.ofNat i1))])) _
      refine XS.imul X103.here hx rfl (hb hby d6_53) rfl ?_
      show Steps p.tables e below (T103.setTop (mkF m 54 #[.val (.ref a1), .val (.int (Int32.ofNat i1)), .val (.int (Int32.ofNat j1))] [(.int ((Int32.ofNat j1) * (Int32.ofNat m1))), (.int (Int32.ofNat i1))])) _
      rw [own_mul j1 m1]
      show Steps p.tables e below (T103.setTop (mkF m 54 #[.val (.ref a1), .val (.int (Int32.ofNat i1)), .val (.int (Int32.ofNat j1))] [(.int (Int32.ofNat (j1 * m1))), (.int (Int32.ofNat i1))])) _
      refine XS.iadd X103.here hx rfl (hb hby d6_54) rfl ?_
      show Steps p.tables e below (T103.setTop (mkF m 55 #[.val (.ref a1), .val (.int (Int32.ofNat i1)), .val (.int (Int32.ofNat j1))] [(.int ((Int32.ofNat i1) + (Int32.ofNat (j1 * m1))))])) _
      rw [own_add i1 (j1 * m1)]
      exact kt)
  obtain ⟨fs, hr, hrun, hended, hW, hsame⟩ := X103.leave (v := some (.int (Int32.ofNat (i1 + j1 * m1)))) (fun h => by rw [Bd.returns] at h; cases h)
  refine ⟨_, _, pre104 _ ?_, hrun, hended, _, _, rfl, ?_, ⟨_, rfl⟩, hW, hsame.mono (by decide) (by decide)⟩
  · show Steps p.tables e below (T103.setTop (mkF m 55 #[.val (.ref a1), .val (.int (Int32.ofNat i1)), .val (.int (Int32.ofNat j1))] [(.int (Int32.ofNat (i1 + j1 * m1)))])) _
    exact retI X103 hx Bd.returns (hb hby d6_55) hr
  · show Qidx Z a1 m1 n1 i1 j1 h0 n0 _ T103.heap _
    rw [e103]
    exact ⟨rfl, N0, rfl⟩
theorem ef_set (m : MethodId) (a1 : Addr) (d1 : UInt64) : entryFrame m #[(.ref a1), (.int (Int32.ofNat i1)), (.int (Int32.ofNat j1)), (.double d1)] 5 = mkF m 0 #[.val (.ref a1), .val (.int (Int32.ofNat i1)), .val (.int (Int32.ofNat j1)), .val (.double d1), .second] [] := by first | (simp [entryFrame, mkF, argsToLocals, Value.category]; done) | rfl
theorem d5_0 : decode prog_4_method_10_code 0 = .ok (.aload_n 0, 1) := by decide +kernel
theorem d5_1 : decode prog_4_method_10_code 1 = .ok (.getfield 30, 3) := by decide +kernel
theorem d5_4 : decode prog_4_method_10_code 4 = .ok (.aload_n 0, 1) := by decide +kernel
theorem d5_5 : decode prog_4_method_10_code 5 = .ok (.iload_n 1, 1) := by decide +kernel
theorem d5_6 : decode prog_4_method_10_code 6 = .ok (.iload_n 2, 1) := by decide +kernel
theorem pd__28II_29I : parseMethodDescriptor "(II)I" = some ⟨[.int, .int], some .int⟩ := by decide +kernel
theorem d5_7 : decode prog_4_method_10_code 7 = .ok (.invokevirtual 107, 3) := by decide +kernel
theorem d5_10 : decode prog_4_method_10_code 10 = .ok (.dload_n 3, 1) := by decide +kernel
theorem d5_11 : decode prog_4_method_10_code 11 = .ok (.dastore, 1) := by decide +kernel
theorem d5_12 : decode prog_4_method_10_code 12 = .ok (.return_, 1) := by decide +kernel
def Qset (Z : State) (a1 : Addr) (d1 : UInt64) (m1 : Nat) (n1 : Nat) (i1 : Nat) (j1 : Nat) (e1 : Addr) (kk : ClassId) (f1 : Nat → UInt64) (h0 : Heap) (n0 : Nat) (v : Option Value) (h : Heap) (L : List Loc) : Prop := v = none ∧ Fr n0 L ∧ Keep h0 h [e1] ∧ (Arv Z h e1 kk .double (Int32.ofNat (m1 * n1)) (own_dv (own_upd f1 (i1 + j1 * m1) d1) (m1 * n1)) (.double (0 : UInt64)))
set_option maxRecDepth 65536 in
set_option maxHeartbeats 40000000 in
theorem rmset (l : Launch) (Z : State) (a0 : Array Value) (hw : ∀ d ∈ tables_1, d.before a0 Z = true) (ws : List Jvm.Cond) (a1 : Addr) (d1 : UInt64) (m1 : Nat) (n1 : Nat) (i1 : Nat) (j1 : Nat) (e1 : Addr) (kk : ClassId) (f1 : Nat → UInt64) (h0 : Heap) (n0 : Nat) (Z0 : n0 ≤ h0.size) (P_E_a1 : Exa Z h0 a1 "com/example/orthoform/kernel/DenseMatrix") (P_F_a1_rows : Fld Z h0 a1 "com/example/orthoform/kernel/DenseMatrix" "rows" "I" (.int (Int32.ofNat m1))) (P_F_a1_columns : Fld Z h0 a1 "com/example/orthoform/kernel/DenseMatrix" "columns" "I" (.int (Int32.ofNat n1))) (P_F_a1_entries : Fld Z h0 a1 "com/example/orthoform/kernel/DenseMatrix" "entries" "[D" (.ref e1)) (P_V_e1 : Arv Z h0 e1 kk .double (Int32.ofNat (m1 * n1)) (own_dv f1 (m1 * n1)) (.double (0 : UInt64))) (P_G_e1 : n0 ≤ e1) (hm : m1 ≤ 3) (hn : n1 ≤ 3) (hi : i1 < m1) (hj : j1 < n1) :
    MetFree l (⟨"com/example/orthoform/kernel/DenseMatrix", "set", "(IID)V"⟩ : MethodName) (head1 (Jvm.Cond.code (⟨"com/example/orthoform/kernel/DenseMatrix", "set", "(IID)V"⟩ : MethodName) prog_4_method_10_code 5 none :: ws) ({ frames := 1, cells := 0, slots := 0, locals := 15 } : Room)) (fun a U => a = #[(.ref a1), (.int (Int32.ofNat i1)), (.int (Int32.ofNat j1)), (.double d1)] ∧ Z.Warmed39 U.vm ∧ U.heap = h0) (fun _ _ _ _ _ => True) (fun _ U o U' => ∃ v L, o = .returned v ∧ Qset Z a1 d1 m1 n1 i1 j1 e1 kk f1 h0 n0 v U'.heap L ∧ FrameEnd U o U' L ({ frames := 1, cells := 0, slots := 0, locals := 15 } : Room).cells ({ frames := 1, cells := 0, slots := 0, locals := 15 } : Room).slots) := by
  refine MetFree.of_bodySF (plainFor_of_name pn_com_example_orthoform_kernel_DenseMatrix) hisR ?_
  intro p e s m args below meth c s₁ Bd hml0 hP hK
  obtain ⟨rfl, hZ, hh⟩ := hP
  have hx := Bd.exec
  have hby := Bd.bytes
  have hml : c.maxLocals = 5 := hml0
  have hown : s.vm.findClass "com/example/orthoform/kernel/DenseMatrix" = some m.cls := findClass_of_methodNamed Bd.named
  have hnm := (name_of_methodNamed Bd.named Bd.method).1
  have X0 : Stand p l e ({ frames := 1, cells := 0, slots := 0, locals := 15 } : Room) s m #[(.ref a1), (.int (Int32.ofNat i1)), (.int (Int32.ofNat j1)), (.double d1)] below meth c s₁ [] 0 0 := Stand.of_body Bd
  have e0 : s₁.heap = h0 := by rw [← hh, Bd.state]; rfl
  have N0 := Fr.nil n0
  have pre0 : ∀ t_, Steps p.tables e below (s₁.setTop (mkF m 0 #[.val (.ref a1), .val (.int (Int32.ofNat i1)), .val (.int (Int32.ofNat j1)), .val (.double d1), .second] [])) t_ → Steps p.tables e below (s₁.setTop (entryFrame m #[(.ref a1), (.int (Int32.ofNat i1)), (.int (Int32.ofNat j1)), (.double d1)] 5)) t_ := fun t_ k => castTop (ef_set m a1 d1) k
  have hix := own_idx hi hj; have hmn := own_m9 hm hn
  obtain ⟨T101, X101, e101, st101⟩ := getF X0 hx hZ hown (host := "") (Or.inl (hw _ (List.mem_of_getElem? (i := 15) rfl))) Via.refl e0 P_F_a1_entries (g := (mkF m 1 #[.val (.ref a1), .val (.int (Int32.ofNat i1)), .val (.int (Int32.ofNat j1)), .val (.double d1), .second] [(.ref a1)])) rfl rfl (hb hby d5_1)
  obtain ⟨cq102, q102, q102'⟩ := P_E_a1.cell
  obtain ⟨_, _, ⟨T102, L102, kk102, nn102⟩, -, X102, ⟨Lc102, hQ102, l102, y102, z102⟩, st102⟩ := X101.privateBack hx (y := (⟨"com/example/orthoform/kernel/DenseMatrix", "indexOf", "(II)I"⟩ : MethodName)) hown (mvT hZ (hw _ (List.mem_of_getElem? (i := 34) rfl))) (mvT hZ (hw _ (List.mem_of_getElem? (i := 35) rfl))) (mvT hZ (own_selp (y := (⟨"com/example/orthoform/kernel/DenseMatrix", "indexOf", "(II)I"⟩ : MethodName)) (by decide) (hw _ (List.mem_of_getElem? (i := 1) rfl)) (hw _ (List.mem_of_getElem? (i := 36) rfl)) (hw _ (List.mem_of_getElem? (i := 35) rfl)))) (Cond.privateMethod_at (mvP hZ (hw _ (List.mem_of_getElem? (i := 36) rfl)) (args := #[]))) (mvT hZ (hw _ (List.mem_of_getElem? (i := 37) rfl))) (by decide) (backOf (W := 1) (rmidx l Z a0 hw [] a1 m1 n1 i1 j1 h0 n0 Z0 P_F_a1_rows P_F_a1_columns (hm) (hn) (hi) (hj)) hZ (hw _ (List.mem_of_getElem? (i := 37) rfl)) (hw _ (List.mem_of_getElem? (i := 2) rfl)) (by decide) (by decide)) (g := (mkF m 7 #[.val (.ref a1), .val (.int (Int32.ofNat i1)), .val (.int (Int32.ofNat j1)), .val (.double d1), .second] [(.int (Int32.ofNat j1)), (.int (Int32.ofNat i1)), (.ref a1), (.ref e1)])) rfl (by rw [hml]; rfl) (Steps.refl _) (a := a1) (by rw [e101]; exact q102) q102' (argsL := [(.int (Int32.ofNat i1)), (.int (Int32.ofNat j1))]) (rest := [(.ref e1)]) (lenOf pd__28II_29I rfl) rfl (by show 2 * 0 + _ ≤ _; exact Nat.le_of_eq rfl) (hb hby d5_7) (fun _ _ => ⟨rfl, e101, (by decide : 0 + 0 ≤ _), (by decide : 0 + 0 ≤ _)⟩)
  dsimp only [Pt.U, Pt.locs, Pt.cells, Pt.slots] at X102 l102 y102 z102 st102 hQ102
  subst l102 y102 z102
  obtain ⟨rfl, N102q, e102⟩ := hQ102
  have N102 := Fr.app N0 N102q
  obtain ⟨cl103, Ar103, Q103, S103, M103, H103, G103⟩ := id P_V_e1
  have in104 : ¬ ((Int32.ofNat (i1 + j1 * m1)) < 0 ∨ cl103.slots.size ≤ ((Int32.ofNat (i1 + j1 * m1))).toNatClampNeg) := inb_of S103 ⟨nn32 (by omega), lt32 hix (by omega)⟩
  obtain ⟨T105, h105, X105, e105, W105, st105⟩ := stD X102 hx hZ e102 Ar103 (j := (Int32.ofNat (i1 + j1 * m1))) in104 (g := (mkF m 11 #[.val (.ref a1), .val (.int (Int32.ofNat i1)), .val (.int (Int32.ofNat j1)), .val (.double d1), .second] [(.double d1), (.int (Int32.ofNat (i1 + j1 * m1))), (.ref e1)])) rfl rfl (hb hby d5_11)
  have z106 : n0 ≤ h105.size := Nat.le_trans Z0 (Keep.of_wr W105).1
  have k107 : Keep h0 h105 [e1] := (Keep.refl h0 [e1]).wr W105 (Or.inl (List.mem_of_getElem? (i := 0) rfl))
  have V105 : Arv Z h105 e1 kk .double (Int32.ofNat (m1 * n1)) (own_dv (own_upd f1 (i1 + j1 * m1) d1) (m1 * n1)) (.double (0 : UInt64)) := own_upd_set f1 (m1 * n1) (i1 + j1 * m1) d1 ▸ Arv.set Ar103 Q103 S103 M103 H103 G103 rfl W105 (i1 + j1 * m1) (n32 (by omega)) (by rw [own_dlen]; exact hix)
  have N105 : Fr n0 _ := Fr.snoc X105 N102 P_G_e1
  have pre108 : ∀ t_, Steps p.tables e below (T105.setTop (mkF m 12 #[.val (.ref a1), .val (.int (Int32.ofNat i1)), .val (.int (Int32.ofNat j1)), .val (.double d1), .second] [])) t_ → Steps p.tables e below (s₁.setTop (entryFrame m #[(.ref a1), (.int (Int32.ofNat i1)), (.int (Int32.ofNat j1)), (.double d1)] 5)) t_ := fun t_ kt => pre0 t_ (by
      show Steps p.tables e below (s₁.setTop (mkF m 0 #[.val (.ref a1), .val (.int (Int32.ofNat i1)), .val (.int (Int32.ofNat j1)), .val (.double d1), .second] [])) _
      refine XS.aloadN X0.here hx rfl (hb hby d5_0) rfl rfl ?_
      show Steps p.tables e below (s₁.setTop (mkF m 1 #[.val (.ref a1), .val (.int (Int32.ofNat i1)), .val (.int (Int32.ofNat j1)), .val (.double d1), .second] [(.ref a1)])) _
      refine st101 _ ?_
      show Steps p.tables e below (T101.setTop (mkF m 4 #[.val (.ref a1), .val (.int (Int32.ofNat i1)), .val (.int (Int32.ofNat j1)), .val (.double d1), .second] [(.ref e1)])) _
      refine XS.aloadN X101.here hx rfl (hb hby d5_4) rfl rfl ?_
      show Steps p.tables e below (T101.setTop (mkF m 5 #[.val (.ref a1), .val (.int (Int32.ofNat i1)), .val (.int (Int32.ofNat j1)), .val (.double d1), .second] [(.ref a1), (.ref e1)])) _
      refine XS.iloadN X101.here hx rfl (hb hby d5_5) rfl ?_
      show Steps p.tables e below (T101.setTop (mkF m 6 #[.val (.ref a1), .val (.int (Int32.ofNat i1)), .val (.int (Int32.ofNat j1)), .val (.double d1), .second] [(.int (Int32.ofNat i1)), (.ref a1), (.ref e1)])) _
      refine XS.iloadN X101.here hx rfl (hb hby d5_6) rfl ?_
      show Steps p.tables e below (T101.setTop (mkF m 7 #[.val (.ref a1), .val (.int (Int32.ofNat i1)), .val (.int (Int32.ofNat j1)), .val (.double d1), .second] [(.int (Int32.ofNat j1)), (.int (Int32.ofNat i1)), (.ref a1), (.ref e1)])) _
      refine st102.trans ?_
      show Steps p.tables e below (T102.setTop (mkF m 10 #[.val (.ref a1), .val (.int (Int32.ofNat i1)), .val (.int (Int32.ofNat j1)), .val (.double d1), .second] [(.int (Int32.ofNat (i1 + j1 * m1))), (.ref e1)])) _
      refine XS.dloadN X102.here hx rfl (hb hby d5_10) rfl ?_
      show Steps p.tables e below (T102.setTop (mkF m 11 #[.val (.ref a1), .val (.int (Int32.ofNat i1)), .val (.int (Int32.ofNat j1)), .val (.double d1), .second] [(.double d1), (.int (Int32.ofNat (i1 + j1 * m1))), (.ref e1)])) _
      refine st105 _ ?_
      exact kt)
  obtain ⟨fs, hr, hrun, hended, hW, hsame⟩ := X105.leave (v := none) (fun _ => rfl)
  refine ⟨_, _, pre108 _ ?_, hrun, hended, _, _, rfl, ?_, ⟨_, rfl⟩, hW, hsame.mono (by decide) (by decide)⟩
  · show Steps p.tables e below (T105.setTop (mkF m 12 #[.val (.ref a1), .val (.int (Int32.ofNat i1)), .val (.int (Int32.ofNat j1)), .val (.double d1), .second] [])) _
    exact X105.returnOut hx Bd.returns (hb hby d5_12) hr
  · show Qset Z a1 d1 m1 n1 i1 j1 e1 kk f1 h0 n0 _ T105.heap _
    rw [e105]
    exact ⟨rfl, N105, k107, V105⟩
theorem ef_get (m : MethodId) (a1 : Addr) : entryFrame m #[(.ref a1), (.int (Int32.ofNat i1)), (.int (Int32.ofNat j1))] 3 = mkF m 0 #[.val (.ref a1), .val (.int (Int32.ofNat i1)), .val (.int (Int32.ofNat j1))] [] := by first | (simp [entryFrame, mkF, argsToLocals, Value.category]; done) | rfl
theorem d7_0 : decode prog_4_method_9_code 0 = .ok (.aload_n 0, 1) := by decide +kernel
theorem d7_1 : decode prog_4_method_9_code 1 = .ok (.getfield 30, 3) := by decide +kernel
theorem d7_4 : decode prog_4_method_9_code 4 = .ok (.aload_n 0, 1) := by decide +kernel
theorem d7_5 : decode prog_4_method_9_code 5 = .ok (.iload_n 1, 1) := by decide +kernel
theorem d7_6 : decode prog_4_method_9_code 6 = .ok (.iload_n 2, 1) := by decide +kernel
theorem d7_7 : decode prog_4_method_9_code 7 = .ok (.invokevirtual 107, 3) := by decide +kernel
theorem d7_10 : decode prog_4_method_9_code 10 = .ok (.daload, 1) := by decide +kernel
theorem d7_11 : decode prog_4_method_9_code 11 = .ok (.dreturn, 1) := by decide +kernel
def Qget (Z : State) (a1 : Addr) (m1 : Nat) (n1 : Nat) (i1 : Nat) (j1 : Nat) (e1 : Addr) (kk : ClassId) (f1 : Nat → UInt64) (h0 : Heap) (n0 : Nat) (v : Option Value) (h : Heap) (L : List Loc) : Prop := v = some (.double (f1 (i1 + j1 * m1))) ∧ Fr n0 L ∧ h = h0
set_option maxRecDepth 65536 in
set_option maxHeartbeats 40000000 in
theorem rmget (l : Launch) (Z : State) (a0 : Array Value) (hw : ∀ d ∈ tables_1, d.before a0 Z = true) (ws : List Jvm.Cond) (a1 : Addr) (m1 : Nat) (n1 : Nat) (i1 : Nat) (j1 : Nat) (e1 : Addr) (kk : ClassId) (f1 : Nat → UInt64) (h0 : Heap) (n0 : Nat) (Z0 : n0 ≤ h0.size) (P_E_a1 : Exa Z h0 a1 "com/example/orthoform/kernel/DenseMatrix") (P_F_a1_rows : Fld Z h0 a1 "com/example/orthoform/kernel/DenseMatrix" "rows" "I" (.int (Int32.ofNat m1))) (P_F_a1_columns : Fld Z h0 a1 "com/example/orthoform/kernel/DenseMatrix" "columns" "I" (.int (Int32.ofNat n1))) (P_F_a1_entries : Fld Z h0 a1 "com/example/orthoform/kernel/DenseMatrix" "entries" "[D" (.ref e1)) (P_V_e1 : Arv Z h0 e1 kk .double (Int32.ofNat (m1 * n1)) (own_dv f1 (m1 * n1)) (.double (0 : UInt64))) (hm : m1 ≤ 3) (hn : n1 ≤ 3) (hi : i1 < m1) (hj : j1 < n1) :
    MetFree l (⟨"com/example/orthoform/kernel/DenseMatrix", "get", "(II)D"⟩ : MethodName) (head1 (Jvm.Cond.code (⟨"com/example/orthoform/kernel/DenseMatrix", "get", "(II)D"⟩ : MethodName) prog_4_method_9_code 3 (some .double) :: ws) ({ frames := 1, cells := 0, slots := 0, locals := 15 } : Room)) (fun a U => a = #[(.ref a1), (.int (Int32.ofNat i1)), (.int (Int32.ofNat j1))] ∧ Z.Warmed39 U.vm ∧ U.heap = h0) (fun _ _ _ _ _ => True) (fun _ U o U' => ∃ v L, o = .returned v ∧ Qget Z a1 m1 n1 i1 j1 e1 kk f1 h0 n0 v U'.heap L ∧ FrameEnd U o U' L ({ frames := 1, cells := 0, slots := 0, locals := 15 } : Room).cells ({ frames := 1, cells := 0, slots := 0, locals := 15 } : Room).slots) := by
  refine MetFree.of_bodySF (plainFor_of_name pn_com_example_orthoform_kernel_DenseMatrix) hisR ?_
  intro p e s m args below meth c s₁ Bd hml0 hP hK
  obtain ⟨rfl, hZ, hh⟩ := hP
  have hx := Bd.exec
  have hby := Bd.bytes
  have hml : c.maxLocals = 3 := hml0
  have hown : s.vm.findClass "com/example/orthoform/kernel/DenseMatrix" = some m.cls := findClass_of_methodNamed Bd.named
  have hnm := (name_of_methodNamed Bd.named Bd.method).1
  have X0 : Stand p l e ({ frames := 1, cells := 0, slots := 0, locals := 15 } : Room) s m #[(.ref a1), (.int (Int32.ofNat i1)), (.int (Int32.ofNat j1))] below meth c s₁ [] 0 0 := Stand.of_body Bd
  have e0 : s₁.heap = h0 := by rw [← hh, Bd.state]; rfl
  have N0 := Fr.nil n0
  have pre0 : ∀ t_, Steps p.tables e below (s₁.setTop (mkF m 0 #[.val (.ref a1), .val (.int (Int32.ofNat i1)), .val (.int (Int32.ofNat j1))] [])) t_ → Steps p.tables e below (s₁.setTop (entryFrame m #[(.ref a1), (.int (Int32.ofNat i1)), (.int (Int32.ofNat j1))] 3)) t_ := fun t_ k => castTop (ef_get m a1) k
  have hix := own_idx hi hj; have hmn := own_m9 hm hn
  obtain ⟨T101, X101, e101, st101⟩ := getF X0 hx hZ hown (host := "") (Or.inl (hw _ (List.mem_of_getElem? (i := 15) rfl))) Via.refl e0 P_F_a1_entries (g := (mkF m 1 #[.val (.ref a1), .val (.int (Int32.ofNat i1)), .val (.int (Int32.ofNat j1))] [(.ref a1)])) rfl rfl (hb hby d7_1)
  obtain ⟨cq102, q102, q102'⟩ := P_E_a1.cell
  obtain ⟨_, _, ⟨T102, L102, kk102, nn102⟩, -, X102, ⟨Lc102, hQ102, l102, y102, z102⟩, st102⟩ := X101.privateBack hx (y := (⟨"com/example/orthoform/kernel/DenseMatrix", "indexOf", "(II)I"⟩ : MethodName)) hown (mvT hZ (hw _ (List.mem_of_getElem? (i := 34) rfl))) (mvT hZ (hw _ (List.mem_of_getElem? (i := 35) rfl))) (mvT hZ (own_selp (y := (⟨"com/example/orthoform/kernel/DenseMatrix", "indexOf", "(II)I"⟩ : MethodName)) (by decide) (hw _ (List.mem_of_getElem? (i := 1) rfl)) (hw _ (List.mem_of_getElem? (i := 36) rfl)) (hw _ (List.mem_of_getElem? (i := 35) rfl)))) (Cond.privateMethod_at (mvP hZ (hw _ (List.mem_of_getElem? (i := 36) rfl)) (args := #[]))) (mvT hZ (hw _ (List.mem_of_getElem? (i := 37) rfl))) (by decide) (backOf (W := 1) (rmidx l Z a0 hw [] a1 m1 n1 i1 j1 h0 n0 Z0 P_F_a1_rows P_F_a1_columns (hm) (hn) (hi) (hj)) hZ (hw _ (List.mem_of_getElem? (i := 37) rfl)) (hw _ (List.mem_of_getElem? (i := 2) rfl)) (by decide) (by decide)) (g := (mkF m 7 #[.val (.ref a1), .val (.int (Int32.ofNat i1)), .val (.int (Int32.ofNat j1))] [(.int (Int32.ofNat j1)), (.int (Int32.ofNat i1)), (.ref a1), (.ref e1)])) rfl (by rw [hml]; rfl) (Steps.refl _) (a := a1) (by rw [e101]; exact q102) q102' (argsL := [(.int (Int32.ofNat i1)), (.int (Int32.ofNat j1))]) (rest := [(.ref e1)]) (lenOf pd__28II_29I rfl) rfl (by show 2 * 0 + _ ≤ _; exact Nat.le_of_eq rfl) (hb hby d7_7) (fun _ _ => ⟨rfl, e101, (by decide : 0 + 0 ≤ _), (by decide : 0 + 0 ≤ _)⟩)
  dsimp only [Pt.U, Pt.locs, Pt.cells, Pt.slots] at X102 l102 y102 z102 st102 hQ102
  subst l102 y102 z102
  obtain ⟨rfl, N102q, e102⟩ := hQ102
  have N102 := Fr.app N0 N102q
  obtain ⟨cl103, Ar103, Q103, S103, M103, H103, G103⟩ := id P_V_e1
  have in104 : ¬ ((Int32.ofNat (i1 + j1 * m1)) < 0 ∨ cl103.slots.size ≤ ((Int32.ofNat (i1 + j1 * m1))).toNatClampNeg) := inb_of S103 ⟨nn32 (by omega), lt32 hix (by omega)⟩
  have at105 : cl103.slots[((Int32.ofNat (i1 + j1 * m1))).toNatClampNeg]? = some (.double (f1 (i1 + j1 * m1))) := by rw [n32 (by omega), H103 (i1 + j1 * m1) (by rw [S103, n32 (by omega)]; exact hix), own_dat _ hix]
  have pre106 : ∀ t_, Steps p.tables e below (T102.setTop (mkF m 11 #[.val (.ref a1), .val (.int (Int32.ofNat i1)), .val (.int (Int32.ofNat j1))] [(.double (f1 (i1 + j1 * m1)))])) t_ → Steps p.tables e below (s₁.setTop (entryFrame m #[(.ref a1), (.int (Int32.ofNat i1)), (.int (Int32.ofNat j1))] 3)) t_ := fun t_ kt => pre0 t_ (by
      show Steps p.tables e below (s₁.setTop (mkF m 0 #[.val (.ref a1), .val (.int (Int32.ofNat i1)), .val (.int (Int32.ofNat j1))] [])) _
      refine XS.aloadN X0.here hx rfl (hb hby d7_0) rfl rfl ?_
      show Steps p.tables e below (s₁.setTop (mkF m 1 #[.val (.ref a1), .val (.int (Int32.ofNat i1)), .val (.int (Int32.ofNat j1))] [(.ref a1)])) _
      refine st101 _ ?_
      show Steps p.tables e below (T101.setTop (mkF m 4 #[.val (.ref a1), .val (.int (Int32.ofNat i1)), .val (.int (Int32.ofNat j1))] [(.ref e1)])) _
      refine XS.aloadN X101.here hx rfl (hb hby d7_4) rfl rfl ?_
      show Steps p.tables e below (T101.setTop (mkF m 5 #[.val (.ref a1), .val (.int (Int32.ofNat i1)), .val (.int (Int32.ofNat j1))] [(.ref a1), (.ref e1)])) _
      refine XS.iloadN X101.here hx rfl (hb hby d7_5) rfl ?_
      show Steps p.tables e below (T101.setTop (mkF m 6 #[.val (.ref a1), .val (.int (Int32.ofNat i1)), .val (.int (Int32.ofNat j1))] [(.int (Int32.ofNat i1)), (.ref a1), (.ref e1)])) _
      refine XS.iloadN X101.here hx rfl (hb hby d7_6) rfl ?_
      show Steps p.tables e below (T101.setTop (mkF m 7 #[.val (.ref a1), .val (.int (Int32.ofNat i1)), .val (.int (Int32.ofNat j1))] [(.int (Int32.ofNat j1)), (.int (Int32.ofNat i1)), (.ref a1), (.ref e1)])) _
      refine st102.trans ?_
      show Steps p.tables e below (T102.setTop (mkF m 10 #[.val (.ref a1), .val (.int (Int32.ofNat i1)), .val (.int (Int32.ofNat j1))] [(.int (Int32.ofNat (i1 + j1 * m1))), (.ref e1)])) _
      refine X102.daload hx (j := (Int32.ofNat (i1 + j1 * m1))) (v := (.double (f1 (i1 + j1 * m1)))) (by rw [e102]; exact Ar103.1) (State.isArrayOf_alike hZ.alike Ar103.2.1) Ar103.2.2 in104 at105 (g := (mkF m 10 #[.val (.ref a1), .val (.int (Int32.ofNat i1)), .val (.int (Int32.ofNat j1))] [(.int (Int32.ofNat (i1 + j1 * m1))), (.ref e1)])) rfl rfl (hb hby d7_10) _ ?_
      exact kt)
  obtain ⟨fs, hr, hrun, hended, hW, hsame⟩ := X102.leave (v := some (.double (f1 (i1 + j1 * m1)))) (fun h => by rw [Bd.returns] at h; cases h)
  refine ⟨_, _, pre106 _ ?_, hrun, hended, _, _, rfl, ?_, ⟨_, rfl⟩, hW, hsame.mono (by decide) (by decide)⟩
  · show Steps p.tables e below (T102.setTop (mkF m 11 #[.val (.ref a1), .val (.int (Int32.ofNat i1)), .val (.int (Int32.ofNat j1))] [(.double (f1 (i1 + j1 * m1)))])) _
    exact own_retD X102 hx Bd.returns (hb hby d7_11) hr
  · show Qget Z a1 m1 n1 i1 j1 e1 kk f1 h0 n0 _ T102.heap _
    rw [e102]
    exact ⟨rfl, N102, rfl⟩
def own_rows (b m : Nat) : List Value := vals (fun j => Value.ref (b + 1 + j)) m
theorem own_rows_eq (b m : Nat) : (((List.range m).map fun j => b + 1 + j).map Value.ref) = own_rows b m := by simp [own_rows, vals]
theorem own_rat (b : Nat) {m i : Nat} (h : i < m) (d : Value) : (own_rows b m).getD i d = .ref (b + 1 + i) := vals_at _ h d
def own_cur (f : Nat → UInt64) (m i j x : Nat) : UInt64 := if x < j then f (i + x * m) else 0
theorem own_cur_step (f : Nat → UInt64) (m i j n : Nat) : (own_dv (own_cur f m i j) n).set j (.double (f (i + j * m))) = own_dv (own_cur f m i (j + 1)) n := by
  rw [own_upd_set]
  refine own_dcong fun x _ => ?_
  unfold own_upd own_cur
  by_cases q : x = j
  · rw [if_pos q, if_pos (by omega), q]
  · rw [if_neg q]
    by_cases z : x < j
    · rw [if_pos z, if_pos (by omega)]
    · rw [if_neg z, if_neg (by omega)]
theorem own_cur_end (f : Nat → UInt64) (m i n : Nat) : own_dv (own_cur f m i n) n = own_dv (fun j => f (i + j * m)) n := own_dcong fun x hx => if_pos hx
theorem own_padc (f : Nat → UInt64) (m i n x : Nat) : (own_dv (own_cur f m i 0) n).getD x (.double 0) = ([] : List Value).getD x (.double 0) := own_padv (.double 0) n x
theorem own_nnu (x : Int32) : 0 ≤ ((x.toUInt32 >>> ((16 : Int32) &&& 31).toUInt32).toInt32).toInt := by
  rw [c_iushr x 16 16 (by decide) (by decide)]; omega
theorem d3_25 : decode prog_4_method_34_code 25 = .ok (.iload_n 3, 1) := by decide +kernel
theorem d3_26 : decode prog_4_method_34_code 26 = .ok (.aload_n 0, 1) := by decide +kernel
theorem d3_27 : decode prog_4_method_34_code 27 = .ok (.getfield 27, 3) := by decide +kernel
theorem d3_30 : decode prog_4_method_34_code 30 = .ok (.if_icmp .ge 27, 3) := by decide +kernel
theorem d3_33 : decode prog_4_method_34_code 33 = .ok (.aload_n 1, 1) := by decide +kernel
theorem d3_34 : decode prog_4_method_34_code 34 = .ok (.iload_n 2, 1) := by decide +kernel
theorem d3_35 : decode prog_4_method_34_code 35 = .ok (.aaload, 1) := by decide +kernel
theorem d3_36 : decode prog_4_method_34_code 36 = .ok (.iload_n 3, 1) := by decide +kernel
theorem d3_37 : decode prog_4_method_34_code 37 = .ok (.aload_n 0, 1) := by decide +kernel
theorem d3_38 : decode prog_4_method_34_code 38 = .ok (.getfield 30, 3) := by decide +kernel
theorem d3_41 : decode prog_4_method_34_code 41 = .ok (.iload_n 2, 1) := by decide +kernel
theorem d3_42 : decode prog_4_method_34_code 42 = .ok (.iload_n 3, 1) := by decide +kernel
theorem d3_43 : decode prog_4_method_34_code 43 = .ok (.aload_n 0, 1) := by decide +kernel
theorem d3_44 : decode prog_4_method_34_code 44 = .ok (.getfield 21, 3) := by decide +kernel
theorem d3_47 : decode prog_4_method_34_code 47 = .ok (.imul, 1) := by decide +kernel
theorem d3_48 : decode prog_4_method_34_code 48 = .ok (.iadd, 1) := by decide +kernel
theorem d3_49 : decode prog_4_method_34_code 49 = .ok (.daload, 1) := by decide +kernel
theorem d3_50 : decode prog_4_method_34_code 50 = .ok (.dastore, 1) := by decide +kernel
theorem d3_51 : decode prog_4_method_34_code 51 = .ok (.iinc 3 1, 3) := by decide +kernel
theorem d3_54 : decode prog_4_method_34_code 54 = .ok (.goto (-29), 3) := by decide +kernel
set_option maxRecDepth 65536 in
set_option maxHeartbeats 40000000 in
theorem own_tin {p : Program} {l : Launch} {e : Env} {R : Room} {s : State} {m : MethodId} {args : Array Value} {below : List Frame} {meth : Method} {c : Code} {cells slots : Nat} {Z : State} {a0 : Array Value} {n0 : Nat} {T0 : State} {locs : List Loc} {h0 : Heap} (a1 : Addr) (b1 : Addr) (e1 : Addr) (kk : ClassId) (kA : ClassId) (kr : ClassId) (m1 : Nat) (n1 : Nat) (f1 : Nat → UInt64) (i1 : Nat) (j : Nat) (X0 : Stand p l e R s m args below meth c T0 locs cells slots) (hx : p.tables.exec = Jvm.exec) (hZ : Z.Warmed39 s.vm) (hw : ∀ d ∈ tables_1, d.before a0 Z = true) (hby : c.code = prog_4_method_34_code) (hml : c.maxLocals = 4) (hown : s.vm.findClass "com/example/orthoform/kernel/DenseMatrix" = some m.cls) (e0 : T0.heap = h0) (N0 : Fr n0 locs) (Z0 : n0 ≤ h0.size) (hRf : 0 ≤ R.frames) (hRl : 0 ≤ R.locals) (hRc : cells + 0 ≤ R.cells) (hRs : slots + 0 ≤ R.slots) (P_F_a1_rows : Fld Z h0 a1 "com/example/orthoform/kernel/DenseMatrix" "rows" "I" (.int (Int32.ofNat m1))) (P_F_a1_columns : Fld Z h0 a1 "com/example/orthoform/kernel/DenseMatrix" "columns" "I" (.int (Int32.ofNat n1))) (P_F_a1_entries : Fld Z h0 a1 "com/example/orthoform/kernel/DenseMatrix" "entries" "[D" (.ref e1)) (P_V_e1 : Arv Z h0 e1 kk .double (Int32.ofNat (m1 * n1)) (own_dv f1 (m1 * n1)) (.double (0 : UInt64))) (P_V_b1 : Arv Z h0 b1 kA (.array .double) (Int32.ofNat m1) (own_rows b1 m1) .null) (P_V__b1___1___i1_ : Arv Z h0 (b1 + 1 + i1) kr .double (Int32.ofNat n1) (own_dv (own_cur f1 m1 i1 j) n1) (.double (0 : UInt64))) (P_ne_a1__b1___1___i1_ : a1 ≠ (b1 + 1 + i1)) (P_ne_e1__b1___1___i1_ : e1 ≠ (b1 + 1 + i1)) (P_ne_b1__b1___1___i1_ : b1 ≠ (b1 + 1 + i1)) (P_G__b1___1___i1_ : n0 ≤ (b1 + 1 + i1)) (hm : m1 ≤ 3) (hn : n1 ≤ 3) (hi1 : i1 < m1) (hj1 : j < n1) :
    ∃ (T' : State) (h' : Heap) (locs' : List Loc), Stand p l e R s m args below meth c T' locs' cells slots ∧ T'.heap = h' ∧ Fr n0 locs' ∧ Keep h0 h' [(b1 + 1 + i1)] ∧ (Arv Z h' (b1 + 1 + i1) kr .double (Int32.ofNat n1) (own_dv (own_cur f1 m1 i1 (j + 1)) n1) (.double (0 : UInt64))) ∧ ∀ t_, Steps p.tables e below (T'.setTop (mkF m 25 #[.val (.ref a1), .val (.ref b1), .val (.int (Int32.ofNat i1)), .val (.int (Int32.ofNat (j + 1)))] [])) t_ → Steps p.tables e below (T0.setTop (mkF m 25 #[.val (.ref a1), .val (.ref b1), .val (.int (Int32.ofNat i1)), .val (.int (Int32.ofNat j))] [])) t_ := by
  have pre0 : ∀ t_, Steps p.tables e below (T0.setTop (mkF m 25 #[.val (.ref a1), .val (.ref b1), .val (.int (Int32.ofNat i1)), .val (.int (Int32.ofNat j))] [])) t_ → Steps p.tables e below (T0.setTop (mkF m 25 #[.val (.ref a1), .val (.ref b1), .val (.int (Int32.ofNat i1)), .val (.int (Int32.ofNat j))] [])) t_ := fun _ k => k
  have hix := own_idx hi1 hj1; have hmn := own_m9 hm hn
  obtain ⟨T101, X101, e101, st101⟩ := getF X0 hx hZ hown (host := "") (Or.inl (hw _ (List.mem_of_getElem? (i := 12) rfl))) Via.refl e0 P_F_a1_columns (g := (mkF m 27 #[.val (.ref a1), .val (.ref b1), .val (.int (Int32.ofNat i1)), .val (.int (Int32.ofNat j))] [(.ref a1), (.int (Int32.ofNat j))])) rfl rfl (hb hby d3_27)
  obtain ⟨cl102, Ar102, Q102, S102, M102, H102, G102⟩ := id P_V_b1
  have in103 : ¬ ((Int32.ofNat i1) < 0 ∨ cl102.slots.size ≤ ((Int32.ofNat i1)).toNatClampNeg) := inb_of S102 ⟨nn32 (by omega), lt32 hi1 (by omega)⟩
  have at104 : cl102.slots[((Int32.ofNat i1)).toNatClampNeg]? = some (.ref (b1 + 1 + i1)) := by rw [n32 (by omega), H102 i1 (by rw [S102, n32 (by omega)]; exact hi1), own_rat _ hi1]
  obtain ⟨T105, X105, e105, st105⟩ := getF X101 hx hZ hown (host := "") (Or.inl (hw _ (List.mem_of_getElem? (i := 15) rfl))) Via.refl e101 P_F_a1_entries (g := (mkF m 38 #[.val (.ref a1), .val (.ref b1), .val (.int (Int32.ofNat i1)), .val (.int (Int32.ofNat j))] [(.ref a1), (.int (Int32.ofNat j)), (.ref (b1 + 1 + i1))])) rfl rfl (hb hby d3_38)
  obtain ⟨T106, X106, e106, st106⟩ := getF X105 hx hZ hown (host := "") (Or.inl (hw _ (List.mem_of_getElem? (i := 10) rfl))) Via.refl e105 P_F_a1_rows (g := (mkF m 44 #[.val (.ref a1), .val (.ref b1), .val (.int (Int32.ofNat i1)), .val (.int (Int32.ofNat j))] [(.ref a1), (.int (Int32.ofNat j)), (.int (Int32.ofNat i1)), (.ref e1), (.int (Int32.ofNat j)), (.ref (b1 + 1 + i1))])) rfl rfl (hb hby d3_44)
  obtain ⟨cl107, Ar107, Q107, S107, M107, H107, G107⟩ := id P_V_e1
  have in108 : ¬ ((Int32.ofNat (i1 + j * m1)) < 0 ∨ cl107.slots.size ≤ ((Int32.ofNat (i1 + j * m1))).toNatClampNeg) := inb_of S107 ⟨nn32 (by omega), lt32 hix (by omega)⟩
  have at109 : cl107.slots[((Int32.ofNat (i1 + j * m1))).toNatClampNeg]? = some (.double (f1 (i1 + j * m1))) := by rw [n32 (by omega), H107 (i1 + j * m1) (by rw [S107, n32 (by omega)]; exact hix), own_dat _ hix]
  obtain ⟨cl110, Ar110, Q110, S110, M110, H110, G110⟩ := id P_V__b1___1___i1_
  have in111 : ¬ ((Int32.ofNat j) < 0 ∨ cl110.slots.size ≤ ((Int32.ofNat j)).toNatClampNeg) := inb_of S110 ⟨nn32 (by omega), lt32 hj1 (by omega)⟩
  obtain ⟨T112, h112, X112, e112, W112, st112⟩ := stD X106 hx hZ e106 Ar110 (j := (Int32.ofNat j)) in111 (g := (mkF m 50 #[.val (.ref a1), .val (.ref b1), .val (.int (Int32.ofNat i1)), .val (.int (Int32.ofNat j))] [(.double (f1 (i1 + j * m1))), (.int (Int32.ofNat j)), (.ref (b1 + 1 + i1))])) rfl rfl (hb hby d3_50)
  have z113 : n0 ≤ h112.size := Nat.le_trans Z0 (Keep.of_wr W112).1
  have k114 : Keep h0 h112 [(b1 + 1 + i1)] := (Keep.refl h0 [(b1 + 1 + i1)]).wr W112 (Or.inl (List.mem_of_getElem? (i := 0) rfl))
  have V112 : Arv Z h112 (b1 + 1 + i1) kr .double (Int32.ofNat n1) (own_dv (own_cur f1 m1 i1 (j + 1)) n1) (.double (0 : UInt64)) := own_cur_step f1 m1 i1 j n1 ▸ Arv.set Ar110 Q110 S110 M110 H110 G110 rfl W112 j (n32 (by omega)) (by rw [own_dlen]; exact hj1)
  have N112 : Fr n0 _ := Fr.snoc X112 N0 P_G__b1___1___i1_
  have pre115 : ∀ t_, Steps p.tables e below (T112.setTop (mkF m 25 #[.val (.ref a1), .val (.ref b1), .val (.int (Int32.ofNat i1)), .val (.int (Int32.ofNat (j + 1)))] [])) t_ → Steps p.tables e below (T0.setTop (mkF m 25 #[.val (.ref a1), .val (.ref b1), .val (.int (Int32.ofNat i1)), .val (.int (Int32.ofNat j))] [])) t_ := fun t_ kt => pre0 t_ (by
      show Steps p.tables e below (T0.setTop (mkF m 25 #[.val (.ref a1), .val (.ref b1), .val (.int (Int32.ofNat i1)), .val (.int (Int32.ofNat j))] [])) _
      refine XS.iloadN X0.here hx rfl (hb hby d3_25) rfl ?_
      show Steps p.tables e below (T0.setTop (mkF m 26 #[.val (.ref a1), .val (.ref b1), .val (.int (Int32.ofNat i1)), .val (.int (Int32.ofNat j))] [(.int (Int32.ofNat j))])) _
      refine XS.aloadN X0.here hx rfl (hb hby d3_26) rfl rfl ?_
      show Steps p.tables e below (T0.setTop (mkF m 27 #[.val (.ref a1), .val (.ref b1), .val (.int (Int32.ofNat i1)), .val (.int (Int32.ofNat j))] [(.ref a1), (.int (Int32.ofNat j))])) _
      refine st101 _ ?_
      show Steps p.tables e below (T101.setTop (mkF m 30 #[.val (.ref a1), .val (.ref b1), .val (.int (Int32.ofNat i1)), .val (.int (Int32.ofNat j))] [(.int (Int32.ofNat n1)), (.int (Int32.ofNat j))])) _
      refine XS.icmpNo X101.here hx rfl (hb hby d3_30) rfl (tlt (lt32 hj1 (by omega) : (Int32.ofNat j) < (Int32.ofNat n1))).2.1 ?_
      show Steps p.tables e below (T101.setTop (mkF m 33 #[.val (.ref a1), .val (.ref b1), .val (.int (Int32.ofNat i1)), .val (.int (Int32.ofNat j))] [])) _
      refine XS.aloadN X101.here hx rfl (hb hby d3_33) rfl rfl ?_
      show Steps p.tables e below (T101.setTop (mkF m 34 #[.val (.ref a1), .val (.ref b1), .val (.int (Int32.ofNat i1)), .val (.int (Int32.ofNat j))] [(.ref b1)])) _
      refine XS.iloadN X101.here hx rfl (hb hby d3_34) rfl ?_
      show Steps p.tables e below (T101.setTop (mkF m 35 #[.val (.ref a1), .val (.ref b1), .val (.int (Int32.ofNat i1)), .val (.int (Int32.ofNat j))] [(.int (Int32.ofNat i1)), (.ref b1)])) _
      refine X101.aaload hx (j := (Int32.ofNat i1)) (v := (.ref (b1 + 1 + i1))) (by rw [e101]; exact Ar102.1) (State.isArrayOf_alike hZ.alike Ar102.2.1) rfl Ar102.2.2 in103 at104 (g := (mkF m 35 #[.val (.ref a1), .val (.ref b1), .val (.int (Int32.ofNat i1)), .val (.int (Int32.ofNat j))] [(.int (Int32.ofNat i1)), (.ref b1)])) rfl rfl (hb hby d3_35) _ ?_
      show Steps p.tables e below (T101.setTop (mkF m 36 #[.val (.ref a1), .val (.ref b1), .val (.int (Int32.ofNat i1)), .val (.int (Int32.ofNat j))] [(.ref (b1 + 1 + i1))])) _
      refine XS.iloadN X101.here hx rfl (hb hby d3_36) rfl ?_
      show Steps p.tables e below (T101.setTop (mkF m 37 #[.val (.ref a1), .val (.ref b1), .val (.int (Int32.ofNat i1)), .val (.int (Int32.ofNat j))] [(.int (Int32.ofNat j)), (.ref (b1 + 1 + i1))])) _
      refine XS.aloadN X101.here hx rfl (hb hby d3_37) rfl rfl ?_
      show Steps p.tables e below (T101.setTop (mkF m 38 #[.val (.ref a1), .val (.ref b1), .val (.int (Int32.ofNat i1)), .val (.int (Int32.ofNat j))] [(.ref a1), (.int (Int32.ofNat j)), (.ref (b1 + 1 + i1))])) _
      refine st105 _ ?_
      show Steps p.tables e below (T105.setTop (mkF m 41 #[.val (.ref a1), .val (.ref b1), .val (.int (Int32.ofNat i1)), .val (.int (Int32.ofNat j))] [(.ref e1), (.int (Int32.ofNat j)), (.ref (b1 + 1 + i1))])) _
      refine XS.iloadN X105.here hx rfl (hb hby d3_41) rfl ?_
      show Steps p.tables e below (T105.setTop (mkF m 42 #[.val (.ref a1), .val (.ref b1), .val (.int (Int32.ofNat i1)), .val (.int (Int32.ofNat j))] [(.int (Int32.ofNat i1)), (.ref e1), (.int (Int32.ofNat j)), (.ref (b1 + 1 + i1))])) _
      refine XS.iloadN X105.here hx rfl (hb hby d3_42) rfl ?_
      show Steps p.tables e below (T105.setTop (mkF m 43 #[.val (.ref a1), .val (.ref b1), .val (.int (Int32.ofNat i1)), .val (.int (Int32.ofNat j))] [(.int (Int32.ofNat j)), (.int (Int32.ofNat i1)), (.ref e1), (.int (Int32.ofNat j)), (.ref (b1 + 1 + i1))])) _
      refine XS.aloadN X105.here hx rfl (hb hby d3_43) rfl rfl ?_
      show Steps p.tables e below (T105.setTop (mkF m 44 #[.val (.ref a1), .val (.ref b1), .val (.int (Int32.ofNat i1)), .val (.int (Int32.ofNat j))] [(.ref a1), (.int (Int32.ofNat j)), (.int (Int32.ofNat i1)), (.ref e1), (.int (Int32.ofNat j)), (.ref (b1 + 1 + i1))])) _
      refine st106 _ ?_
      show Steps p.tables e below (T106.setTop (mkF m 47 #[.val (.ref a1), .val (.ref b1), .val (.int (Int32.ofNat i1)), .val (.int (Int32.ofNat j))] [(.int (Int32.ofNat m1)), (.int (Int32.ofNat j)), (.int (Int32.ofNat i1)), (.ref e1), (.int (Int32.ofNat j)), (.ref (b1 + 1 + i1))])) _
      refine XS.imul X106.here hx rfl (hb hby d3_47) rfl ?_
      show Steps p.tables e below (T106.setTop (mkF m 48 #[.val (.ref a1), .val (.ref b1), .val (.int (Int32.ofNat i1)), .val (.int (Int32.ofNat j))] [(.int ((Int32.ofNat j) * (Int32.ofNat m1))), (.int (Int32.ofNat i1)), (.ref e1), (.int (Int32.ofNat j)), (.ref (b1 + 1 + i1))])) _
      rw [own_mul j m1]
      show Steps p.tables e below (T106.setTop (mkF m 48 #[.val (.ref a1), .val (.ref b1), .val (.int (Int32.ofNat i1)), .val (.int (Int32.ofNat j))] [(.int (Int32.ofNat (j * m1))), (.int (Int32.ofNat i1)), (.ref e1), (.int (Int32.ofNat j)), (.ref (b1 + 1 + i1))])) _
      refine XS.iadd X106.here hx rfl (hb hby d3_48) rfl ?_
      show Steps p.tables e below (T106.setTop (mkF m 49 #[.val (.ref a1), .val (.ref b1), .val (.int (Int32.ofNat i1)), .val (.int (Int32.ofNat j))] [(.int ((Int32.ofNat i1) + (Int32.ofNat (j * m1)))), (.ref e1), (.int (Int32.ofNat j)), (.ref (b1 + 1 + i1))])) _
      rw [own_add i1 (j * m1)]
      show Steps p.tables e below (T106.setTop (mkF m 49 #[.val (.ref a1), .val (.ref b1), .val (.int (Int32.ofNat i1)), .val (.int (Int32.ofNat j))] [(.int (Int32.ofNat (i1 + j * m1))), (.ref e1), (.int (Int32.ofNat j)), (.ref (b1 + 1 + i1))])) _
      refine X106.daload hx (j := (Int32.ofNat (i1 + j * m1))) (v := (.double (f1 (i1 + j * m1)))) (by rw [e106]; exact Ar107.1) (State.isArrayOf_alike hZ.alike Ar107.2.1) Ar107.2.2 in108 at109 (g := (mkF m 49 #[.val (.ref a1), .val (.ref b1), .val (.int (Int32.ofNat i1)), .val (.int (Int32.ofNat j))] [(.int (Int32.ofNat (i1 + j * m1))), (.ref e1), (.int (Int32.ofNat j)), (.ref (b1 + 1 + i1))])) rfl rfl (hb hby d3_49) _ ?_
      show Steps p.tables e below (T106.setTop (mkF m 50 #[.val (.ref a1), .val (.ref b1), .val (.int (Int32.ofNat i1)), .val (.int (Int32.ofNat j))] [(.double (f1 (i1 + j * m1))), (.int (Int32.ofNat j)), (.ref (b1 + 1 + i1))])) _
      refine st112 _ ?_
      show Steps p.tables e below (T112.setTop (mkF m 51 #[.val (.ref a1), .val (.ref b1), .val (.int (Int32.ofNat i1)), .val (.int (Int32.ofNat j))] [])) _
      refine XS.iinc X112.here hx rfl (hb hby d3_51) rfl (l' := #[.val (.ref a1), .val (.ref b1), .val (.int (Int32.ofNat i1)), .val (.int ((Int32.ofNat j) + (1 : Int32)))]) rfl ?_
      show Steps p.tables e below (T112.setTop (mkF m 54 #[.val (.ref a1), .val (.ref b1), .val (.int (Int32.ofNat i1)), .val (.int ((Int32.ofNat j) + (1 : Int32)))] [])) _
      rw [one32 j]
      show Steps p.tables e below (T112.setTop (mkF m 54 #[.val (.ref a1), .val (.ref b1), .val (.int (Int32.ofNat i1)), .val (.int (Int32.ofNat (j + 1)))] [])) _
      refine XS.goto X112.here hx rfl (pc0 := 54) (pc' := 25) rfl (hb hby d3_54) (by decide) (by decide) ?_
      exact kt)
  exact ⟨T112, h112, _, X112, e112, N112, k114, V112, fun t_ kt => pre115 t_ kt⟩
set_option maxRecDepth 65536 in
set_option maxHeartbeats 4000000 in
theorem own_lin {p : Program} {l : Launch} {e : Env} {R : Room} {s : State} {m : MethodId} {args : Array Value} {below : List Frame} {meth : Method} {c : Code} {cells slots : Nat} {Z : State} {a0 : Array Value} {n0 : Nat} (a1 : Addr) (b1 : Addr) (e1 : Addr) (kk : ClassId) (kA : ClassId) (kr : ClassId) (m1 : Nat) (n1 : Nat) (f1 : Nat → UInt64) (i1 : Nat) (hx : p.tables.exec = Jvm.exec) (hZ : Z.Warmed39 s.vm) (hw : ∀ d ∈ tables_1, d.before a0 Z = true) (hby : c.code = prog_4_method_34_code) (hml : c.maxLocals = 4) (hown : s.vm.findClass "com/example/orthoform/kernel/DenseMatrix" = some m.cls) (P_ne_a1__b1___1___i1_ : a1 ≠ (b1 + 1 + i1)) (P_ne_e1__b1___1___i1_ : e1 ≠ (b1 + 1 + i1)) (P_ne_b1__b1___1___i1_ : b1 ≠ (b1 + 1 + i1)) (P_G__b1___1___i1_ : n0 ≤ (b1 + 1 + i1)) (hm : m1 ≤ 3) (hn : n1 ≤ 3) (hi1 : i1 < m1) : ∀ (k j : Nat) (T0 : State) (h0 : Heap) (locs : List Loc), j + k = n1 → 0 ≤ j → Stand p l e R s m args below meth c T0 locs cells slots → T0.heap = h0 → Fr n0 locs → n0 ≤ h0.size → (Fld Z h0 a1 "com/example/orthoform/kernel/DenseMatrix" "rows" "I" (.int (Int32.ofNat m1))) → (Fld Z h0 a1 "com/example/orthoform/kernel/DenseMatrix" "columns" "I" (.int (Int32.ofNat n1))) → (Fld Z h0 a1 "com/example/orthoform/kernel/DenseMatrix" "entries" "[D" (.ref e1)) → (Arv Z h0 e1 kk .double (Int32.ofNat (m1 * n1)) (own_dv f1 (m1 * n1)) (.double (0 : UInt64))) → (Arv Z h0 b1 kA (.array .double) (Int32.ofNat m1) (own_rows b1 m1) .null) → (Arv Z h0 (b1 + 1 + i1) kr .double (Int32.ofNat n1) (own_dv (own_cur f1 m1 i1 j) n1) (.double (0 : UInt64))) → 0 ≤ R.frames → 0 ≤ R.locals → cells + 0 ≤ R.cells → slots + 0 ≤ R.slots →
    ∃ (T' : State) (h' : Heap) (locs' : List Loc), Stand p l e R s m args below meth c T' locs' cells slots ∧ T'.heap = h' ∧ Fr n0 locs' ∧ Keep h0 h' [(b1 + 1 + i1)] ∧ (Arv Z h' (b1 + 1 + i1) kr .double (Int32.ofNat n1) (own_dv (own_cur f1 m1 i1 n1) n1) (.double (0 : UInt64))) ∧ ∀ t_, Steps p.tables e below (T'.setTop (mkF m 25 #[.val (.ref a1), .val (.ref b1), .val (.int (Int32.ofNat i1)), .val (.int (Int32.ofNat n1))] [])) t_ → Steps p.tables e below (T0.setTop (mkF m 25 #[.val (.ref a1), .val (.ref b1), .val (.int (Int32.ofNat i1)), .val (.int (Int32.ofNat j))] [])) t_ := by
  intro k
  induction k with
  | zero =>
    intro j T0 h0 locs hi hlo X0 e0 N0 Z0 V0 V1 V2 V3 V4 V5 hf hl hc hs
    obtain rfl : j = n1 := by omega
    exact ⟨T0, h0, locs, X0, e0, N0, Keep.refl _ _, V5, fun _ q => q⟩
  | succ k ih =>
    intro j T0 h0 locs hi hlo X0 e0 N0 Z0 V0 V1 V2 V3 V4 V5 hf hl hc hs
    obtain ⟨T1, h1, L1, X1, e1, N1, K1, Y0, st1⟩ := own_tin a1 b1 e1 kk kA kr m1 n1 f1 i1 j X0 hx hZ hw hby hml hown e0 N0 Z0 hf hl hc hs V0 V1 V2 V3 V4 V5 P_ne_a1__b1___1___i1_ P_ne_e1__b1___1___i1_ P_ne_b1__b1___1___i1_ P_G__b1___1___i1_ hm hn hi1 (by omega)
    obtain ⟨T2, h2, L2, X2, e2, N2, K2, U0, st2⟩ := ih (j + 1) T1 h1 L1 (by omega) (by omega) X1 e1 N1 (Nat.le_trans Z0 K1.1) (V0.keep K1 (own_nmc P_ne_a1__b1___1___i1_ own_nm0)) (V1.keep K1 (own_nmc P_ne_a1__b1___1___i1_ own_nm0)) (V2.keep K1 (own_nmc P_ne_a1__b1___1___i1_ own_nm0)) (V3.keep K1 (own_nmc P_ne_e1__b1___1___i1_ own_nm0)) (V4.keep K1 (own_nmc P_ne_b1__b1___1___i1_ own_nm0)) Y0 hf hl hc hs
    exact ⟨T2, h2, L2, X2, e2, N2, K1.trans K2 (own_wmc (Or.inl (List.mem_of_getElem? (i := 0) rfl)) own_wm0), U0, fun q kq => st1 q (st2 q kq)⟩
theorem own_linP {p : Program} {l : Launch} {e : Env} {R : Room} {s : State} {m : MethodId} {args : Array Value} {below : List Frame} {meth : Method} {c : Code} {cells slots : Nat} {Z : State} {a0 : Array Value} {n0 : Nat} {T0 : State} {locs : List Loc} {h0 : Heap} (a1 : Addr) (b1 : Addr) (e1 : Addr) (kk : ClassId) (kA : ClassId) (kr : ClassId) (m1 : Nat) (n1 : Nat) (f1 : Nat → UInt64) (i1 : Nat) (X0 : Stand p l e R s m args below meth c T0 locs cells slots) (hx : p.tables.exec = Jvm.exec) (hZ : Z.Warmed39 s.vm) (hw : ∀ d ∈ tables_1, d.before a0 Z = true) (hby : c.code = prog_4_method_34_code) (hml : c.maxLocals = 4) (hown : s.vm.findClass "com/example/orthoform/kernel/DenseMatrix" = some m.cls) (e0 : T0.heap = h0) (N0 : Fr n0 locs) (Z0 : n0 ≤ h0.size) (hRf : 0 ≤ R.frames) (hRl : 0 ≤ R.locals) (hRc : cells + 0 ≤ R.cells) (hRs : slots + 0 ≤ R.slots) (P_F_a1_rows : Fld Z h0 a1 "com/example/orthoform/kernel/DenseMatrix" "rows" "I" (.int (Int32.ofNat m1))) (P_F_a1_columns : Fld Z h0 a1 "com/example/orthoform/kernel/DenseMatrix" "columns" "I" (.int (Int32.ofNat n1))) (P_F_a1_entries : Fld Z h0 a1 "com/example/orthoform/kernel/DenseMatrix" "entries" "[D" (.ref e1)) (P_V_e1 : Arv Z h0 e1 kk .double (Int32.ofNat (m1 * n1)) (own_dv f1 (m1 * n1)) (.double (0 : UInt64))) (P_V_b1 : Arv Z h0 b1 kA (.array .double) (Int32.ofNat m1) (own_rows b1 m1) .null) (P_V__b1___1___i1_ : Arv Z h0 (b1 + 1 + i1) kr .double (Int32.ofNat n1) (own_dv (own_cur f1 m1 i1 0) n1) (.double (0 : UInt64))) (P_ne_a1__b1___1___i1_ : a1 ≠ (b1 + 1 + i1)) (P_ne_e1__b1___1___i1_ : e1 ≠ (b1 + 1 + i1)) (P_ne_b1__b1___1___i1_ : b1 ≠ (b1 + 1 + i1)) (P_G__b1___1___i1_ : n0 ≤ (b1 + 1 + i1)) (hm : m1 ≤ 3) (hn : n1 ≤ 3) (hi1 : i1 < m1) (hle_ : 0 ≤ n1) :
    ∃ (T' : State) (h' : Heap) (locs' : List Loc), Stand p l e R s m args below meth c T' locs' cells slots ∧ T'.heap = h' ∧ Fr n0 locs' ∧ Keep h0 h' [(b1 + 1 + i1)] ∧ (Arv Z h' (b1 + 1 + i1) kr .double (Int32.ofNat n1) (own_dv (own_cur f1 m1 i1 n1) n1) (.double (0 : UInt64))) ∧ ∀ t_, Steps p.tables e below (T'.setTop (mkF m 25 #[.val (.ref a1), .val (.ref b1), .val (.int (Int32.ofNat i1)), .val (.int (Int32.ofNat n1))] [])) t_ → Steps p.tables e below (T0.setTop (mkF m 25 #[.val (.ref a1), .val (.ref b1), .val (.int (Int32.ofNat i1)), .val (.int (Int32.ofNat 0))] [])) t_ := by
  exact own_lin a1 b1 e1 kk kA kr m1 n1 f1 i1 hx hZ hw hby hml hown P_ne_a1__b1___1___i1_ P_ne_e1__b1___1___i1_ P_ne_b1__b1___1___i1_ P_G__b1___1___i1_ hm hn hi1 (n1 - 0) 0 T0 h0 locs (by omega) (by omega) X0 e0 N0 Z0 P_F_a1_rows P_F_a1_columns P_F_a1_entries P_V_e1 P_V_b1 P_V__b1___1___i1_ hRf hRl hRc hRs
theorem ef_toA (m : MethodId) (a1 : Addr) : entryFrame m #[(.ref a1)] 4 = mkF m 0 #[.val (.ref a1), .unset, .unset, .unset] [] := by first | (simp [entryFrame, mkF, argsToLocals, Value.category]; done) | rfl
theorem d3_0 : decode prog_4_method_34_code 0 = .ok (.aload_n 0, 1) := by decide +kernel
theorem d3_1 : decode prog_4_method_34_code 1 = .ok (.getfield 21, 3) := by decide +kernel
theorem d3_4 : decode prog_4_method_34_code 4 = .ok (.aload_n 0, 1) := by decide +kernel
theorem d3_5 : decode prog_4_method_34_code 5 = .ok (.getfield 27, 3) := by decide +kernel
theorem d3_8 : decode prog_4_method_34_code 8 = .ok (.multianewarray 168 2, 4) := by decide +kernel
theorem d3_12 : decode prog_4_method_34_code 12 = .ok (.astore_n 1, 1) := by decide +kernel
theorem d3_13 : decode prog_4_method_34_code 13 = .ok (.iconst 0, 1) := by decide +kernel
theorem d3_14 : decode prog_4_method_34_code 14 = .ok (.istore_n 2, 1) := by decide +kernel
theorem d3_15 : decode prog_4_method_34_code 15 = .ok (.iload_n 2, 1) := by decide +kernel
theorem d3_16 : decode prog_4_method_34_code 16 = .ok (.aload_n 0, 1) := by decide +kernel
theorem d3_17 : decode prog_4_method_34_code 17 = .ok (.getfield 21, 3) := by decide +kernel
theorem d3_20 : decode prog_4_method_34_code 20 = .ok (.if_icmp .ge 43, 3) := by decide +kernel
theorem d3_23 : decode prog_4_method_34_code 23 = .ok (.iconst 0, 1) := by decide +kernel
theorem d3_24 : decode prog_4_method_34_code 24 = .ok (.istore_n 3, 1) := by decide +kernel
theorem d3_57 : decode prog_4_method_34_code 57 = .ok (.iinc 2 1, 3) := by decide +kernel
theorem d3_60 : decode prog_4_method_34_code 60 = .ok (.goto (-45), 3) := by decide +kernel
theorem d3_63 : decode prog_4_method_34_code 63 = .ok (.aload_n 1, 1) := by decide +kernel
theorem d3_64 : decode prog_4_method_34_code 64 = .ok (.areturn, 1) := by decide +kernel
def QtoA (Z : State) (a1 : Addr) (m1 : Nat) (n1 : Nat) (e1 : Addr) (kk : ClassId) (f1 : Nat → UInt64) (h0 : Heap) (n0 : Nat) (v : Option Value) (h : Heap) (L : List Loc) : Prop := ∃ (b : Addr) (kA : ClassId) (kr : ClassId), v = some (.ref b) ∧ Fr n0 L ∧ Keep h0 h [] ∧ (h0.size ≤ b) ∧ (Arv Z h b kA (.array .double) (Int32.ofNat m1) (own_rows b m1) .null) ∧ (∀ i', i' < m1 → Arv Z h (b + 1 + i') kr .double (Int32.ofNat n1) (own_dv (fun j => f1 (i' + j * m1)) n1) (.double 0))
set_option maxRecDepth 65536 in
set_option maxHeartbeats 40000000 in
theorem rmtoA (l : Launch) (Z : State) (a0 : Array Value) (hw : ∀ d ∈ tables_1, d.before a0 Z = true) (ws : List Jvm.Cond) (a1 : Addr) (m1 : Nat) (n1 : Nat) (e1 : Addr) (kk : ClassId) (f1 : Nat → UInt64) (h0 : Heap) (n0 : Nat) (Z0 : n0 ≤ h0.size) (P_E_a1 : Exa Z h0 a1 "com/example/orthoform/kernel/DenseMatrix") (P_F_a1_rows : Fld Z h0 a1 "com/example/orthoform/kernel/DenseMatrix" "rows" "I" (.int (Int32.ofNat m1))) (P_F_a1_columns : Fld Z h0 a1 "com/example/orthoform/kernel/DenseMatrix" "columns" "I" (.int (Int32.ofNat n1))) (P_F_a1_entries : Fld Z h0 a1 "com/example/orthoform/kernel/DenseMatrix" "entries" "[D" (.ref e1)) (P_V_e1 : Arv Z h0 e1 kk .double (Int32.ofNat (m1 * n1)) (own_dv f1 (m1 * n1)) (.double (0 : UInt64))) (hm : m1 ≤ 3) (hn : n1 ≤ 3) :
    MetFree l (⟨"com/example/orthoform/kernel/DenseMatrix", "toArray", "()[[D"⟩ : MethodName) (head1 (Jvm.Cond.code (⟨"com/example/orthoform/kernel/DenseMatrix", "toArray", "()[[D"⟩ : MethodName) prog_4_method_34_code 4 (some (.array (.array .double))) :: ws) ({ frames := 0, cells := 4, slots := 12, locals := 0 } : Room)) (fun a U => a = #[(.ref a1)] ∧ Z.Warmed39 U.vm ∧ U.heap = h0) (fun _ _ _ _ _ => True) (fun _ U o U' => ∃ v L, o = .returned v ∧ QtoA Z a1 m1 n1 e1 kk f1 h0 n0 v U'.heap L ∧ FrameEnd U o U' L ({ frames := 0, cells := 4, slots := 12, locals := 0 } : Room).cells ({ frames := 0, cells := 4, slots := 12, locals := 0 } : Room).slots) := by
  refine MetFree.of_bodySF (plainFor_of_name pn_com_example_orthoform_kernel_DenseMatrix) hisR ?_
  intro p e s m args below meth c s₁ Bd hml0 hP hK
  obtain ⟨rfl, hZ, hh⟩ := hP
  have hx := Bd.exec
  have hby := Bd.bytes
  have hml : c.maxLocals = 4 := hml0
  have hown : s.vm.findClass "com/example/orthoform/kernel/DenseMatrix" = some m.cls := findClass_of_methodNamed Bd.named
  have hnm := (name_of_methodNamed Bd.named Bd.method).1
  have X0 : Stand p l e ({ frames := 0, cells := 4, slots := 12, locals := 0 } : Room) s m #[(.ref a1)] below meth c s₁ [] 0 0 := Stand.of_body Bd
  have e0 : s₁.heap = h0 := by rw [← hh, Bd.state]; rfl
  have N0 := Fr.nil n0
  have pre0 : ∀ t_, Steps p.tables e below (s₁.setTop (mkF m 0 #[.val (.ref a1), .unset, .unset, .unset] [])) t_ → Steps p.tables e below (s₁.setTop (entryFrame m #[(.ref a1)] 4)) t_ := fun t_ k => castTop (ef_toA m a1) k
  have hmn := own_m9 hm hn
  obtain ⟨T101, X101, e101, st101⟩ := getF X0 hx hZ hown (host := "") (Or.inl (hw _ (List.mem_of_getElem? (i := 10) rfl))) Via.refl e0 P_F_a1_rows (g := (mkF m 1 #[.val (.ref a1), .unset, .unset, .unset] [(.ref a1)])) rfl rfl (hb hby d3_1)
  obtain ⟨T102, X102, e102, st102⟩ := getF X101 hx hZ hown (host := "") (Or.inl (hw _ (List.mem_of_getElem? (i := 12) rfl))) Via.refl e101 P_F_a1_columns (g := (mkF m 5 #[.val (.ref a1), .unset, .unset, .unset] [(.ref a1), (.int (Int32.ofNat m1))])) rfl rfl (hb hby d3_5)
  obtain ⟨T103, h103, k103, kI103, Xq103, e103, E103, Vq103, -, -, Rq103, st103⟩ := gridM X102 hx hZ (C := "[D") (ad := "[[D") (ty := .double) hown (by decide) (by decide) (hw _ (List.mem_of_getElem? (i := 22) rfl)) (hw _ (List.mem_of_getElem? (i := 23) rfl)) (hw _ (List.mem_of_getElem? (i := 14) rfl)) e102 (g := (mkF m 8 #[.val (.ref a1), .unset, .unset, .unset] [(.int (Int32.ofNat n1)), (.int (Int32.ofNat m1))])) rfl (hb hby d3_8) rfl (OwnArr.nn32 (by omega)) (OwnArr.nn32 (by omega)) (xs := _) (N := m1) (OwnArr.n32 (by omega)) rfl (cap := 3) (by rw [OwnArr.n32 (by omega)]; omega) (by decide) (by omega) rfl rfl (Nat.le_trans (by omega : 0 + (1 + m1) ≤ 4) (by decide)) (Nat.le_trans (by omega : 0 + (m1 + m1 * 3) ≤ 12) (by decide))
  have X103 := Xq103.more (by omega : 0 + (1 + m1) ≤ 4) (by omega : 0 + (m1 + m1 * 3) ≤ 12)
  obtain ⟨b103, g103⟩ : ∃ z, z = h0.size := ⟨_, rfl⟩
  rw [← g103] at Vq103 Rq103 st103
  have ne104 : a1 ≠ b103 := Nat.ne_of_lt (Nat.lt_of_lt_of_le P_E_a1.lt (Nat.le_of_eq g103.symm))
  have ne105 : e1 ≠ b103 := Nat.ne_of_lt (Nat.lt_of_lt_of_le P_V_e1.lt (Nat.le_of_eq g103.symm))
  have g_b103 : n0 ≤ b103 := Nat.le_trans Z0 (Nat.le_of_eq g103.symm)
  have sz_b103 : h0.size ≤ b103 := Nat.le_trans (Keep.refl h0 []).1 (Nat.le_of_eq g103.symm)
  have z106 : n0 ≤ h103.size := Nat.le_trans Z0 E103.1
  have k107 : Keep h0 h103 [] := (Keep.refl h0 []).ext E103
  have V103 : Arv Z h103 b103 k103 (.array .double) (Int32.ofNat m1) (own_rows b103 m1) .null := own_rows_eq b103 m1 ▸ Vq103
  have Rr103 : ∀ i, i < m1 → Arr Z h103 (b103 + 1 + i) (newA kI103 .double (Int32.ofNat n1)) .double := fun i hi => (Rq103 i _ (by simp [hi])).1
  have ne108 : a1 ≠ (b103 + 1 + 0) := Nat.ne_of_lt (Nat.lt_of_lt_of_le P_E_a1.lt (by omega : h0.size ≤ (b103 + 1 + 0)))
  have ne109 : e1 ≠ (b103 + 1 + 0) := Nat.ne_of_lt (Nat.lt_of_lt_of_le P_V_e1.lt (by omega : h0.size ≤ (b103 + 1 + 0)))
  have ne110 : a1 ≠ (b103 + 1 + 1) := Nat.ne_of_lt (Nat.lt_of_lt_of_le P_E_a1.lt (by omega : h0.size ≤ (b103 + 1 + 1)))
  have ne111 : e1 ≠ (b103 + 1 + 1) := Nat.ne_of_lt (Nat.lt_of_lt_of_le P_V_e1.lt (by omega : h0.size ≤ (b103 + 1 + 1)))
  have ne112 : a1 ≠ (b103 + 1 + 2) := Nat.ne_of_lt (Nat.lt_of_lt_of_le P_E_a1.lt (by omega : h0.size ≤ (b103 + 1 + 2)))
  have ne113 : e1 ≠ (b103 + 1 + 2) := Nat.ne_of_lt (Nat.lt_of_lt_of_le P_V_e1.lt (by omega : h0.size ≤ (b103 + 1 + 2)))
  have pre114 : ∀ t_, Steps p.tables e below (T103.setTop (mkF m 15 #[.val (.ref a1), .val (.ref b103), .val (.int (0 : Int32)), .unset] [])) t_ → Steps p.tables e below (s₁.setTop (entryFrame m #[(.ref a1)] 4)) t_ := fun t_ kt => pre0 t_ (by
      show Steps p.tables e below (s₁.setTop (mkF m 0 #[.val (.ref a1), .unset, .unset, .unset] [])) _
      refine XS.aloadN X0.here hx rfl (hb hby d3_0) rfl rfl ?_
      show Steps p.tables e below (s₁.setTop (mkF m 1 #[.val (.ref a1), .unset, .unset, .unset] [(.ref a1)])) _
      refine st101 _ ?_
      show Steps p.tables e below (T101.setTop (mkF m 4 #[.val (.ref a1), .unset, .unset, .unset] [(.int (Int32.ofNat m1))])) _
      refine XS.aloadN X101.here hx rfl (hb hby d3_4) rfl rfl ?_
      show Steps p.tables e below (T101.setTop (mkF m 5 #[.val (.ref a1), .unset, .unset, .unset] [(.ref a1), (.int (Int32.ofNat m1))])) _
      refine st102 _ ?_
      show Steps p.tables e below (T102.setTop (mkF m 8 #[.val (.ref a1), .unset, .unset, .unset] [(.int (Int32.ofNat n1)), (.int (Int32.ofNat m1))])) _
      refine st103 _ ?_
      show Steps p.tables e below (T103.setTop (mkF m 12 #[.val (.ref a1), .unset, .unset, .unset] [(.ref b103)])) _
      refine XS.astoreN X103.here hx rfl (hb hby d3_12) rfl rfl (l' := #[.val (.ref a1), .val (.ref b103), .unset, .unset]) rfl ?_
      show Steps p.tables e below (T103.setTop (mkF m 13 #[.val (.ref a1), .val (.ref b103), .unset, .unset] [])) _
      refine XS.iconst X103.here hx rfl (hb hby d3_13) ?_
      show Steps p.tables e below (T103.setTop (mkF m 14 #[.val (.ref a1), .val (.ref b103), .unset, .unset] [(.int (0 : Int32))])) _
      refine XS.istoreN X103.here hx rfl (hb hby d3_14) rfl (l' := #[.val (.ref a1), .val (.ref b103), .val (.int (0 : Int32)), .unset]) rfl ?_
      exact kt)
  by_cases hc0 : 0 < m1
  · skip
    have f115 : Fld Z h103 a1 "com/example/orthoform/kernel/DenseMatrix" "rows" "I" (.int (Int32.ofNat m1)) := (P_F_a1_rows.ext E103)
    obtain ⟨T116, X116, e116, st116⟩ := getF X103 hx hZ hown (host := "") (Or.inl (hw _ (List.mem_of_getElem? (i := 10) rfl))) Via.refl e103 f115 (g := (mkF m 17 #[.val (.ref a1), .val (.ref b103), .val (.int (0 : Int32)), .unset] [(.ref a1), (.int (0 : Int32))])) rfl rfl (hb hby d3_17)
    have row0 : Arv Z h103 (b103 + 1 + 0) kI103 .double (Int32.ofNat n1) (own_dv (own_cur f1 m1 0 0) n1) (.double (0 : UInt64)) := (Arv.new (Rr103 0 hc0) (nn32 (by omega))).pad (own_padc f1 m1 0 n1)
    have f117 : Fld Z h103 a1 "com/example/orthoform/kernel/DenseMatrix" "columns" "I" (.int (Int32.ofNat n1)) := (P_F_a1_columns.ext E103)
    have f118 : Fld Z h103 a1 "com/example/orthoform/kernel/DenseMatrix" "entries" "[D" (.ref e1) := (P_F_a1_entries.ext E103)
    have f119 : Arv Z h103 e1 kk .double (Int32.ofNat (m1 * n1)) (own_dv f1 (m1 * n1)) (.double (0 : UInt64)) := (P_V_e1.ext E103)
    obtain ⟨T120, h120, L120, X120, e120, N120, K120, x120_0, st120⟩ := own_linP (a1) (b103) (e1) (kk) (k103) (kI103) (m1) (n1) (f1) (0) X116 hx hZ hw hby hml hown e116 N0 z106 (by decide) (by decide) (by decide) (by decide) f115 f117 f118 f119 V103 row0 ne108 ne109 (by omega : b103 ≠ (b103 + 1 + 0)) (Nat.le_trans g_b103 (by omega : b103 ≤ (b103 + 1 + 0))) (hm) (hn) (hc0) (Nat.zero_le _)
    have z121 : n0 ≤ h120.size := Nat.le_trans z106 K120.1
    have k122 : Keep h0 h120 [] := k107.trans K120 (own_wmc (Or.inr (Nat.le_trans sz_b103 (by omega : b103 ≤ (b103 + 1 + 0)))) own_wm0)
    have f123 : Fld Z h120 a1 "com/example/orthoform/kernel/DenseMatrix" "columns" "I" (.int (Int32.ofNat n1)) := (f117.keep K120 (own_nmc ne108 own_nm0))
    obtain ⟨T124, X124, e124, st124⟩ := getF X120 hx hZ hown (host := "") (Or.inl (hw _ (List.mem_of_getElem? (i := 12) rfl))) Via.refl e120 f123 (g := (mkF m 27 #[.val (.ref a1), .val (.ref b103), .val (.int (Int32.ofNat 0)), .val (.int (Int32.ofNat n1))] [(.ref a1), (.int (Int32.ofNat n1))])) rfl rfl (hb hby d3_27)
    have pre125 : ∀ t_, Steps p.tables e below (T124.setTop (mkF m 15 #[.val (.ref a1), .val (.ref b103), .val (.int (Int32.ofNat 1)), .val (.int (Int32.ofNat n1))] [])) t_ → Steps p.tables e below (s₁.setTop (entryFrame m #[(.ref a1)] 4)) t_ := fun t_ kt => pre114 t_ (by
        show Steps p.tables e below (T103.setTop (mkF m 15 #[.val (.ref a1), .val (.ref b103), .val (.int (0 : Int32)), .unset] [])) _
        refine XS.iloadN X103.here hx rfl (hb hby d3_15) rfl ?_
        show Steps p.tables e below (T103.setTop (mkF m 16 #[.val (.ref a1), .val (.ref b103), .val (.int (0 : Int32)), .unset] [(.int (0 : Int32))])) _
        refine XS.aloadN X103.here hx rfl (hb hby d3_16) rfl rfl ?_
        show Steps p.tables e below (T103.setTop (mkF m 17 #[.val (.ref a1), .val (.ref b103), .val (.int (0 : Int32)), .unset] [(.ref a1), (.int (0 : Int32))])) _
        refine st116 _ ?_
        show Steps p.tables e below (T116.setTop (mkF m 20 #[.val (.ref a1), .val (.ref b103), .val (.int (0 : Int32)), .unset] [(.int (Int32.ofNat m1)), (.int (0 : Int32))])) _
        refine XS.icmpNo X116.here hx rfl (hb hby d3_20) rfl (tlt (lt32 (i := 0) hc0 (by omega) : (0 : Int32) < (Int32.ofNat m1))).2.1 ?_
        show Steps p.tables e below (T116.setTop (mkF m 23 #[.val (.ref a1), .val (.ref b103), .val (.int (0 : Int32)), .unset] [])) _
        refine XS.iconst X116.here hx rfl (hb hby d3_23) ?_
        show Steps p.tables e below (T116.setTop (mkF m 24 #[.val (.ref a1), .val (.ref b103), .val (.int (0 : Int32)), .unset] [(.int (0 : Int32))])) _
        refine XS.istoreN X116.here hx rfl (hb hby d3_24) rfl (l' := #[.val (.ref a1), .val (.ref b103), .val (.int (0 : Int32)), .val (.int (0 : Int32))]) rfl ?_
        show Steps p.tables e below (T116.setTop (mkF m 25 #[.val (.ref a1), .val (.ref b103), .val (.int (0 : Int32)), .val (.int (0 : Int32))] [])) _
        refine st120 _ ?_
        show Steps p.tables e below (T120.setTop (mkF m 25 #[.val (.ref a1), .val (.ref b103), .val (.int (Int32.ofNat 0)), .val (.int (Int32.ofNat n1))] [])) _
        refine XS.iloadN X120.here hx rfl (hb hby d3_25) rfl ?_
        show Steps p.tables e below (T120.setTop (mkF m 26 #[.val (.ref a1), .val (.ref b103), .val (.int (Int32.ofNat 0)), .val (.int (Int32.ofNat n1))] [(.int (Int32.ofNat n1))])) _
        refine XS.aloadN X120.here hx rfl (hb hby d3_26) rfl rfl ?_
        show Steps p.tables e below (T120.setTop (mkF m 27 #[.val (.ref a1), .val (.ref b103), .val (.int (Int32.ofNat 0)), .val (.int (Int32.ofNat n1))] [(.ref a1), (.int (Int32.ofNat n1))])) _
        refine st124 _ ?_
        show Steps p.tables e below (T124.setTop (mkF m 30 #[.val (.ref a1), .val (.ref b103), .val (.int (Int32.ofNat 0)), .val (.int (Int32.ofNat n1))] [(.int (Int32.ofNat n1)), (.int (Int32.ofNat n1))])) _
        refine XS.icmpYes X124.here hx rfl (pc0 := 30) (pc' := 57) rfl (hb hby d3_30) rfl (flt (nlt32 (Nat.le_refl _) (by omega) : ¬ ((Int32.ofNat n1) < (Int32.ofNat n1)))).2.1 (by decide) (by decide) ?_
        show Steps p.tables e below (T124.setTop (mkF m 57 #[.val (.ref a1), .val (.ref b103), .val (.int (Int32.ofNat 0)), .val (.int (Int32.ofNat n1))] [])) _
        refine XS.iinc X124.here hx rfl (hb hby d3_57) rfl (l' := #[.val (.ref a1), .val (.ref b103), .val (.int ((Int32.ofNat 0) + (1 : Int32))), .val (.int (Int32.ofNat n1))]) rfl ?_
        show Steps p.tables e below (T124.setTop (mkF m 60 #[.val (.ref a1), .val (.ref b103), .val (.int ((Int32.ofNat 0) + (1 : Int32))), .val (.int (Int32.ofNat n1))] [])) _
        rw [one32 0]
        show Steps p.tables e below (T124.setTop (mkF m 60 #[.val (.ref a1), .val (.ref b103), .val (.int (Int32.ofNat 1)), .val (.int (Int32.ofNat n1))] [])) _
        refine XS.goto X124.here hx rfl (pc0 := 60) (pc' := 15) rfl (hb hby d3_60) (by decide) (by decide) ?_
        exact kt)
    by_cases hc1 : 1 < m1
    · skip
      have f126 : Fld Z h120 a1 "com/example/orthoform/kernel/DenseMatrix" "rows" "I" (.int (Int32.ofNat m1)) := (f115.keep K120 (own_nmc ne108 own_nm0))
      obtain ⟨T127, X127, e127, st127⟩ := getF X124 hx hZ hown (host := "") (Or.inl (hw _ (List.mem_of_getElem? (i := 10) rfl))) Via.refl e124 f126 (g := (mkF m 17 #[.val (.ref a1), .val (.ref b103), .val (.int (Int32.ofNat 1)), .val (.int (Int32.ofNat n1))] [(.ref a1), (.int (Int32.ofNat 1))])) rfl rfl (hb hby d3_17)
      have row1 : Arv Z h103 (b103 + 1 + 1) kI103 .double (Int32.ofNat n1) (own_dv (own_cur f1 m1 1 0) n1) (.double (0 : UInt64)) := (Arv.new (Rr103 1 hc1) (nn32 (by omega))).pad (own_padc f1 m1 1 n1)
      have f128 : Fld Z h120 a1 "com/example/orthoform/kernel/DenseMatrix" "entries" "[D" (.ref e1) := (f118.keep K120 (own_nmc ne108 own_nm0))
      have f129 : Arv Z h120 e1 kk .double (Int32.ofNat (m1 * n1)) (own_dv f1 (m1 * n1)) (.double (0 : UInt64)) := (f119.keep K120 (own_nmc ne109 own_nm0))
      have f130 : Arv Z h120 b103 k103 (.array .double) (Int32.ofNat m1) (own_rows b103 m1) .null := (V103.keep K120 (own_nmc (by omega : b103 ≠ (b103 + 1 + 0)) own_nm0))
      have f131 : Arv Z h120 (b103 + 1 + 1) kI103 .double (Int32.ofNat n1) (own_dv (own_cur f1 m1 1 0) n1) (.double (0 : UInt64)) := (row1.keep K120 (own_nmc (Ne.symm (by omega : (b103 + 1 + 0) ≠ (b103 + 1 + 1))) own_nm0))
      obtain ⟨T132, h132, L132, X132, e132, N132, K132, x132_0, st132⟩ := own_linP (a1) (b103) (e1) (kk) (k103) (kI103) (m1) (n1) (f1) (1) X127 hx hZ hw hby hml hown e127 N120 z121 (by decide) (by decide) (by decide) (by decide) f126 f123 f128 f129 f130 f131 ne110 ne111 (by omega : b103 ≠ (b103 + 1 + 1)) (Nat.le_trans g_b103 (by omega : b103 ≤ (b103 + 1 + 1))) (hm) (hn) (hc1) (Nat.zero_le _)
      have z133 : n0 ≤ h132.size := Nat.le_trans z121 K132.1
      have k134 : Keep h0 h132 [] := k122.trans K132 (own_wmc (Or.inr (Nat.le_trans sz_b103 (by omega : b103 ≤ (b103 + 1 + 1)))) own_wm0)
      have f135 : Fld Z h132 a1 "com/example/orthoform/kernel/DenseMatrix" "columns" "I" (.int (Int32.ofNat n1)) := (f123.keep K132 (own_nmc ne110 own_nm0))
      obtain ⟨T136, X136, e136, st136⟩ := getF X132 hx hZ hown (host := "") (Or.inl (hw _ (List.mem_of_getElem? (i := 12) rfl))) Via.refl e132 f135 (g := (mkF m 27 #[.val (.ref a1), .val (.ref b103), .val (.int (Int32.ofNat 1)), .val (.int (Int32.ofNat n1))] [(.ref a1), (.int (Int32.ofNat n1))])) rfl rfl (hb hby d3_27)
      have pre137 : ∀ t_, Steps p.tables e below (T136.setTop (mkF m 15 #[.val (.ref a1), .val (.ref b103), .val (.int (Int32.ofNat 2)), .val (.int (Int32.ofNat n1))] [])) t_ → Steps p.tables e below (s₁.setTop (entryFrame m #[(.ref a1)] 4)) t_ := fun t_ kt => pre125 t_ (by
          show Steps p.tables e below (T124.setTop (mkF m 15 #[.val (.ref a1), .val (.ref b103), .val (.int (Int32.ofNat 1)), .val (.int (Int32.ofNat n1))] [])) _
          refine XS.iloadN X124.here hx rfl (hb hby d3_15) rfl ?_
          show Steps p.tables e below (T124.setTop (mkF m 16 #[.val (.ref a1), .val (.ref b103), .val (.int (Int32.ofNat 1)), .val (.int (Int32.ofNat n1))] [(.int (Int32.ofNat 1))])) _
          refine XS.aloadN X124.here hx rfl (hb hby d3_16) rfl rfl ?_
          show Steps p.tables e below (T124.setTop (mkF m 17 #[.val (.ref a1), .val (.ref b103), .val (.int (Int32.ofNat 1)), .val (.int (Int32.ofNat n1))] [(.ref a1), (.int (Int32.ofNat 1))])) _
          refine st127 _ ?_
          show Steps p.tables e below (T127.setTop (mkF m 20 #[.val (.ref a1), .val (.ref b103), .val (.int (Int32.ofNat 1)), .val (.int (Int32.ofNat n1))] [(.int (Int32.ofNat m1)), (.int (Int32.ofNat 1))])) _
          refine XS.icmpNo X127.here hx rfl (hb hby d3_20) rfl (tlt (lt32 (i := 1) hc1 (by omega) : (Int32.ofNat 1) < (Int32.ofNat m1))).2.1 ?_
          show Steps p.tables e below (T127.setTop (mkF m 23 #[.val (.ref a1), .val (.ref b103), .val (.int (Int32.ofNat 1)), .val (.int (Int32.ofNat n1))] [])) _
          refine XS.iconst X127.here hx rfl (hb hby d3_23) ?_
          show Steps p.tables e below (T127.setTop (mkF m 24 #[.val (.ref a1), .val (.ref b103), .val (.int (Int32.ofNat 1)), .val (.int (Int32.ofNat n1))] [(.int (0 : Int32))])) _
          refine XS.istoreN X127.here hx rfl (hb hby d3_24) rfl (l' := #[.val (.ref a1), .val (.ref b103), .val (.int (Int32.ofNat 1)), .val (.int (0 : Int32))]) rfl ?_
          show Steps p.tables e below (T127.setTop (mkF m 25 #[.val (.ref a1), .val (.ref b103), .val (.int (Int32.ofNat 1)), .val (.int (0 : Int32))] [])) _
          refine st132 _ ?_
          show Steps p.tables e below (T132.setTop (mkF m 25 #[.val (.ref a1), .val (.ref b103), .val (.int (Int32.ofNat 1)), .val (.int (Int32.ofNat n1))] [])) _
          refine XS.iloadN X132.here hx rfl (hb hby d3_25) rfl ?_
          show Steps p.tables e below (T132.setTop (mkF m 26 #[.val (.ref a1), .val (.ref b103), .val (.int (Int32.ofNat 1)), .val (.int (Int32.ofNat n1))] [(.int (Int32.ofNat n1))])) _
          refine XS.aloadN X132.here hx rfl (hb hby d3_26) rfl rfl ?_
          show Steps p.tables e below (T132.setTop (mkF m 27 #[.val (.ref a1), .val (.ref b103), .val (.int (Int32.ofNat 1)), .val (.int (Int32.ofNat n1))] [(.ref a1), (.int (Int32.ofNat n1))])) _
          refine st136 _ ?_
          show Steps p.tables e below (T136.setTop (mkF m 30 #[.val (.ref a1), .val (.ref b103), .val (.int (Int32.ofNat 1)), .val (.int (Int32.ofNat n1))] [(.int (Int32.ofNat n1)), (.int (Int32.ofNat n1))])) _
          refine XS.icmpYes X136.here hx rfl (pc0 := 30) (pc' := 57) rfl (hb hby d3_30) rfl (flt (nlt32 (Nat.le_refl _) (by omega) : ¬ ((Int32.ofNat n1) < (Int32.ofNat n1)))).2.1 (by decide) (by decide) ?_
          show Steps p.tables e below (T136.setTop (mkF m 57 #[.val (.ref a1), .val (.ref b103), .val (.int (Int32.ofNat 1)), .val (.int (Int32.ofNat n1))] [])) _
          refine XS.iinc X136.here hx rfl (hb hby d3_57) rfl (l' := #[.val (.ref a1), .val (.ref b103), .val (.int ((Int32.ofNat 1) + (1 : Int32))), .val (.int (Int32.ofNat n1))]) rfl ?_
          show Steps p.tables e below (T136.setTop (mkF m 60 #[.val (.ref a1), .val (.ref b103), .val (.int ((Int32.ofNat 1) + (1 : Int32))), .val (.int (Int32.ofNat n1))] [])) _
          rw [one32 1]
          show Steps p.tables e below (T136.setTop (mkF m 60 #[.val (.ref a1), .val (.ref b103), .val (.int (Int32.ofNat 2)), .val (.int (Int32.ofNat n1))] [])) _
          refine XS.goto X136.here hx rfl (pc0 := 60) (pc' := 15) rfl (hb hby d3_60) (by decide) (by decide) ?_
          exact kt)
      by_cases hc2 : 2 < m1
      · skip
        have f138 : Fld Z h132 a1 "com/example/orthoform/kernel/DenseMatrix" "rows" "I" (.int (Int32.ofNat m1)) := (f126.keep K132 (own_nmc ne110 own_nm0))
        obtain ⟨T139, X139, e139, st139⟩ := getF X136 hx hZ hown (host := "") (Or.inl (hw _ (List.mem_of_getElem? (i := 10) rfl))) Via.refl e136 f138 (g := (mkF m 17 #[.val (.ref a1), .val (.ref b103), .val (.int (Int32.ofNat 2)), .val (.int (Int32.ofNat n1))] [(.ref a1), (.int (Int32.ofNat 2))])) rfl rfl (hb hby d3_17)
        have row2 : Arv Z h103 (b103 + 1 + 2) kI103 .double (Int32.ofNat n1) (own_dv (own_cur f1 m1 2 0) n1) (.double (0 : UInt64)) := (Arv.new (Rr103 2 hc2) (nn32 (by omega))).pad (own_padc f1 m1 2 n1)
        have f140 : Fld Z h132 a1 "com/example/orthoform/kernel/DenseMatrix" "entries" "[D" (.ref e1) := (f128.keep K132 (own_nmc ne110 own_nm0))
        have f141 : Arv Z h132 e1 kk .double (Int32.ofNat (m1 * n1)) (own_dv f1 (m1 * n1)) (.double (0 : UInt64)) := (f129.keep K132 (own_nmc ne111 own_nm0))
        have f142 : Arv Z h132 b103 k103 (.array .double) (Int32.ofNat m1) (own_rows b103 m1) .null := (f130.keep K132 (own_nmc (by omega : b103 ≠ (b103 + 1 + 1)) own_nm0))
        have f143 : Arv Z h132 (b103 + 1 + 2) kI103 .double (Int32.ofNat n1) (own_dv (own_cur f1 m1 2 0) n1) (.double (0 : UInt64)) := ((row2.keep K120 (own_nmc (Ne.symm (by omega : (b103 + 1 + 0) ≠ (b103 + 1 + 2))) own_nm0)).keep K132 (own_nmc (Ne.symm (by omega : (b103 + 1 + 1) ≠ (b103 + 1 + 2))) own_nm0))
        obtain ⟨T144, h144, L144, X144, e144, N144, K144, x144_0, st144⟩ := own_linP (a1) (b103) (e1) (kk) (k103) (kI103) (m1) (n1) (f1) (2) X139 hx hZ hw hby hml hown e139 N132 z133 (by decide) (by decide) (by decide) (by decide) f138 f135 f140 f141 f142 f143 ne112 ne113 (by omega : b103 ≠ (b103 + 1 + 2)) (Nat.le_trans g_b103 (by omega : b103 ≤ (b103 + 1 + 2))) (hm) (hn) (hc2) (Nat.zero_le _)
        have z145 : n0 ≤ h144.size := Nat.le_trans z133 K144.1
        have k146 : Keep h0 h144 [] := k134.trans K144 (own_wmc (Or.inr (Nat.le_trans sz_b103 (by omega : b103 ≤ (b103 + 1 + 2)))) own_wm0)
        have f147 : Fld Z h144 a1 "com/example/orthoform/kernel/DenseMatrix" "columns" "I" (.int (Int32.ofNat n1)) := (f135.keep K144 (own_nmc ne112 own_nm0))
        obtain ⟨T148, X148, e148, st148⟩ := getF X144 hx hZ hown (host := "") (Or.inl (hw _ (List.mem_of_getElem? (i := 12) rfl))) Via.refl e144 f147 (g := (mkF m 27 #[.val (.ref a1), .val (.ref b103), .val (.int (Int32.ofNat 2)), .val (.int (Int32.ofNat n1))] [(.ref a1), (.int (Int32.ofNat n1))])) rfl rfl (hb hby d3_27)
        have f149 : Fld Z h144 a1 "com/example/orthoform/kernel/DenseMatrix" "rows" "I" (.int (Int32.ofNat m1)) := (f138.keep K144 (own_nmc ne112 own_nm0))
        obtain ⟨T150, X150, e150, st150⟩ := getF X148 hx hZ hown (host := "") (Or.inl (hw _ (List.mem_of_getElem? (i := 10) rfl))) Via.refl e148 f149 (g := (mkF m 17 #[.val (.ref a1), .val (.ref b103), .val (.int (Int32.ofNat 3)), .val (.int (Int32.ofNat n1))] [(.ref a1), (.int (Int32.ofNat 3))])) rfl rfl (hb hby d3_17)
        have f151 : Arv Z h144 (b103 + 1 + 0) kI103 .double (Int32.ofNat n1) (own_dv (own_cur f1 m1 0 n1) n1) (.double (0 : UInt64)) := ((x120_0.keep K132 (own_nmc (by omega : (b103 + 1 + 0) ≠ (b103 + 1 + 1)) own_nm0)).keep K144 (own_nmc (by omega : (b103 + 1 + 0) ≠ (b103 + 1 + 2)) own_nm0))
        have f152 : Arv Z h144 (b103 + 1 + 1) kI103 .double (Int32.ofNat n1) (own_dv (own_cur f1 m1 1 n1) n1) (.double (0 : UInt64)) := (x132_0.keep K144 (own_nmc (by omega : (b103 + 1 + 1) ≠ (b103 + 1 + 2)) own_nm0))
        have pre153 : ∀ t_, Steps p.tables e below (T150.setTop (mkF m 64 #[.val (.ref a1), .val (.ref b103), .val (.int (Int32.ofNat 3)), .val (.int (Int32.ofNat n1))] [(.ref b103)])) t_ → Steps p.tables e below (s₁.setTop (entryFrame m #[(.ref a1)] 4)) t_ := fun t_ kt => pre137 t_ (by
            show Steps p.tables e below (T136.setTop (mkF m 15 #[.val (.ref a1), .val (.ref b103), .val (.int (Int32.ofNat 2)), .val (.int (Int32.ofNat n1))] [])) _
            refine XS.iloadN X136.here hx rfl (hb hby d3_15) rfl ?_
            show Steps p.tables e below (T136.setTop (mkF m 16 #[.val (.ref a1), .val (.ref b103), .val (.int (Int32.ofNat 2)), .val (.int (Int32.ofNat n1))] [(.int (Int32.ofNat 2))])) _
            refine XS.aloadN X136.here hx rfl (hb hby d3_16) rfl rfl ?_
            show Steps p.tables e below (T136.setTop (mkF m 17 #[.val (.ref a1), .val (.ref b103), .val (.int (Int32.ofNat 2)), .val (.int (Int32.ofNat n1))] [(.ref a1), (.int (Int32.ofNat 2))])) _
            refine st139 _ ?_
            show Steps p.tables e below (T139.setTop (mkF m 20 #[.val (.ref a1), .val (.ref b103), .val (.int (Int32.ofNat 2)), .val (.int (Int32.ofNat n1))] [(.int (Int32.ofNat m1)), (.int (Int32.ofNat 2))])) _
            refine XS.icmpNo X139.here hx rfl (hb hby d3_20) rfl (tlt (lt32 (i := 2) hc2 (by omega) : (Int32.ofNat 2) < (Int32.ofNat m1))).2.1 ?_
            show Steps p.tables e below (T139.setTop (mkF m 23 #[.val (.ref a1), .val (.ref b103), .val (.int (Int32.ofNat 2)), .val (.int (Int32.ofNat n1))] [])) _
            refine XS.iconst X139.here hx rfl (hb hby d3_23) ?_
            show Steps p.tables e below (T139.setTop (mkF m 24 #[.val (.ref a1), .val (.ref b103), .val (.int (Int32.ofNat 2)), .val (.int (Int32.ofNat n1))] [(.int (0 : Int32))])) _
            refine XS.istoreN X139.here hx rfl (hb hby d3_24) rfl (l' := #[.val (.ref a1), .val (.ref b103), .val (.int (Int32.ofNat 2)), .val (.int (0 : Int32))]) rfl ?_
            show Steps p.tables e below (T139.setTop (mkF m 25 #[.val (.ref a1), .val (.ref b103), .val (.int (Int32.ofNat 2)), .val (.int (0 : Int32))] [])) _
            refine st144 _ ?_
            show Steps p.tables e below (T144.setTop (mkF m 25 #[.val (.ref a1), .val (.ref b103), .val (.int (Int32.ofNat 2)), .val (.int (Int32.ofNat n1))] [])) _
            refine XS.iloadN X144.here hx rfl (hb hby d3_25) rfl ?_
            show Steps p.tables e below (T144.setTop (mkF m 26 #[.val (.ref a1), .val (.ref b103), .val (.int (Int32.ofNat 2)), .val (.int (Int32.ofNat n1))] [(.int (Int32.ofNat n1))])) _
            refine XS.aloadN X144.here hx rfl (hb hby d3_26) rfl rfl ?_
            show Steps p.tables e below (T144.setTop (mkF m 27 #[.val (.ref a1), .val (.ref b103), .val (.int (Int32.ofNat 2)), .val (.int (Int32.ofNat n1))] [(.ref a1), (.int (Int32.ofNat n1))])) _
            refine st148 _ ?_
            show Steps p.tables e below (T148.setTop (mkF m 30 #[.val (.ref a1), .val (.ref b103), .val (.int (Int32.ofNat 2)), .val (.int (Int32.ofNat n1))] [(.int (Int32.ofNat n1)), (.int (Int32.ofNat n1))])) _
            refine XS.icmpYes X148.here hx rfl (pc0 := 30) (pc' := 57) rfl (hb hby d3_30) rfl (flt (nlt32 (Nat.le_refl _) (by omega) : ¬ ((Int32.ofNat n1) < (Int32.ofNat n1)))).2.1 (by decide) (by decide) ?_
            show Steps p.tables e below (T148.setTop (mkF m 57 #[.val (.ref a1), .val (.ref b103), .val (.int (Int32.ofNat 2)), .val (.int (Int32.ofNat n1))] [])) _
            refine XS.iinc X148.here hx rfl (hb hby d3_57) rfl (l' := #[.val (.ref a1), .val (.ref b103), .val (.int ((Int32.ofNat 2) + (1 : Int32))), .val (.int (Int32.ofNat n1))]) rfl ?_
            show Steps p.tables e below (T148.setTop (mkF m 60 #[.val (.ref a1), .val (.ref b103), .val (.int ((Int32.ofNat 2) + (1 : Int32))), .val (.int (Int32.ofNat n1))] [])) _
            rw [one32 2]
            show Steps p.tables e below (T148.setTop (mkF m 60 #[.val (.ref a1), .val (.ref b103), .val (.int (Int32.ofNat 3)), .val (.int (Int32.ofNat n1))] [])) _
            refine XS.goto X148.here hx rfl (pc0 := 60) (pc' := 15) rfl (hb hby d3_60) (by decide) (by decide) ?_
            show Steps p.tables e below (T148.setTop (mkF m 15 #[.val (.ref a1), .val (.ref b103), .val (.int (Int32.ofNat 3)), .val (.int (Int32.ofNat n1))] [])) _
            refine XS.iloadN X148.here hx rfl (hb hby d3_15) rfl ?_
            show Steps p.tables e below (T148.setTop (mkF m 16 #[.val (.ref a1), .val (.ref b103), .val (.int (Int32.ofNat 3)), .val (.int (Int32.ofNat n1))] [(.int (Int32.ofNat 3))])) _
            refine XS.aloadN X148.here hx rfl (hb hby d3_16) rfl rfl ?_
            show Steps p.tables e below (T148.setTop (mkF m 17 #[.val (.ref a1), .val (.ref b103), .val (.int (Int32.ofNat 3)), .val (.int (Int32.ofNat n1))] [(.ref a1), (.int (Int32.ofNat 3))])) _
            refine st150 _ ?_
            show Steps p.tables e below (T150.setTop (mkF m 20 #[.val (.ref a1), .val (.ref b103), .val (.int (Int32.ofNat 3)), .val (.int (Int32.ofNat n1))] [(.int (Int32.ofNat m1)), (.int (Int32.ofNat 3))])) _
            refine XS.icmpYes X150.here hx rfl (pc0 := 20) (pc' := 63) rfl (hb hby d3_20) rfl (flt (nlt32 (i := 3) (n := m1) (by omega) (by omega) : ¬ ((Int32.ofNat 3) < (Int32.ofNat m1)))).2.1 (by decide) (by decide) ?_
            show Steps p.tables e below (T150.setTop (mkF m 63 #[.val (.ref a1), .val (.ref b103), .val (.int (Int32.ofNat 3)), .val (.int (Int32.ofNat n1))] [])) _
            refine XS.aloadN X150.here hx rfl (hb hby d3_63) rfl rfl ?_
            exact kt)
        have f154 : Arv Z h144 b103 k103 (.array .double) (Int32.ofNat m1) (own_rows b103 m1) .null := (f142.keep K144 (own_nmc (by omega : b103 ≠ (b103 + 1 + 2)) own_nm0))
        obtain ⟨fs, hr, hrun, hended, hW, hsame⟩ := X150.leave (v := some (.ref b103)) (fun h => by rw [Bd.returns] at h; cases h)
        refine ⟨_, _, pre153 _ ?_, hrun, hended, _, _, rfl, ?_, ⟨_, rfl⟩, hW, hsame.mono (by decide) (by decide)⟩
        · show Steps p.tables e below (T150.setTop (mkF m 64 #[.val (.ref a1), .val (.ref b103), .val (.int (Int32.ofNat 3)), .val (.int (Int32.ofNat n1))] [(.ref b103)])) _
          exact own_retR X150 hx Bd.returns rfl (hb hby d3_64) hr
        · show QtoA Z a1 m1 n1 e1 kk f1 h0 n0 _ T150.heap _
          rw [e150]
          exact ⟨b103, k103, kI103, rfl, N144, k146, sz_b103, f154, fun i' hi' => match i', hi' with | 0, _ => own_cur_end f1 m1 0 n1 ▸ f151 | 1, _ => own_cur_end f1 m1 1 n1 ▸ f152 | 2, _ => own_cur_end f1 m1 2 n1 ▸ x144_0 | _ + 3, hi' => absurd hi' (by omega)⟩
      · skip
        have f155 : Fld Z h132 a1 "com/example/orthoform/kernel/DenseMatrix" "rows" "I" (.int (Int32.ofNat m1)) := (f126.keep K132 (own_nmc ne110 own_nm0))
        obtain ⟨T156, X156, e156, st156⟩ := getF X136 hx hZ hown (host := "") (Or.inl (hw _ (List.mem_of_getElem? (i := 10) rfl))) Via.refl e136 f155 (g := (mkF m 17 #[.val (.ref a1), .val (.ref b103), .val (.int (Int32.ofNat 2)), .val (.int (Int32.ofNat n1))] [(.ref a1), (.int (Int32.ofNat 2))])) rfl rfl (hb hby d3_17)
        have f157 : Arv Z h132 (b103 + 1 + 0) kI103 .double (Int32.ofNat n1) (own_dv (own_cur f1 m1 0 n1) n1) (.double (0 : UInt64)) := (x120_0.keep K132 (own_nmc (by omega : (b103 + 1 + 0) ≠ (b103 + 1 + 1)) own_nm0))
        have pre158 : ∀ t_, Steps p.tables e below (T156.setTop (mkF m 64 #[.val (.ref a1), .val (.ref b103), .val (.int (Int32.ofNat 2)), .val (.int (Int32.ofNat n1))] [(.ref b103)])) t_ → Steps p.tables e below (s₁.setTop (entryFrame m #[(.ref a1)] 4)) t_ := fun t_ kt => pre137 t_ (by
            show Steps p.tables e below (T136.setTop (mkF m 15 #[.val (.ref a1), .val (.ref b103), .val (.int (Int32.ofNat 2)), .val (.int (Int32.ofNat n1))] [])) _
            refine XS.iloadN X136.here hx rfl (hb hby d3_15) rfl ?_
            show Steps p.tables e below (T136.setTop (mkF m 16 #[.val (.ref a1), .val (.ref b103), .val (.int (Int32.ofNat 2)), .val (.int (Int32.ofNat n1))] [(.int (Int32.ofNat 2))])) _
            refine XS.aloadN X136.here hx rfl (hb hby d3_16) rfl rfl ?_
            show Steps p.tables e below (T136.setTop (mkF m 17 #[.val (.ref a1), .val (.ref b103), .val (.int (Int32.ofNat 2)), .val (.int (Int32.ofNat n1))] [(.ref a1), (.int (Int32.ofNat 2))])) _
            refine st156 _ ?_
            show Steps p.tables e below (T156.setTop (mkF m 20 #[.val (.ref a1), .val (.ref b103), .val (.int (Int32.ofNat 2)), .val (.int (Int32.ofNat n1))] [(.int (Int32.ofNat m1)), (.int (Int32.ofNat 2))])) _
            refine XS.icmpYes X156.here hx rfl (pc0 := 20) (pc' := 63) rfl (hb hby d3_20) rfl (flt (nlt32 (i := 2) (n := m1) (by omega) (by omega) : ¬ ((Int32.ofNat 2) < (Int32.ofNat m1)))).2.1 (by decide) (by decide) ?_
            show Steps p.tables e below (T156.setTop (mkF m 63 #[.val (.ref a1), .val (.ref b103), .val (.int (Int32.ofNat 2)), .val (.int (Int32.ofNat n1))] [])) _
            refine XS.aloadN X156.here hx rfl (hb hby d3_63) rfl rfl ?_
            exact kt)
        have f159 : Arv Z h132 b103 k103 (.array .double) (Int32.ofNat m1) (own_rows b103 m1) .null := (f130.keep K132 (own_nmc (by omega : b103 ≠ (b103 + 1 + 1)) own_nm0))
        obtain ⟨fs, hr, hrun, hended, hW, hsame⟩ := X156.leave (v := some (.ref b103)) (fun h => by rw [Bd.returns] at h; cases h)
        refine ⟨_, _, pre158 _ ?_, hrun, hended, _, _, rfl, ?_, ⟨_, rfl⟩, hW, hsame.mono (by decide) (by decide)⟩
        · show Steps p.tables e below (T156.setTop (mkF m 64 #[.val (.ref a1), .val (.ref b103), .val (.int (Int32.ofNat 2)), .val (.int (Int32.ofNat n1))] [(.ref b103)])) _
          exact own_retR X156 hx Bd.returns rfl (hb hby d3_64) hr
        · show QtoA Z a1 m1 n1 e1 kk f1 h0 n0 _ T156.heap _
          rw [e156]
          exact ⟨b103, k103, kI103, rfl, N132, k134, sz_b103, f159, fun i' hi' => match i', hi' with | 0, _ => own_cur_end f1 m1 0 n1 ▸ f157 | 1, _ => own_cur_end f1 m1 1 n1 ▸ x132_0 | _ + 2, hi' => absurd hi' (by omega)⟩
    · skip
      have f160 : Fld Z h120 a1 "com/example/orthoform/kernel/DenseMatrix" "rows" "I" (.int (Int32.ofNat m1)) := (f115.keep K120 (own_nmc ne108 own_nm0))
      obtain ⟨T161, X161, e161, st161⟩ := getF X124 hx hZ hown (host := "") (Or.inl (hw _ (List.mem_of_getElem? (i := 10) rfl))) Via.refl e124 f160 (g := (mkF m 17 #[.val (.ref a1), .val (.ref b103), .val (.int (Int32.ofNat 1)), .val (.int (Int32.ofNat n1))] [(.ref a1), (.int (Int32.ofNat 1))])) rfl rfl (hb hby d3_17)
      have pre162 : ∀ t_, Steps p.tables e below (T161.setTop (mkF m 64 #[.val (.ref a1), .val (.ref b103), .val (.int (Int32.ofNat 1)), .val (.int (Int32.ofNat n1))] [(.ref b103)])) t_ → Steps p.tables e below (s₁.setTop (entryFrame m #[(.ref a1)] 4)) t_ := fun t_ kt => pre125 t_ (by
          show Steps p.tables e below (T124.setTop (mkF m 15 #[.val (.ref a1), .val (.ref b103), .val (.int (Int32.ofNat 1)), .val (.int (Int32.ofNat n1))] [])) _
          refine XS.iloadN X124.here hx rfl (hb hby d3_15) rfl ?_
          show Steps p.tables e below (T124.setTop (mkF m 16 #[.val (.ref a1), .val (.ref b103), .val (.int (Int32.ofNat 1)), .val (.int (Int32.ofNat n1))] [(.int (Int32.ofNat 1))])) _
          refine XS.aloadN X124.here hx rfl (hb hby d3_16) rfl rfl ?_
          show Steps p.tables e below (T124.setTop (mkF m 17 #[.val (.ref a1), .val (.ref b103), .val (.int (Int32.ofNat 1)), .val (.int (Int32.ofNat n1))] [(.ref a1), (.int (Int32.ofNat 1))])) _
          refine st161 _ ?_
          show Steps p.tables e below (T161.setTop (mkF m 20 #[.val (.ref a1), .val (.ref b103), .val (.int (Int32.ofNat 1)), .val (.int (Int32.ofNat n1))] [(.int (Int32.ofNat m1)), (.int (Int32.ofNat 1))])) _
          refine XS.icmpYes X161.here hx rfl (pc0 := 20) (pc' := 63) rfl (hb hby d3_20) rfl (flt (nlt32 (i := 1) (n := m1) (by omega) (by omega) : ¬ ((Int32.ofNat 1) < (Int32.ofNat m1)))).2.1 (by decide) (by decide) ?_
          show Steps p.tables e below (T161.setTop (mkF m 63 #[.val (.ref a1), .val (.ref b103), .val (.int (Int32.ofNat 1)), .val (.int (Int32.ofNat n1))] [])) _
          refine XS.aloadN X161.here hx rfl (hb hby d3_63) rfl rfl ?_
          exact kt)
      have f163 : Arv Z h120 b103 k103 (.array .double) (Int32.ofNat m1) (own_rows b103 m1) .null := (V103.keep K120 (own_nmc (by omega : b103 ≠ (b103 + 1 + 0)) own_nm0))
      obtain ⟨fs, hr, hrun, hended, hW, hsame⟩ := X161.leave (v := some (.ref b103)) (fun h => by rw [Bd.returns] at h; cases h)
      refine ⟨_, _, pre162 _ ?_, hrun, hended, _, _, rfl, ?_, ⟨_, rfl⟩, hW, hsame.mono (by decide) (by decide)⟩
      · show Steps p.tables e below (T161.setTop (mkF m 64 #[.val (.ref a1), .val (.ref b103), .val (.int (Int32.ofNat 1)), .val (.int (Int32.ofNat n1))] [(.ref b103)])) _
        exact own_retR X161 hx Bd.returns rfl (hb hby d3_64) hr
      · show QtoA Z a1 m1 n1 e1 kk f1 h0 n0 _ T161.heap _
        rw [e161]
        exact ⟨b103, k103, kI103, rfl, N120, k122, sz_b103, f163, fun i' hi' => match i', hi' with | 0, _ => own_cur_end f1 m1 0 n1 ▸ x120_0 | _ + 1, hi' => absurd hi' (by omega)⟩
  · skip
    have f164 : Fld Z h103 a1 "com/example/orthoform/kernel/DenseMatrix" "rows" "I" (.int (Int32.ofNat m1)) := (P_F_a1_rows.ext E103)
    obtain ⟨T165, X165, e165, st165⟩ := getF X103 hx hZ hown (host := "") (Or.inl (hw _ (List.mem_of_getElem? (i := 10) rfl))) Via.refl e103 f164 (g := (mkF m 17 #[.val (.ref a1), .val (.ref b103), .val (.int (0 : Int32)), .unset] [(.ref a1), (.int (0 : Int32))])) rfl rfl (hb hby d3_17)
    have pre166 : ∀ t_, Steps p.tables e below (T165.setTop (mkF m 64 #[.val (.ref a1), .val (.ref b103), .val (.int (0 : Int32)), .unset] [(.ref b103)])) t_ → Steps p.tables e below (s₁.setTop (entryFrame m #[(.ref a1)] 4)) t_ := fun t_ kt => pre114 t_ (by
        show Steps p.tables e below (T103.setTop (mkF m 15 #[.val (.ref a1), .val (.ref b103), .val (.int (0 : Int32)), .unset] [])) _
        refine XS.iloadN X103.here hx rfl (hb hby d3_15) rfl ?_
        show Steps p.tables e below (T103.setTop (mkF m 16 #[.val (.ref a1), .val (.ref b103), .val (.int (0 : Int32)), .unset] [(.int (0 : Int32))])) _
        refine XS.aloadN X103.here hx rfl (hb hby d3_16) rfl rfl ?_
        show Steps p.tables e below (T103.setTop (mkF m 17 #[.val (.ref a1), .val (.ref b103), .val (.int (0 : Int32)), .unset] [(.ref a1), (.int (0 : Int32))])) _
        refine st165 _ ?_
        show Steps p.tables e below (T165.setTop (mkF m 20 #[.val (.ref a1), .val (.ref b103), .val (.int (0 : Int32)), .unset] [(.int (Int32.ofNat m1)), (.int (0 : Int32))])) _
        refine XS.icmpYes X165.here hx rfl (pc0 := 20) (pc' := 63) rfl (hb hby d3_20) rfl (flt (nlt32 (i := 0) (n := m1) (by omega) (by omega) : ¬ ((0 : Int32) < (Int32.ofNat m1)))).2.1 (by decide) (by decide) ?_
        show Steps p.tables e below (T165.setTop (mkF m 63 #[.val (.ref a1), .val (.ref b103), .val (.int (0 : Int32)), .unset] [])) _
        refine XS.aloadN X165.here hx rfl (hb hby d3_63) rfl rfl ?_
        exact kt)
    obtain ⟨fs, hr, hrun, hended, hW, hsame⟩ := X165.leave (v := some (.ref b103)) (fun h => by rw [Bd.returns] at h; cases h)
    refine ⟨_, _, pre166 _ ?_, hrun, hended, _, _, rfl, ?_, ⟨_, rfl⟩, hW, hsame.mono (by decide) (by decide)⟩
    · show Steps p.tables e below (T165.setTop (mkF m 64 #[.val (.ref a1), .val (.ref b103), .val (.int (0 : Int32)), .unset] [(.ref b103)])) _
      exact own_retR X165 hx Bd.returns rfl (hb hby d3_64) hr
    · show QtoA Z a1 m1 n1 e1 kk f1 h0 n0 _ T165.heap _
      rw [e165]
      exact ⟨b103, k103, kI103, rfl, N0, k107, sz_b103, V103, fun i' hi' => absurd hi' (by omega)⟩
theorem ef_rok0 (m : MethodId) (b1 : Addr) : entryFrame m #[(.ref b1), (.int (0 : Int32)), (.int (Int32.ofNat n1))] 3 = mkF m 0 #[.val (.ref b1), .val (.int (0 : Int32)), .val (.int (Int32.ofNat n1))] [] := by first | (simp [entryFrame, mkF, argsToLocals, Value.category]; done) | rfl
theorem d4_0 : decode method_3_code 0 = .ok (.iload_n 1, 1) := by decide +kernel
theorem d4_1 : decode method_3_code 1 = .ok (.aload_n 0, 1) := by decide +kernel
theorem d4_2 : decode method_3_code 2 = .ok (.arraylength, 1) := by decide +kernel
theorem d4_3 : decode method_3_code 3 = .ok (.if_icmp .lt 5, 3) := by decide +kernel
theorem d4_8 : decode method_3_code 8 = .ok (.aload_n 0, 1) := by decide +kernel
theorem d4_9 : decode method_3_code 9 = .ok (.iload_n 1, 1) := by decide +kernel
theorem d4_10 : decode method_3_code 10 = .ok (.aaload, 1) := by decide +kernel
theorem d4_11 : decode method_3_code 11 = .ok (.ifnull 15, 3) := by decide +kernel
theorem d4_14 : decode method_3_code 14 = .ok (.aload_n 0, 1) := by decide +kernel
theorem d4_15 : decode method_3_code 15 = .ok (.iload_n 1, 1) := by decide +kernel
theorem d4_16 : decode method_3_code 16 = .ok (.aaload, 1) := by decide +kernel
theorem d4_17 : decode method_3_code 17 = .ok (.arraylength, 1) := by decide +kernel
theorem d4_18 : decode method_3_code 18 = .ok (.iload_n 2, 1) := by decide +kernel
theorem d4_19 : decode method_3_code 19 = .ok (.if_icmp .ne 7, 3) := by decide +kernel
theorem d4_22 : decode method_3_code 22 = .ok (.iconst 1, 1) := by decide +kernel
theorem d4_23 : decode method_3_code 23 = .ok (.goto 4, 3) := by decide +kernel
theorem d4_27 : decode method_3_code 27 = .ok (.ireturn, 1) := by decide +kernel
theorem d4_6 : decode method_3_code 6 = .ok (.iconst 1, 1) := by decide +kernel
theorem d4_7 : decode method_3_code 7 = .ok (.ireturn, 1) := by decide +kernel
theorem pn_com_example_orthoform_kernel_DenseMatrixToArrayPinLaw : plainName "com/example/orthoform/kernel/DenseMatrixToArrayPinLaw" = true := by first | (simp [plainName, overriddenIn]; done) | decide +kernel
def Qrok0 (Z : State) (b1 : Addr) (m1 : Nat) (n1 : Nat) (kA : ClassId) (kr : ClassId) (f1 : Nat → UInt64) (h0 : Heap) (n0 : Nat) (v : Option Value) (h : Heap) (L : List Loc) : Prop := v = some (.int (1 : Int32)) ∧ Fr n0 L ∧ h = h0
set_option maxRecDepth 65536 in
set_option maxHeartbeats 40000000 in
theorem rmrok0 (l : Launch) (Z : State) (a0 : Array Value) (hw : ∀ d ∈ tables_1, d.before a0 Z = true) (ws : List Jvm.Cond) (b1 : Addr) (m1 : Nat) (n1 : Nat) (kA : ClassId) (kr : ClassId) (f1 : Nat → UInt64) (h0 : Heap) (n0 : Nat) (Z0 : n0 ≤ h0.size) (P_V_b1 : Arv Z h0 b1 kA (.array .double) (Int32.ofNat m1) (own_rows b1 m1) .null) (hm : m1 ≤ 3) (hn : n1 ≤ 3) (hrow : ∀ i', i' < m1 → Arv Z h0 (b1 + 1 + i') kr .double (Int32.ofNat n1) (own_dv (fun j => f1 (i' + j * m1)) n1) (.double 0)) :
    MetFree l (⟨"com/example/orthoform/kernel/DenseMatrixToArrayPinLaw", "rowOk", "([[DII)Z"⟩ : MethodName) (head1 (Jvm.Cond.code (⟨"com/example/orthoform/kernel/DenseMatrixToArrayPinLaw", "rowOk", "([[DII)Z"⟩ : MethodName) method_3_code 3 (some .boolean) :: ws) ({ frames := 0, cells := 0, slots := 0, locals := 0 } : Room)) (fun a U => a = #[(.ref b1), (.int (0 : Int32)), (.int (Int32.ofNat n1))] ∧ Z.Warmed39 U.vm ∧ U.heap = h0) (fun _ _ _ _ _ => True) (fun _ U o U' => ∃ v L, o = .returned v ∧ Qrok0 Z b1 m1 n1 kA kr f1 h0 n0 v U'.heap L ∧ FrameEnd U o U' L ({ frames := 0, cells := 0, slots := 0, locals := 0 } : Room).cells ({ frames := 0, cells := 0, slots := 0, locals := 0 } : Room).slots) := by
  refine MetFree.of_bodySF (plainFor_of_name pn_com_example_orthoform_kernel_DenseMatrixToArrayPinLaw) hisR ?_
  intro p e s m args below meth c s₁ Bd hml0 hP hK
  obtain ⟨rfl, hZ, hh⟩ := hP
  have hx := Bd.exec
  have hby := Bd.bytes
  have hml : c.maxLocals = 3 := hml0
  have hown : s.vm.findClass "com/example/orthoform/kernel/DenseMatrixToArrayPinLaw" = some m.cls := findClass_of_methodNamed Bd.named
  have hnm := (name_of_methodNamed Bd.named Bd.method).1
  have X0 : Stand p l e ({ frames := 0, cells := 0, slots := 0, locals := 0 } : Room) s m #[(.ref b1), (.int (0 : Int32)), (.int (Int32.ofNat n1))] below meth c s₁ [] 0 0 := Stand.of_body Bd
  have e0 : s₁.heap = h0 := by rw [← hh, Bd.state]; rfl
  have N0 := Fr.nil n0
  have pre0 : ∀ t_, Steps p.tables e below (s₁.setTop (mkF m 0 #[.val (.ref b1), .val (.int (0 : Int32)), .val (.int (Int32.ofNat n1))] [])) t_ → Steps p.tables e below (s₁.setTop (entryFrame m #[(.ref b1), (.int (0 : Int32)), (.int (Int32.ofNat n1))] 3)) t_ := fun t_ k => castTop (ef_rok0 m b1) k
  obtain ⟨cl101, Ar101, Q101, S101, M101, H101, G101⟩ := id P_V_b1
  have pre102 : ∀ t_, Steps p.tables e below (s₁.setTop (mkF m 3 #[.val (.ref b1), .val (.int (0 : Int32)), .val (.int (Int32.ofNat n1))] [(.int (Int32.ofNat m1)), (.int (0 : Int32))])) t_ → Steps p.tables e below (s₁.setTop (entryFrame m #[(.ref b1), (.int (0 : Int32)), (.int (Int32.ofNat n1))] 3)) t_ := fun t_ kt => pre0 t_ (by
      show Steps p.tables e below (s₁.setTop (mkF m 0 #[.val (.ref b1), .val (.int (0 : Int32)), .val (.int (Int32.ofNat n1))] [])) _
      refine XS.iloadN X0.here hx rfl (hb hby d4_0) rfl ?_
      show Steps p.tables e below (s₁.setTop (mkF m 1 #[.val (.ref b1), .val (.int (0 : Int32)), .val (.int (Int32.ofNat n1))] [(.int (0 : Int32))])) _
      refine XS.aloadN X0.here hx rfl (hb hby d4_1) rfl rfl ?_
      show Steps p.tables e below (s₁.setTop (mkF m 2 #[.val (.ref b1), .val (.int (0 : Int32)), .val (.int (Int32.ofNat n1))] [(.ref b1), (.int (0 : Int32))])) _
      refine X0.arraylength hx (cell := cl101) (by rw [e0]; exact Ar101.1) (State.isArrayOf_alike hZ.alike Ar101.2.1) (g := (mkF m 2 #[.val (.ref b1), .val (.int (0 : Int32)), .val (.int (Int32.ofNat n1))] [(.ref b1), (.int (0 : Int32))])) rfl rfl (hb hby d4_2) _ ?_
      rw [len_of S101 M101]
      exact kt)
  by_cases hA : (0 : Int32) < (Int32.ofNat m1)
  · skip
    have hA' := (lt32_iff (i := 0) (n := m1) (by omega) (by omega)).mp hA
    have rowk : Arv Z h0 (b1 + 1 + 0) kr .double (Int32.ofNat n1) (own_dv (fun j => f1 (0 + j * m1)) n1) (.double (0 : UInt64)) := hrow 0 hA'
    obtain ⟨cl103, Ar103, Q103, S103, M103, H103, G103⟩ := id P_V_b1
    have in104 : ¬ ((0 : Int32) < 0 ∨ cl103.slots.size ≤ ((0 : Int32)).toNatClampNeg) := inb_of S103 ⟨by decide, hA⟩
    have at105 : cl103.slots[((0 : Int32)).toNatClampNeg]? = some (.ref (b1 + 1 + 0)) := by rw [show ((0 : Int32)).toNatClampNeg = 0 from rfl, H103 0 (by rw [S103, n32 (by omega)]; exact hA'), own_rat _ hA']
    obtain ⟨cl106, Ar106, Q106, S106, M106, H106, G106⟩ := id P_V_b1
    have in107 : ¬ ((0 : Int32) < 0 ∨ cl106.slots.size ≤ ((0 : Int32)).toNatClampNeg) := inb_of S106 ⟨by decide, hA⟩
    have at108 : cl106.slots[((0 : Int32)).toNatClampNeg]? = some (.ref (b1 + 1 + 0)) := by rw [show ((0 : Int32)).toNatClampNeg = 0 from rfl, H106 0 (by rw [S106, n32 (by omega)]; exact hA'), own_rat _ hA']
    obtain ⟨cl109, Ar109, Q109, S109, M109, H109, G109⟩ := id rowk
    have pre110 : ∀ t_, Steps p.tables e below (s₁.setTop (mkF m 27 #[.val (.ref b1), .val (.int (0 : Int32)), .val (.int (Int32.ofNat n1))] [(.int (1 : Int32))])) t_ → Steps p.tables e below (s₁.setTop (entryFrame m #[(.ref b1), (.int (0 : Int32)), (.int (Int32.ofNat n1))] 3)) t_ := fun t_ kt => pre102 t_ (by
        show Steps p.tables e below (s₁.setTop (mkF m 3 #[.val (.ref b1), .val (.int (0 : Int32)), .val (.int (Int32.ofNat n1))] [(.int (Int32.ofNat m1)), (.int (0 : Int32))])) _
        refine XS.icmpYes X0.here hx rfl (pc0 := 3) (pc' := 8) rfl (hb hby d4_3) rfl (tlt (hA : (0 : Int32) < (Int32.ofNat m1))).1 (by decide) (by decide) ?_
        show Steps p.tables e below (s₁.setTop (mkF m 8 #[.val (.ref b1), .val (.int (0 : Int32)), .val (.int (Int32.ofNat n1))] [])) _
        refine XS.aloadN X0.here hx rfl (hb hby d4_8) rfl rfl ?_
        show Steps p.tables e below (s₁.setTop (mkF m 9 #[.val (.ref b1), .val (.int (0 : Int32)), .val (.int (Int32.ofNat n1))] [(.ref b1)])) _
        refine XS.iloadN X0.here hx rfl (hb hby d4_9) rfl ?_
        show Steps p.tables e below (s₁.setTop (mkF m 10 #[.val (.ref b1), .val (.int (0 : Int32)), .val (.int (Int32.ofNat n1))] [(.int (0 : Int32)), (.ref b1)])) _
        refine X0.aaload hx (j := (0 : Int32)) (v := (.ref (b1 + 1 + 0))) (by rw [e0]; exact Ar103.1) (State.isArrayOf_alike hZ.alike Ar103.2.1) rfl Ar103.2.2 in104 at105 (g := (mkF m 10 #[.val (.ref b1), .val (.int (0 : Int32)), .val (.int (Int32.ofNat n1))] [(.int (0 : Int32)), (.ref b1)])) rfl rfl (hb hby d4_10) _ ?_
        show Steps p.tables e below (s₁.setTop (mkF m 11 #[.val (.ref b1), .val (.int (0 : Int32)), .val (.int (Int32.ofNat n1))] [(.ref (b1 + 1 + 0))])) _
        refine XS.ifnullNo X0.here hx rfl (hb hby d4_11) rfl ?_
        show Steps p.tables e below (s₁.setTop (mkF m 14 #[.val (.ref b1), .val (.int (0 : Int32)), .val (.int (Int32.ofNat n1))] [])) _
        refine XS.aloadN X0.here hx rfl (hb hby d4_14) rfl rfl ?_
        show Steps p.tables e below (s₁.setTop (mkF m 15 #[.val (.ref b1), .val (.int (0 : Int32)), .val (.int (Int32.ofNat n1))] [(.ref b1)])) _
        refine XS.iloadN X0.here hx rfl (hb hby d4_15) rfl ?_
        show Steps p.tables e below (s₁.setTop (mkF m 16 #[.val (.ref b1), .val (.int (0 : Int32)), .val (.int (Int32.ofNat n1))] [(.int (0 : Int32)), (.ref b1)])) _
        refine X0.aaload hx (j := (0 : Int32)) (v := (.ref (b1 + 1 + 0))) (by rw [e0]; exact Ar106.1) (State.isArrayOf_alike hZ.alike Ar106.2.1) rfl Ar106.2.2 in107 at108 (g := (mkF m 16 #[.val (.ref b1), .val (.int (0 : Int32)), .val (.int (Int32.ofNat n1))] [(.int (0 : Int32)), (.ref b1)])) rfl rfl (hb hby d4_16) _ ?_
        show Steps p.tables e below (s₁.setTop (mkF m 17 #[.val (.ref b1), .val (.int (0 : Int32)), .val (.int (Int32.ofNat n1))] [(.ref (b1 + 1 + 0))])) _
        refine X0.arraylength hx (cell := cl109) (by rw [e0]; exact Ar109.1) (State.isArrayOf_alike hZ.alike Ar109.2.1) (g := (mkF m 17 #[.val (.ref b1), .val (.int (0 : Int32)), .val (.int (Int32.ofNat n1))] [(.ref (b1 + 1 + 0))])) rfl rfl (hb hby d4_17) _ ?_
        rw [len_of S109 M109]
        show Steps p.tables e below (s₁.setTop (mkF m 18 #[.val (.ref b1), .val (.int (0 : Int32)), .val (.int (Int32.ofNat n1))] [(.int (Int32.ofNat n1))])) _
        refine XS.iloadN X0.here hx rfl (hb hby d4_18) rfl ?_
        show Steps p.tables e below (s₁.setTop (mkF m 19 #[.val (.ref b1), .val (.int (0 : Int32)), .val (.int (Int32.ofNat n1))] [(.int (Int32.ofNat n1)), (.int (Int32.ofNat n1))])) _
        refine XS.icmpNo X0.here hx rfl (hb hby d4_19) rfl (teq (rfl : (Int32.ofNat n1) = (Int32.ofNat n1))).2 ?_
        show Steps p.tables e below (s₁.setTop (mkF m 22 #[.val (.ref b1), .val (.int (0 : Int32)), .val (.int (Int32.ofNat n1))] [])) _
        refine XS.iconst X0.here hx rfl (hb hby d4_22) ?_
        show Steps p.tables e below (s₁.setTop (mkF m 23 #[.val (.ref b1), .val (.int (0 : Int32)), .val (.int (Int32.ofNat n1))] [(.int (1 : Int32))])) _
        refine XS.goto X0.here hx rfl (pc0 := 23) (pc' := 27) rfl (hb hby d4_23) (by decide) (by decide) ?_
        exact kt)
    obtain ⟨fs, hr, hrun, hended, hW, hsame⟩ := X0.leave (v := some (.int (1 : Int32))) (fun h => by rw [Bd.returns] at h; cases h)
    refine ⟨_, _, pre110 _ ?_, hrun, hended, _, _, rfl, ?_, ⟨_, rfl⟩, hW, hsame.mono (by decide) (by decide)⟩
    · show Steps p.tables e below (s₁.setTop (mkF m 27 #[.val (.ref b1), .val (.int (0 : Int32)), .val (.int (Int32.ofNat n1))] [(.int (1 : Int32))])) _
      exact retN X0 hx (t := .boolean) Bd.returns (by simp) (hb hby d4_27) hr
    · show Qrok0 Z b1 m1 n1 kA kr f1 h0 n0 _ s₁.heap _
      rw [e0]
      exact ⟨rfl, N0, rfl⟩
  · skip
    have pre111 : ∀ t_, Steps p.tables e below (s₁.setTop (mkF m 7 #[.val (.ref b1), .val (.int (0 : Int32)), .val (.int (Int32.ofNat n1))] [(.int (1 : Int32))])) t_ → Steps p.tables e below (s₁.setTop (entryFrame m #[(.ref b1), (.int (0 : Int32)), (.int (Int32.ofNat n1))] 3)) t_ := fun t_ kt => pre102 t_ (by
        show Steps p.tables e below (s₁.setTop (mkF m 3 #[.val (.ref b1), .val (.int (0 : Int32)), .val (.int (Int32.ofNat n1))] [(.int (Int32.ofNat m1)), (.int (0 : Int32))])) _
        refine XS.icmpNo X0.here hx rfl (hb hby d4_3) rfl (flt (hA : ¬ ((0 : Int32) < (Int32.ofNat m1)))).1 ?_
        show Steps p.tables e below (s₁.setTop (mkF m 6 #[.val (.ref b1), .val (.int (0 : Int32)), .val (.int (Int32.ofNat n1))] [])) _
        refine XS.iconst X0.here hx rfl (hb hby d4_6) ?_
        exact kt)
    obtain ⟨fs, hr, hrun, hended, hW, hsame⟩ := X0.leave (v := some (.int (1 : Int32))) (fun h => by rw [Bd.returns] at h; cases h)
    refine ⟨_, _, pre111 _ ?_, hrun, hended, _, _, rfl, ?_, ⟨_, rfl⟩, hW, hsame.mono (by decide) (by decide)⟩
    · show Steps p.tables e below (s₁.setTop (mkF m 7 #[.val (.ref b1), .val (.int (0 : Int32)), .val (.int (Int32.ofNat n1))] [(.int (1 : Int32))])) _
      exact retN X0 hx (t := .boolean) Bd.returns (by simp) (hb hby d4_7) hr
    · show Qrok0 Z b1 m1 n1 kA kr f1 h0 n0 _ s₁.heap _
      rw [e0]
      exact ⟨rfl, N0, rfl⟩
theorem ef_rok1 (m : MethodId) (b1 : Addr) : entryFrame m #[(.ref b1), (.int (1 : Int32)), (.int (Int32.ofNat n1))] 3 = mkF m 0 #[.val (.ref b1), .val (.int (1 : Int32)), .val (.int (Int32.ofNat n1))] [] := by first | (simp [entryFrame, mkF, argsToLocals, Value.category]; done) | rfl
def Qrok1 (Z : State) (b1 : Addr) (m1 : Nat) (n1 : Nat) (kA : ClassId) (kr : ClassId) (f1 : Nat → UInt64) (h0 : Heap) (n0 : Nat) (v : Option Value) (h : Heap) (L : List Loc) : Prop := v = some (.int (1 : Int32)) ∧ Fr n0 L ∧ h = h0
set_option maxRecDepth 65536 in
set_option maxHeartbeats 40000000 in
theorem rmrok1 (l : Launch) (Z : State) (a0 : Array Value) (hw : ∀ d ∈ tables_1, d.before a0 Z = true) (ws : List Jvm.Cond) (b1 : Addr) (m1 : Nat) (n1 : Nat) (kA : ClassId) (kr : ClassId) (f1 : Nat → UInt64) (h0 : Heap) (n0 : Nat) (Z0 : n0 ≤ h0.size) (P_V_b1 : Arv Z h0 b1 kA (.array .double) (Int32.ofNat m1) (own_rows b1 m1) .null) (hm : m1 ≤ 3) (hn : n1 ≤ 3) (hrow : ∀ i', i' < m1 → Arv Z h0 (b1 + 1 + i') kr .double (Int32.ofNat n1) (own_dv (fun j => f1 (i' + j * m1)) n1) (.double 0)) :
    MetFree l (⟨"com/example/orthoform/kernel/DenseMatrixToArrayPinLaw", "rowOk", "([[DII)Z"⟩ : MethodName) (head1 (Jvm.Cond.code (⟨"com/example/orthoform/kernel/DenseMatrixToArrayPinLaw", "rowOk", "([[DII)Z"⟩ : MethodName) method_3_code 3 (some .boolean) :: ws) ({ frames := 0, cells := 0, slots := 0, locals := 0 } : Room)) (fun a U => a = #[(.ref b1), (.int (1 : Int32)), (.int (Int32.ofNat n1))] ∧ Z.Warmed39 U.vm ∧ U.heap = h0) (fun _ _ _ _ _ => True) (fun _ U o U' => ∃ v L, o = .returned v ∧ Qrok1 Z b1 m1 n1 kA kr f1 h0 n0 v U'.heap L ∧ FrameEnd U o U' L ({ frames := 0, cells := 0, slots := 0, locals := 0 } : Room).cells ({ frames := 0, cells := 0, slots := 0, locals := 0 } : Room).slots) := by
  refine MetFree.of_bodySF (plainFor_of_name pn_com_example_orthoform_kernel_DenseMatrixToArrayPinLaw) hisR ?_
  intro p e s m args below meth c s₁ Bd hml0 hP hK
  obtain ⟨rfl, hZ, hh⟩ := hP
  have hx := Bd.exec
  have hby := Bd.bytes
  have hml : c.maxLocals = 3 := hml0
  have hown : s.vm.findClass "com/example/orthoform/kernel/DenseMatrixToArrayPinLaw" = some m.cls := findClass_of_methodNamed Bd.named
  have hnm := (name_of_methodNamed Bd.named Bd.method).1
  have X0 : Stand p l e ({ frames := 0, cells := 0, slots := 0, locals := 0 } : Room) s m #[(.ref b1), (.int (1 : Int32)), (.int (Int32.ofNat n1))] below meth c s₁ [] 0 0 := Stand.of_body Bd
  have e0 : s₁.heap = h0 := by rw [← hh, Bd.state]; rfl
  have N0 := Fr.nil n0
  have pre0 : ∀ t_, Steps p.tables e below (s₁.setTop (mkF m 0 #[.val (.ref b1), .val (.int (1 : Int32)), .val (.int (Int32.ofNat n1))] [])) t_ → Steps p.tables e below (s₁.setTop (entryFrame m #[(.ref b1), (.int (1 : Int32)), (.int (Int32.ofNat n1))] 3)) t_ := fun t_ k => castTop (ef_rok1 m b1) k
  obtain ⟨cl101, Ar101, Q101, S101, M101, H101, G101⟩ := id P_V_b1
  have pre102 : ∀ t_, Steps p.tables e below (s₁.setTop (mkF m 3 #[.val (.ref b1), .val (.int (1 : Int32)), .val (.int (Int32.ofNat n1))] [(.int (Int32.ofNat m1)), (.int (1 : Int32))])) t_ → Steps p.tables e below (s₁.setTop (entryFrame m #[(.ref b1), (.int (1 : Int32)), (.int (Int32.ofNat n1))] 3)) t_ := fun t_ kt => pre0 t_ (by
      show Steps p.tables e below (s₁.setTop (mkF m 0 #[.val (.ref b1), .val (.int (1 : Int32)), .val (.int (Int32.ofNat n1))] [])) _
      refine XS.iloadN X0.here hx rfl (hb hby d4_0) rfl ?_
      show Steps p.tables e below (s₁.setTop (mkF m 1 #[.val (.ref b1), .val (.int (1 : Int32)), .val (.int (Int32.ofNat n1))] [(.int (1 : Int32))])) _
      refine XS.aloadN X0.here hx rfl (hb hby d4_1) rfl rfl ?_
      show Steps p.tables e below (s₁.setTop (mkF m 2 #[.val (.ref b1), .val (.int (1 : Int32)), .val (.int (Int32.ofNat n1))] [(.ref b1), (.int (1 : Int32))])) _
      refine X0.arraylength hx (cell := cl101) (by rw [e0]; exact Ar101.1) (State.isArrayOf_alike hZ.alike Ar101.2.1) (g := (mkF m 2 #[.val (.ref b1), .val (.int (1 : Int32)), .val (.int (Int32.ofNat n1))] [(.ref b1), (.int (1 : Int32))])) rfl rfl (hb hby d4_2) _ ?_
      rw [len_of S101 M101]
      exact kt)
  by_cases hA : (1 : Int32) < (Int32.ofNat m1)
  · skip
    have hA' := (lt32_iff (i := 1) (n := m1) (by omega) (by omega)).mp hA
    have rowk : Arv Z h0 (b1 + 1 + 1) kr .double (Int32.ofNat n1) (own_dv (fun j => f1 (1 + j * m1)) n1) (.double (0 : UInt64)) := hrow 1 hA'
    obtain ⟨cl103, Ar103, Q103, S103, M103, H103, G103⟩ := id P_V_b1
    have in104 : ¬ ((1 : Int32) < 0 ∨ cl103.slots.size ≤ ((1 : Int32)).toNatClampNeg) := inb_of S103 ⟨by decide, hA⟩
    have at105 : cl103.slots[((1 : Int32)).toNatClampNeg]? = some (.ref (b1 + 1 + 1)) := by rw [show ((1 : Int32)).toNatClampNeg = 1 from rfl, H103 1 (by rw [S103, n32 (by omega)]; exact hA'), own_rat _ hA']
    obtain ⟨cl106, Ar106, Q106, S106, M106, H106, G106⟩ := id P_V_b1
    have in107 : ¬ ((1 : Int32) < 0 ∨ cl106.slots.size ≤ ((1 : Int32)).toNatClampNeg) := inb_of S106 ⟨by decide, hA⟩
    have at108 : cl106.slots[((1 : Int32)).toNatClampNeg]? = some (.ref (b1 + 1 + 1)) := by rw [show ((1 : Int32)).toNatClampNeg = 1 from rfl, H106 1 (by rw [S106, n32 (by omega)]; exact hA'), own_rat _ hA']
    obtain ⟨cl109, Ar109, Q109, S109, M109, H109, G109⟩ := id rowk
    have pre110 : ∀ t_, Steps p.tables e below (s₁.setTop (mkF m 27 #[.val (.ref b1), .val (.int (1 : Int32)), .val (.int (Int32.ofNat n1))] [(.int (1 : Int32))])) t_ → Steps p.tables e below (s₁.setTop (entryFrame m #[(.ref b1), (.int (1 : Int32)), (.int (Int32.ofNat n1))] 3)) t_ := fun t_ kt => pre102 t_ (by
        show Steps p.tables e below (s₁.setTop (mkF m 3 #[.val (.ref b1), .val (.int (1 : Int32)), .val (.int (Int32.ofNat n1))] [(.int (Int32.ofNat m1)), (.int (1 : Int32))])) _
        refine XS.icmpYes X0.here hx rfl (pc0 := 3) (pc' := 8) rfl (hb hby d4_3) rfl (tlt (hA : (1 : Int32) < (Int32.ofNat m1))).1 (by decide) (by decide) ?_
        show Steps p.tables e below (s₁.setTop (mkF m 8 #[.val (.ref b1), .val (.int (1 : Int32)), .val (.int (Int32.ofNat n1))] [])) _
        refine XS.aloadN X0.here hx rfl (hb hby d4_8) rfl rfl ?_
        show Steps p.tables e below (s₁.setTop (mkF m 9 #[.val (.ref b1), .val (.int (1 : Int32)), .val (.int (Int32.ofNat n1))] [(.ref b1)])) _
        refine XS.iloadN X0.here hx rfl (hb hby d4_9) rfl ?_
        show Steps p.tables e below (s₁.setTop (mkF m 10 #[.val (.ref b1), .val (.int (1 : Int32)), .val (.int (Int32.ofNat n1))] [(.int (1 : Int32)), (.ref b1)])) _
        refine X0.aaload hx (j := (1 : Int32)) (v := (.ref (b1 + 1 + 1))) (by rw [e0]; exact Ar103.1) (State.isArrayOf_alike hZ.alike Ar103.2.1) rfl Ar103.2.2 in104 at105 (g := (mkF m 10 #[.val (.ref b1), .val (.int (1 : Int32)), .val (.int (Int32.ofNat n1))] [(.int (1 : Int32)), (.ref b1)])) rfl rfl (hb hby d4_10) _ ?_
        show Steps p.tables e below (s₁.setTop (mkF m 11 #[.val (.ref b1), .val (.int (1 : Int32)), .val (.int (Int32.ofNat n1))] [(.ref (b1 + 1 + 1))])) _
        refine XS.ifnullNo X0.here hx rfl (hb hby d4_11) rfl ?_
        show Steps p.tables e below (s₁.setTop (mkF m 14 #[.val (.ref b1), .val (.int (1 : Int32)), .val (.int (Int32.ofNat n1))] [])) _
        refine XS.aloadN X0.here hx rfl (hb hby d4_14) rfl rfl ?_
        show Steps p.tables e below (s₁.setTop (mkF m 15 #[.val (.ref b1), .val (.int (1 : Int32)), .val (.int (Int32.ofNat n1))] [(.ref b1)])) _
        refine XS.iloadN X0.here hx rfl (hb hby d4_15) rfl ?_
        show Steps p.tables e below (s₁.setTop (mkF m 16 #[.val (.ref b1), .val (.int (1 : Int32)), .val (.int (Int32.ofNat n1))] [(.int (1 : Int32)), (.ref b1)])) _
        refine X0.aaload hx (j := (1 : Int32)) (v := (.ref (b1 + 1 + 1))) (by rw [e0]; exact Ar106.1) (State.isArrayOf_alike hZ.alike Ar106.2.1) rfl Ar106.2.2 in107 at108 (g := (mkF m 16 #[.val (.ref b1), .val (.int (1 : Int32)), .val (.int (Int32.ofNat n1))] [(.int (1 : Int32)), (.ref b1)])) rfl rfl (hb hby d4_16) _ ?_
        show Steps p.tables e below (s₁.setTop (mkF m 17 #[.val (.ref b1), .val (.int (1 : Int32)), .val (.int (Int32.ofNat n1))] [(.ref (b1 + 1 + 1))])) _
        refine X0.arraylength hx (cell := cl109) (by rw [e0]; exact Ar109.1) (State.isArrayOf_alike hZ.alike Ar109.2.1) (g := (mkF m 17 #[.val (.ref b1), .val (.int (1 : Int32)), .val (.int (Int32.ofNat n1))] [(.ref (b1 + 1 + 1))])) rfl rfl (hb hby d4_17) _ ?_
        rw [len_of S109 M109]
        show Steps p.tables e below (s₁.setTop (mkF m 18 #[.val (.ref b1), .val (.int (1 : Int32)), .val (.int (Int32.ofNat n1))] [(.int (Int32.ofNat n1))])) _
        refine XS.iloadN X0.here hx rfl (hb hby d4_18) rfl ?_
        show Steps p.tables e below (s₁.setTop (mkF m 19 #[.val (.ref b1), .val (.int (1 : Int32)), .val (.int (Int32.ofNat n1))] [(.int (Int32.ofNat n1)), (.int (Int32.ofNat n1))])) _
        refine XS.icmpNo X0.here hx rfl (hb hby d4_19) rfl (teq (rfl : (Int32.ofNat n1) = (Int32.ofNat n1))).2 ?_
        show Steps p.tables e below (s₁.setTop (mkF m 22 #[.val (.ref b1), .val (.int (1 : Int32)), .val (.int (Int32.ofNat n1))] [])) _
        refine XS.iconst X0.here hx rfl (hb hby d4_22) ?_
        show Steps p.tables e below (s₁.setTop (mkF m 23 #[.val (.ref b1), .val (.int (1 : Int32)), .val (.int (Int32.ofNat n1))] [(.int (1 : Int32))])) _
        refine XS.goto X0.here hx rfl (pc0 := 23) (pc' := 27) rfl (hb hby d4_23) (by decide) (by decide) ?_
        exact kt)
    obtain ⟨fs, hr, hrun, hended, hW, hsame⟩ := X0.leave (v := some (.int (1 : Int32))) (fun h => by rw [Bd.returns] at h; cases h)
    refine ⟨_, _, pre110 _ ?_, hrun, hended, _, _, rfl, ?_, ⟨_, rfl⟩, hW, hsame.mono (by decide) (by decide)⟩
    · show Steps p.tables e below (s₁.setTop (mkF m 27 #[.val (.ref b1), .val (.int (1 : Int32)), .val (.int (Int32.ofNat n1))] [(.int (1 : Int32))])) _
      exact retN X0 hx (t := .boolean) Bd.returns (by simp) (hb hby d4_27) hr
    · show Qrok1 Z b1 m1 n1 kA kr f1 h0 n0 _ s₁.heap _
      rw [e0]
      exact ⟨rfl, N0, rfl⟩
  · skip
    have pre111 : ∀ t_, Steps p.tables e below (s₁.setTop (mkF m 7 #[.val (.ref b1), .val (.int (1 : Int32)), .val (.int (Int32.ofNat n1))] [(.int (1 : Int32))])) t_ → Steps p.tables e below (s₁.setTop (entryFrame m #[(.ref b1), (.int (1 : Int32)), (.int (Int32.ofNat n1))] 3)) t_ := fun t_ kt => pre102 t_ (by
        show Steps p.tables e below (s₁.setTop (mkF m 3 #[.val (.ref b1), .val (.int (1 : Int32)), .val (.int (Int32.ofNat n1))] [(.int (Int32.ofNat m1)), (.int (1 : Int32))])) _
        refine XS.icmpNo X0.here hx rfl (hb hby d4_3) rfl (flt (hA : ¬ ((1 : Int32) < (Int32.ofNat m1)))).1 ?_
        show Steps p.tables e below (s₁.setTop (mkF m 6 #[.val (.ref b1), .val (.int (1 : Int32)), .val (.int (Int32.ofNat n1))] [])) _
        refine XS.iconst X0.here hx rfl (hb hby d4_6) ?_
        exact kt)
    obtain ⟨fs, hr, hrun, hended, hW, hsame⟩ := X0.leave (v := some (.int (1 : Int32))) (fun h => by rw [Bd.returns] at h; cases h)
    refine ⟨_, _, pre111 _ ?_, hrun, hended, _, _, rfl, ?_, ⟨_, rfl⟩, hW, hsame.mono (by decide) (by decide)⟩
    · show Steps p.tables e below (s₁.setTop (mkF m 7 #[.val (.ref b1), .val (.int (1 : Int32)), .val (.int (Int32.ofNat n1))] [(.int (1 : Int32))])) _
      exact retN X0 hx (t := .boolean) Bd.returns (by simp) (hb hby d4_7) hr
    · show Qrok1 Z b1 m1 n1 kA kr f1 h0 n0 _ s₁.heap _
      rw [e0]
      exact ⟨rfl, N0, rfl⟩
theorem ef_rok2 (m : MethodId) (b1 : Addr) : entryFrame m #[(.ref b1), (.int (2 : Int32)), (.int (Int32.ofNat n1))] 3 = mkF m 0 #[.val (.ref b1), .val (.int (2 : Int32)), .val (.int (Int32.ofNat n1))] [] := by first | (simp [entryFrame, mkF, argsToLocals, Value.category]; done) | rfl
def Qrok2 (Z : State) (b1 : Addr) (m1 : Nat) (n1 : Nat) (kA : ClassId) (kr : ClassId) (f1 : Nat → UInt64) (h0 : Heap) (n0 : Nat) (v : Option Value) (h : Heap) (L : List Loc) : Prop := v = some (.int (1 : Int32)) ∧ Fr n0 L ∧ h = h0
set_option maxRecDepth 65536 in
set_option maxHeartbeats 40000000 in
theorem rmrok2 (l : Launch) (Z : State) (a0 : Array Value) (hw : ∀ d ∈ tables_1, d.before a0 Z = true) (ws : List Jvm.Cond) (b1 : Addr) (m1 : Nat) (n1 : Nat) (kA : ClassId) (kr : ClassId) (f1 : Nat → UInt64) (h0 : Heap) (n0 : Nat) (Z0 : n0 ≤ h0.size) (P_V_b1 : Arv Z h0 b1 kA (.array .double) (Int32.ofNat m1) (own_rows b1 m1) .null) (hm : m1 ≤ 3) (hn : n1 ≤ 3) (hrow : ∀ i', i' < m1 → Arv Z h0 (b1 + 1 + i') kr .double (Int32.ofNat n1) (own_dv (fun j => f1 (i' + j * m1)) n1) (.double 0)) :
    MetFree l (⟨"com/example/orthoform/kernel/DenseMatrixToArrayPinLaw", "rowOk", "([[DII)Z"⟩ : MethodName) (head1 (Jvm.Cond.code (⟨"com/example/orthoform/kernel/DenseMatrixToArrayPinLaw", "rowOk", "([[DII)Z"⟩ : MethodName) method_3_code 3 (some .boolean) :: ws) ({ frames := 0, cells := 0, slots := 0, locals := 0 } : Room)) (fun a U => a = #[(.ref b1), (.int (2 : Int32)), (.int (Int32.ofNat n1))] ∧ Z.Warmed39 U.vm ∧ U.heap = h0) (fun _ _ _ _ _ => True) (fun _ U o U' => ∃ v L, o = .returned v ∧ Qrok2 Z b1 m1 n1 kA kr f1 h0 n0 v U'.heap L ∧ FrameEnd U o U' L ({ frames := 0, cells := 0, slots := 0, locals := 0 } : Room).cells ({ frames := 0, cells := 0, slots := 0, locals := 0 } : Room).slots) := by
  refine MetFree.of_bodySF (plainFor_of_name pn_com_example_orthoform_kernel_DenseMatrixToArrayPinLaw) hisR ?_
  intro p e s m args below meth c s₁ Bd hml0 hP hK
  obtain ⟨rfl, hZ, hh⟩ := hP
  have hx := Bd.exec
  have hby := Bd.bytes
  have hml : c.maxLocals = 3 := hml0
  have hown : s.vm.findClass "com/example/orthoform/kernel/DenseMatrixToArrayPinLaw" = some m.cls := findClass_of_methodNamed Bd.named
  have hnm := (name_of_methodNamed Bd.named Bd.method).1
  have X0 : Stand p l e ({ frames := 0, cells := 0, slots := 0, locals := 0 } : Room) s m #[(.ref b1), (.int (2 : Int32)), (.int (Int32.ofNat n1))] below meth c s₁ [] 0 0 := Stand.of_body Bd
  have e0 : s₁.heap = h0 := by rw [← hh, Bd.state]; rfl
  have N0 := Fr.nil n0
  have pre0 : ∀ t_, Steps p.tables e below (s₁.setTop (mkF m 0 #[.val (.ref b1), .val (.int (2 : Int32)), .val (.int (Int32.ofNat n1))] [])) t_ → Steps p.tables e below (s₁.setTop (entryFrame m #[(.ref b1), (.int (2 : Int32)), (.int (Int32.ofNat n1))] 3)) t_ := fun t_ k => castTop (ef_rok2 m b1) k
  obtain ⟨cl101, Ar101, Q101, S101, M101, H101, G101⟩ := id P_V_b1
  have pre102 : ∀ t_, Steps p.tables e below (s₁.setTop (mkF m 3 #[.val (.ref b1), .val (.int (2 : Int32)), .val (.int (Int32.ofNat n1))] [(.int (Int32.ofNat m1)), (.int (2 : Int32))])) t_ → Steps p.tables e below (s₁.setTop (entryFrame m #[(.ref b1), (.int (2 : Int32)), (.int (Int32.ofNat n1))] 3)) t_ := fun t_ kt => pre0 t_ (by
      show Steps p.tables e below (s₁.setTop (mkF m 0 #[.val (.ref b1), .val (.int (2 : Int32)), .val (.int (Int32.ofNat n1))] [])) _
      refine XS.iloadN X0.here hx rfl (hb hby d4_0) rfl ?_
      show Steps p.tables e below (s₁.setTop (mkF m 1 #[.val (.ref b1), .val (.int (2 : Int32)), .val (.int (Int32.ofNat n1))] [(.int (2 : Int32))])) _
      refine XS.aloadN X0.here hx rfl (hb hby d4_1) rfl rfl ?_
      show Steps p.tables e below (s₁.setTop (mkF m 2 #[.val (.ref b1), .val (.int (2 : Int32)), .val (.int (Int32.ofNat n1))] [(.ref b1), (.int (2 : Int32))])) _
      refine X0.arraylength hx (cell := cl101) (by rw [e0]; exact Ar101.1) (State.isArrayOf_alike hZ.alike Ar101.2.1) (g := (mkF m 2 #[.val (.ref b1), .val (.int (2 : Int32)), .val (.int (Int32.ofNat n1))] [(.ref b1), (.int (2 : Int32))])) rfl rfl (hb hby d4_2) _ ?_
      rw [len_of S101 M101]
      exact kt)
  by_cases hA : (2 : Int32) < (Int32.ofNat m1)
  · skip
    have hA' := (lt32_iff (i := 2) (n := m1) (by omega) (by omega)).mp hA
    have rowk : Arv Z h0 (b1 + 1 + 2) kr .double (Int32.ofNat n1) (own_dv (fun j => f1 (2 + j * m1)) n1) (.double (0 : UInt64)) := hrow 2 hA'
    obtain ⟨cl103, Ar103, Q103, S103, M103, H103, G103⟩ := id P_V_b1
    have in104 : ¬ ((2 : Int32) < 0 ∨ cl103.slots.size ≤ ((2 : Int32)).toNatClampNeg) := inb_of S103 ⟨by decide, hA⟩
    have at105 : cl103.slots[((2 : Int32)).toNatClampNeg]? = some (.ref (b1 + 1 + 2)) := by rw [show ((2 : Int32)).toNatClampNeg = 2 from rfl, H103 2 (by rw [S103, n32 (by omega)]; exact hA'), own_rat _ hA']
    obtain ⟨cl106, Ar106, Q106, S106, M106, H106, G106⟩ := id P_V_b1
    have in107 : ¬ ((2 : Int32) < 0 ∨ cl106.slots.size ≤ ((2 : Int32)).toNatClampNeg) := inb_of S106 ⟨by decide, hA⟩
    have at108 : cl106.slots[((2 : Int32)).toNatClampNeg]? = some (.ref (b1 + 1 + 2)) := by rw [show ((2 : Int32)).toNatClampNeg = 2 from rfl, H106 2 (by rw [S106, n32 (by omega)]; exact hA'), own_rat _ hA']
    obtain ⟨cl109, Ar109, Q109, S109, M109, H109, G109⟩ := id rowk
    have pre110 : ∀ t_, Steps p.tables e below (s₁.setTop (mkF m 27 #[.val (.ref b1), .val (.int (2 : Int32)), .val (.int (Int32.ofNat n1))] [(.int (1 : Int32))])) t_ → Steps p.tables e below (s₁.setTop (entryFrame m #[(.ref b1), (.int (2 : Int32)), (.int (Int32.ofNat n1))] 3)) t_ := fun t_ kt => pre102 t_ (by
        show Steps p.tables e below (s₁.setTop (mkF m 3 #[.val (.ref b1), .val (.int (2 : Int32)), .val (.int (Int32.ofNat n1))] [(.int (Int32.ofNat m1)), (.int (2 : Int32))])) _
        refine XS.icmpYes X0.here hx rfl (pc0 := 3) (pc' := 8) rfl (hb hby d4_3) rfl (tlt (hA : (2 : Int32) < (Int32.ofNat m1))).1 (by decide) (by decide) ?_
        show Steps p.tables e below (s₁.setTop (mkF m 8 #[.val (.ref b1), .val (.int (2 : Int32)), .val (.int (Int32.ofNat n1))] [])) _
        refine XS.aloadN X0.here hx rfl (hb hby d4_8) rfl rfl ?_
        show Steps p.tables e below (s₁.setTop (mkF m 9 #[.val (.ref b1), .val (.int (2 : Int32)), .val (.int (Int32.ofNat n1))] [(.ref b1)])) _
        refine XS.iloadN X0.here hx rfl (hb hby d4_9) rfl ?_
        show Steps p.tables e below (s₁.setTop (mkF m 10 #[.val (.ref b1), .val (.int (2 : Int32)), .val (.int (Int32.ofNat n1))] [(.int (2 : Int32)), (.ref b1)])) _
        refine X0.aaload hx (j := (2 : Int32)) (v := (.ref (b1 + 1 + 2))) (by rw [e0]; exact Ar103.1) (State.isArrayOf_alike hZ.alike Ar103.2.1) rfl Ar103.2.2 in104 at105 (g := (mkF m 10 #[.val (.ref b1), .val (.int (2 : Int32)), .val (.int (Int32.ofNat n1))] [(.int (2 : Int32)), (.ref b1)])) rfl rfl (hb hby d4_10) _ ?_
        show Steps p.tables e below (s₁.setTop (mkF m 11 #[.val (.ref b1), .val (.int (2 : Int32)), .val (.int (Int32.ofNat n1))] [(.ref (b1 + 1 + 2))])) _
        refine XS.ifnullNo X0.here hx rfl (hb hby d4_11) rfl ?_
        show Steps p.tables e below (s₁.setTop (mkF m 14 #[.val (.ref b1), .val (.int (2 : Int32)), .val (.int (Int32.ofNat n1))] [])) _
        refine XS.aloadN X0.here hx rfl (hb hby d4_14) rfl rfl ?_
        show Steps p.tables e below (s₁.setTop (mkF m 15 #[.val (.ref b1), .val (.int (2 : Int32)), .val (.int (Int32.ofNat n1))] [(.ref b1)])) _
        refine XS.iloadN X0.here hx rfl (hb hby d4_15) rfl ?_
        show Steps p.tables e below (s₁.setTop (mkF m 16 #[.val (.ref b1), .val (.int (2 : Int32)), .val (.int (Int32.ofNat n1))] [(.int (2 : Int32)), (.ref b1)])) _
        refine X0.aaload hx (j := (2 : Int32)) (v := (.ref (b1 + 1 + 2))) (by rw [e0]; exact Ar106.1) (State.isArrayOf_alike hZ.alike Ar106.2.1) rfl Ar106.2.2 in107 at108 (g := (mkF m 16 #[.val (.ref b1), .val (.int (2 : Int32)), .val (.int (Int32.ofNat n1))] [(.int (2 : Int32)), (.ref b1)])) rfl rfl (hb hby d4_16) _ ?_
        show Steps p.tables e below (s₁.setTop (mkF m 17 #[.val (.ref b1), .val (.int (2 : Int32)), .val (.int (Int32.ofNat n1))] [(.ref (b1 + 1 + 2))])) _
        refine X0.arraylength hx (cell := cl109) (by rw [e0]; exact Ar109.1) (State.isArrayOf_alike hZ.alike Ar109.2.1) (g := (mkF m 17 #[.val (.ref b1), .val (.int (2 : Int32)), .val (.int (Int32.ofNat n1))] [(.ref (b1 + 1 + 2))])) rfl rfl (hb hby d4_17) _ ?_
        rw [len_of S109 M109]
        show Steps p.tables e below (s₁.setTop (mkF m 18 #[.val (.ref b1), .val (.int (2 : Int32)), .val (.int (Int32.ofNat n1))] [(.int (Int32.ofNat n1))])) _
        refine XS.iloadN X0.here hx rfl (hb hby d4_18) rfl ?_
        show Steps p.tables e below (s₁.setTop (mkF m 19 #[.val (.ref b1), .val (.int (2 : Int32)), .val (.int (Int32.ofNat n1))] [(.int (Int32.ofNat n1)), (.int (Int32.ofNat n1))])) _
        refine XS.icmpNo X0.here hx rfl (hb hby d4_19) rfl (teq (rfl : (Int32.ofNat n1) = (Int32.ofNat n1))).2 ?_
        show Steps p.tables e below (s₁.setTop (mkF m 22 #[.val (.ref b1), .val (.int (2 : Int32)), .val (.int (Int32.ofNat n1))] [])) _
        refine XS.iconst X0.here hx rfl (hb hby d4_22) ?_
        show Steps p.tables e below (s₁.setTop (mkF m 23 #[.val (.ref b1), .val (.int (2 : Int32)), .val (.int (Int32.ofNat n1))] [(.int (1 : Int32))])) _
        refine XS.goto X0.here hx rfl (pc0 := 23) (pc' := 27) rfl (hb hby d4_23) (by decide) (by decide) ?_
        exact kt)
    obtain ⟨fs, hr, hrun, hended, hW, hsame⟩ := X0.leave (v := some (.int (1 : Int32))) (fun h => by rw [Bd.returns] at h; cases h)
    refine ⟨_, _, pre110 _ ?_, hrun, hended, _, _, rfl, ?_, ⟨_, rfl⟩, hW, hsame.mono (by decide) (by decide)⟩
    · show Steps p.tables e below (s₁.setTop (mkF m 27 #[.val (.ref b1), .val (.int (2 : Int32)), .val (.int (Int32.ofNat n1))] [(.int (1 : Int32))])) _
      exact retN X0 hx (t := .boolean) Bd.returns (by simp) (hb hby d4_27) hr
    · show Qrok2 Z b1 m1 n1 kA kr f1 h0 n0 _ s₁.heap _
      rw [e0]
      exact ⟨rfl, N0, rfl⟩
  · skip
    have pre111 : ∀ t_, Steps p.tables e below (s₁.setTop (mkF m 7 #[.val (.ref b1), .val (.int (2 : Int32)), .val (.int (Int32.ofNat n1))] [(.int (1 : Int32))])) t_ → Steps p.tables e below (s₁.setTop (entryFrame m #[(.ref b1), (.int (2 : Int32)), (.int (Int32.ofNat n1))] 3)) t_ := fun t_ kt => pre102 t_ (by
        show Steps p.tables e below (s₁.setTop (mkF m 3 #[.val (.ref b1), .val (.int (2 : Int32)), .val (.int (Int32.ofNat n1))] [(.int (Int32.ofNat m1)), (.int (2 : Int32))])) _
        refine XS.icmpNo X0.here hx rfl (hb hby d4_3) rfl (flt (hA : ¬ ((2 : Int32) < (Int32.ofNat m1)))).1 ?_
        show Steps p.tables e below (s₁.setTop (mkF m 6 #[.val (.ref b1), .val (.int (2 : Int32)), .val (.int (Int32.ofNat n1))] [])) _
        refine XS.iconst X0.here hx rfl (hb hby d4_6) ?_
        exact kt)
    obtain ⟨fs, hr, hrun, hended, hW, hsame⟩ := X0.leave (v := some (.int (1 : Int32))) (fun h => by rw [Bd.returns] at h; cases h)
    refine ⟨_, _, pre111 _ ?_, hrun, hended, _, _, rfl, ?_, ⟨_, rfl⟩, hW, hsame.mono (by decide) (by decide)⟩
    · show Steps p.tables e below (s₁.setTop (mkF m 7 #[.val (.ref b1), .val (.int (2 : Int32)), .val (.int (Int32.ofNat n1))] [(.int (1 : Int32))])) _
      exact retN X0 hx (t := .boolean) Bd.returns (by simp) (hb hby d4_7) hr
    · show Qrok2 Z b1 m1 n1 kA kr f1 h0 n0 _ s₁.heap _
      rw [e0]
      exact ⟨rfl, N0, rfl⟩
theorem ef_0 (m : MethodId) (p1 : Int32) (p2 : Int32) (p3 : Int32) (p4 : Int32) (p5 : Int32) (p6 : Int32) : entryFrame m #[(.int p1), (.int p2), (.int p3), (.int p4), (.int p5), (.int p6)] maxLocals = mkF m 0 #[.val (.int p1), .val (.int p2), .val (.int p3), .val (.int p4), .val (.int p5), .val (.int p6), .unset, .unset, .unset, .unset, .unset, .unset, .unset, .unset, .unset, .unset, .unset, .unset, .unset, .unset, .unset, .unset, .unset, .unset, .unset] [] := by first | (simp [entryFrame, mkF, argsToLocals, Value.category, maxLocals]; done) | rfl
theorem pd__28II_29V : parseMethodDescriptor "(II)V" = some ⟨[.int, .int], none⟩ := by decide +kernel
theorem pd__28IID_29V : parseMethodDescriptor "(IID)V" = some ⟨[.int, .int, .double], none⟩ := by decide +kernel
theorem pd__28_29_5b_5bD : parseMethodDescriptor "()[[D" = some ⟨[], some (.array (.array .double))⟩ := by decide +kernel
theorem pd__28_5b_5bDII_29Z : parseMethodDescriptor "([[DII)Z" = some ⟨[(.array (.array .double)), .int, .int], some .boolean⟩ := by decide +kernel
theorem pd__28II_29D : parseMethodDescriptor "(II)D" = some ⟨[.int, .int], some .double⟩ := by decide +kernel
def Q0 (Z : State) (p1 : Int32) (p2 : Int32) (p3 : Int32) (p4 : Int32) (p5 : Int32) (p6 : Int32) (h0 : Heap) (n0 : Nat) (v : Option Value) (h : Heap) (L : List Loc) : Prop := v = some (.int (1 : Int32)) ∧ Fr n0 L
set_option maxRecDepth 65536 in
set_option maxHeartbeats 40000000 in
theorem rm0 (l : Launch) (Z : State) (a0 : Array Value) (hw : ∀ d ∈ tables_1, d.before a0 Z = true) (ws : List Jvm.Cond) (p1 : Int32) (p2 : Int32) (p3 : Int32) (p4 : Int32) (p5 : Int32) (p6 : Int32) (h0 : Heap) (n0 : Nat) (Z0 : n0 ≤ h0.size) :
    MetFree l x (head1 (Jvm.Cond.code x code maxLocals ret :: ws) room_1) (fun a U => a = #[(.int p1), (.int p2), (.int p3), (.int p4), (.int p5), (.int p6)] ∧ Z.Warmed39 U.vm ∧ U.heap = h0) (fun _ _ _ _ _ => True) (fun _ U o U' => ∃ v L, o = .returned v ∧ Q0 Z p1 p2 p3 p4 p5 p6 h0 n0 v U'.heap L ∧ FrameEnd U o U' L 24 128) := by
  refine MetFree.of_bodySF (plainFor_of_name pn_com_example_orthoform_kernel_DenseMatrixToArrayPinLaw) hisR ?_
  intro p e s m args below meth c s₁ Bd hml0 hP hK
  obtain ⟨rfl, hZ, hh⟩ := hP
  have hx := Bd.exec
  have hby := Bd.bytes
  have hml : c.maxLocals = 25 := hml0
  have hown : s.vm.findClass "com/example/orthoform/kernel/DenseMatrixToArrayPinLaw" = some m.cls := findClass_of_methodNamed Bd.named
  have hnm := (name_of_methodNamed Bd.named Bd.method).1
  have X0 : Stand p l e room_1 s m #[(.int p1), (.int p2), (.int p3), (.int p4), (.int p5), (.int p6)] below meth c s₁ [] 0 0 := Stand.of_body Bd
  have e0 : s₁.heap = h0 := by rw [← hh, Bd.state]; rfl
  have N0 := Fr.nil n0
  have pre0 : ∀ t_, Steps p.tables e below (s₁.setTop (mkF m 0 #[.val (.int p1), .val (.int p2), .val (.int p3), .val (.int p4), .val (.int p5), .val (.int p6), .unset, .unset, .unset, .unset, .unset, .unset, .unset, .unset, .unset, .unset, .unset, .unset, .unset, .unset, .unset, .unset, .unset, .unset, .unset] [])) t_ → Steps p.tables e below (s₁.setTop (entryFrame m #[(.int p1), (.int p2), (.int p3), (.int p4), (.int p5), (.int p6)] maxLocals)) t_ := fun t_ k => castTop (ef_0 m p1 p2 p3 p4 p5 p6) k
  obtain ⟨mr, hm, em⟩ := own_and3 p1
  obtain ⟨nc, hn, en⟩ := own_and3 (p1.toUInt32 >>> ((2 : Int32) &&& 31).toUInt32).toInt32
  have hmn := own_m9 hm hn
  obtain ⟨T101, h101, X101, e101, E101, A101, D101, -, st101⟩ := newO X0 hx hZ hown (hw _ (List.mem_of_getElem? (i := 0) rfl)) (hw _ (List.mem_of_getElem? (i := 1) rfl)) (hw _ (List.mem_of_getElem? (i := 2) rfl)) e0 (g := (mkF m 12 #[.val (.int p1), .val (.int p2), .val (.int p3), .val (.int p4), .val (.int p5), .val (.int p6), .val (.int (Int32.ofNat mr)), .val (.int (Int32.ofNat nc)), .unset, .unset, .unset, .unset, .unset, .unset, .unset, .unset, .unset, .unset, .unset, .unset, .unset, .unset, .unset, .unset, .unset] [])) rfl (hb hby at_12) (by decide) (by decide)
  obtain ⟨b101, g101⟩ : ∃ z, z = h0.size := ⟨_, rfl⟩
  rw [← g101] at A101 D101 st101
  have g_b101 : n0 ≤ b101 := Nat.le_trans Z0 (Nat.le_of_eq g101.symm)
  have z102 : n0 ≤ h101.size := Nat.le_trans Z0 E101.1
  have F101_11 : Fld Z h101 b101 "com/example/orthoform/kernel/DenseMatrix" "rows" "I" (.int (0 : Int32)) := D101 (Or.inr (hw _ (List.mem_of_getElem? (i := 11) rfl))) (ty := .int) (by decide)
  have F101_13 : Fld Z h101 b101 "com/example/orthoform/kernel/DenseMatrix" "columns" "I" (.int (0 : Int32)) := D101 (Or.inr (hw _ (List.mem_of_getElem? (i := 13) rfl))) (ty := .int) (by decide)
  have F101_16 : Fld Z h101 b101 "com/example/orthoform/kernel/DenseMatrix" "entries" "[D" .null := D101 (Or.inr (hw _ (List.mem_of_getElem? (i := 16) rfl))) (ty := (.array .double)) (by decide)
  obtain ⟨_, _, ⟨T103, L103, kk103, nn103⟩, -, X103, ⟨Lc103, hQ103, l103, y103, z103⟩, st103⟩ := X101.specialBack hx (y := (⟨"com/example/orthoform/kernel/DenseMatrix", "<init>", "(II)V"⟩ : MethodName)) rfl hown (mvT hZ (hw _ (List.mem_of_getElem? (i := 3) rfl))) (mvT hZ (hw _ (List.mem_of_getElem? (i := 4) rfl))) (mvT hZ (hw _ (List.mem_of_getElem? (i := 5) rfl))) (by decide) (backOf (W := 1) (rmctor l Z a0 hw [] b101 mr nc h101 n0 z102 A101 F101_11 F101_13 F101_16 g_b101 (hm) (hn)) hZ (hw _ (List.mem_of_getElem? (i := 5) rfl)) (hw _ (List.mem_of_getElem? (i := 2) rfl)) (by decide) (by decide)) (g := (mkF m 20 #[.val (.int p1), .val (.int p2), .val (.int p3), .val (.int p4), .val (.int p5), .val (.int p6), .val (.int (Int32.ofNat mr)), .val (.int (Int32.ofNat nc)), .unset, .unset, .unset, .unset, .unset, .unset, .unset, .unset, .unset, .unset, .unset, .unset, .unset, .unset, .unset, .unset, .unset] [(.int (Int32.ofNat nc)), (.int (Int32.ofNat mr)), (.ref b101), (.ref b101)])) rfl (by rw [hml]; rfl) (Steps.refl _) (a := b101) (argsL := [(.int (Int32.ofNat mr)), (.int (Int32.ofNat nc))]) (rest := [(.ref b101)]) (lenOf pd__28II_29V rfl) rfl (by show 2 * 0 + _ ≤ _; exact Nat.le_of_eq rfl) (hb hby at_20) (fun _ _ => ⟨rfl, e101, (by decide : 1 + 1 ≤ _), (by decide : 3 + 9 ≤ _)⟩)
  dsimp only [Pt.U, Pt.locs, Pt.cells, Pt.slots] at X103 l103 y103 z103 st103 hQ103
  subst l103 y103 z103
  obtain ⟨b_103, kb_103, rfl, N103q, K103, x103_0, x103_1, x103_2, x103_3, x103_4⟩ := hQ103
  have N103 := Fr.app N0 N103q
  have ne104 : b101 ≠ b_103 := Nat.ne_of_lt (Nat.lt_of_lt_of_le A101.lt x103_0)
  have g_b_103 : n0 ≤ b_103 := Nat.le_trans z102 x103_0
  have z105 : n0 ≤ T103.heap.size := Nat.le_trans z102 K103.1
  have pre106 : ∀ t_, Steps p.tables e below (T103.setTop (mkF m 27 #[.val (.int p1), .val (.int p2), .val (.int p3), .val (.int p4), .val (.int p5), .val (.int p6), .val (.int (Int32.ofNat mr)), .val (.int (Int32.ofNat nc)), .val (.ref b101), .unset, .unset, .unset, .unset, .unset, .unset, .unset, .unset, .unset, .unset, .unset, .unset, .unset, .unset, .unset, .unset] [(.int (Int32.ofNat mr))])) t_ → Steps p.tables e below (s₁.setTop (entryFrame m #[(.int p1), (.int p2), (.int p3), (.int p4), (.int p5), (.int p6)] maxLocals)) t_ := fun t_ kt => pre0 t_ (by
      show Steps p.tables e below (s₁.setTop (mkF m 0 #[.val (.int p1), .val (.int p2), .val (.int p3), .val (.int p4), .val (.int p5), .val (.int p6), .unset, .unset, .unset, .unset, .unset, .unset, .unset, .unset, .unset, .unset, .unset, .unset, .unset, .unset, .unset, .unset, .unset, .unset, .unset] [])) _
      refine XS.iloadN X0.here hx rfl (hb hby at_0) rfl ?_
      show Steps p.tables e below (s₁.setTop (mkF m 1 #[.val (.int p1), .val (.int p2), .val (.int p3), .val (.int p4), .val (.int p5), .val (.int p6), .unset, .unset, .unset, .unset, .unset, .unset, .unset, .unset, .unset, .unset, .unset, .unset, .unset, .unset, .unset, .unset, .unset, .unset, .unset] [(.int p1)])) _
      refine XS.iconst X0.here hx rfl (hb hby at_1) ?_
      show Steps p.tables e below (s₁.setTop (mkF m 2 #[.val (.int p1), .val (.int p2), .val (.int p3), .val (.int p4), .val (.int p5), .val (.int p6), .unset, .unset, .unset, .unset, .unset, .unset, .unset, .unset, .unset, .unset, .unset, .unset, .unset, .unset, .unset, .unset, .unset, .unset, .unset] [(.int (3 : Int32)), (.int p1)])) _
      refine XS.iand X0.here hx rfl (hb hby at_2) rfl ?_
      show Steps p.tables e below (s₁.setTop (mkF m 3 #[.val (.int p1), .val (.int p2), .val (.int p3), .val (.int p4), .val (.int p5), .val (.int p6), .unset, .unset, .unset, .unset, .unset, .unset, .unset, .unset, .unset, .unset, .unset, .unset, .unset, .unset, .unset, .unset, .unset, .unset, .unset] [(.int (p1 &&& (3 : Int32)))])) _
      rw [em]
      show Steps p.tables e below (s₁.setTop (mkF m 3 #[.val (.int p1), .val (.int p2), .val (.int p3), .val (.int p4), .val (.int p5), .val (.int p6), .unset, .unset, .unset, .unset, .unset, .unset, .unset, .unset, .unset, .unset, .unset, .unset, .unset, .unset, .unset, .unset, .unset, .unset, .unset] [(.int (Int32.ofNat mr))])) _
      refine XS.istore X0.here hx rfl (hb hby at_3) rfl (l' := #[.val (.int p1), .val (.int p2), .val (.int p3), .val (.int p4), .val (.int p5), .val (.int p6), .val (.int (Int32.ofNat mr)), .unset, .unset, .unset, .unset, .unset, .unset, .unset, .unset, .unset, .unset, .unset, .unset, .unset, .unset, .unset, .unset, .unset, .unset]) rfl ?_
      show Steps p.tables e below (s₁.setTop (mkF m 5 #[.val (.int p1), .val (.int p2), .val (.int p3), .val (.int p4), .val (.int p5), .val (.int p6), .val (.int (Int32.ofNat mr)), .unset, .unset, .unset, .unset, .unset, .unset, .unset, .unset, .unset, .unset, .unset, .unset, .unset, .unset, .unset, .unset, .unset, .unset] [])) _
      refine XS.iloadN X0.here hx rfl (hb hby at_5) rfl ?_
      show Steps p.tables e below (s₁.setTop (mkF m 6 #[.val (.int p1), .val (.int p2), .val (.int p3), .val (.int p4), .val (.int p5), .val (.int p6), .val (.int (Int32.ofNat mr)), .unset, .unset, .unset, .unset, .unset, .unset, .unset, .unset, .unset, .unset, .unset, .unset, .unset, .unset, .unset, .unset, .unset, .unset] [(.int p1)])) _
      refine XS.iconst X0.here hx rfl (hb hby at_6) ?_
      show Steps p.tables e below (s₁.setTop (mkF m 7 #[.val (.int p1), .val (.int p2), .val (.int p3), .val (.int p4), .val (.int p5), .val (.int p6), .val (.int (Int32.ofNat mr)), .unset, .unset, .unset, .unset, .unset, .unset, .unset, .unset, .unset, .unset, .unset, .unset, .unset, .unset, .unset, .unset, .unset, .unset] [(.int (2 : Int32)), (.int p1)])) _
      refine XS.iushr X0.here hx rfl (hb hby at_7) rfl ?_
      show Steps p.tables e below (s₁.setTop (mkF m 8 #[.val (.int p1), .val (.int p2), .val (.int p3), .val (.int p4), .val (.int p5), .val (.int p6), .val (.int (Int32.ofNat mr)), .unset, .unset, .unset, .unset, .unset, .unset, .unset, .unset, .unset, .unset, .unset, .unset, .unset, .unset, .unset, .unset, .unset, .unset] [(.int ((p1.toUInt32 >>> ((2 : Int32) &&& 31).toUInt32).toInt32))])) _
      refine XS.iconst X0.here hx rfl (hb hby at_8) ?_
      show Steps p.tables e below (s₁.setTop (mkF m 9 #[.val (.int p1), .val (.int p2), .val (.int p3), .val (.int p4), .val (.int p5), .val (.int p6), .val (.int (Int32.ofNat mr)), .unset, .unset, .unset, .unset, .unset, .unset, .unset, .unset, .unset, .unset, .unset, .unset, .unset, .unset, .unset, .unset, .unset, .unset] [(.int (3 : Int32)), (.int ((p1.toUInt32 >>> ((2 : Int32) &&& 31).toUInt32).toInt32))])) _
      refine XS.iand X0.here hx rfl (hb hby at_9) rfl ?_
      show Steps p.tables e below (s₁.setTop (mkF m 10 #[.val (.int p1), .val (.int p2), .val (.int p3), .val (.int p4), .val (.int p5), .val (.int p6), .val (.int (Int32.ofNat mr)), .unset, .unset, .unset, .unset, .unset, .unset, .unset, .unset, .unset, .unset, .unset, .unset, .unset, .unset, .unset, .unset, .unset, .unset] [(.int (((p1.toUInt32 >>> ((2 : Int32) &&& 31).toUInt32).toInt32) &&& (3 : Int32)))])) _
      rw [en]
      show Steps p.tables e below (s₁.setTop (mkF m 10 #[.val (.int p1), .val (.int p2), .val (.int p3), .val (.int p4), .val (.int p5), .val (.int p6), .val (.int (Int32.ofNat mr)), .unset, .unset, .unset, .unset, .unset, .unset, .unset, .unset, .unset, .unset, .unset, .unset, .unset, .unset, .unset, .unset, .unset, .unset] [(.int (Int32.ofNat nc))])) _
      refine XS.istore X0.here hx rfl (hb hby at_10) rfl (l' := #[.val (.int p1), .val (.int p2), .val (.int p3), .val (.int p4), .val (.int p5), .val (.int p6), .val (.int (Int32.ofNat mr)), .val (.int (Int32.ofNat nc)), .unset, .unset, .unset, .unset, .unset, .unset, .unset, .unset, .unset, .unset, .unset, .unset, .unset, .unset, .unset, .unset, .unset]) rfl ?_
      show Steps p.tables e below (s₁.setTop (mkF m 12 #[.val (.int p1), .val (.int p2), .val (.int p3), .val (.int p4), .val (.int p5), .val (.int p6), .val (.int (Int32.ofNat mr)), .val (.int (Int32.ofNat nc)), .unset, .unset, .unset, .unset, .unset, .unset, .unset, .unset, .unset, .unset, .unset, .unset, .unset, .unset, .unset, .unset, .unset] [])) _
      refine st101 _ ?_
      show Steps p.tables e below (T101.setTop (mkF m 15 #[.val (.int p1), .val (.int p2), .val (.int p3), .val (.int p4), .val (.int p5), .val (.int p6), .val (.int (Int32.ofNat mr)), .val (.int (Int32.ofNat nc)), .unset, .unset, .unset, .unset, .unset, .unset, .unset, .unset, .unset, .unset, .unset, .unset, .unset, .unset, .unset, .unset, .unset] [(.ref b101)])) _
      refine XS.dup X101.here hx rfl (hb hby at_15) rfl rfl ?_
      show Steps p.tables e below (T101.setTop (mkF m 16 #[.val (.int p1), .val (.int p2), .val (.int p3), .val (.int p4), .val (.int p5), .val (.int p6), .val (.int (Int32.ofNat mr)), .val (.int (Int32.ofNat nc)), .unset, .unset, .unset, .unset, .unset, .unset, .unset, .unset, .unset, .unset, .unset, .unset, .unset, .unset, .unset, .unset, .unset] [(.ref b101), (.ref b101)])) _
      refine XS.iload X101.here hx rfl (hb hby at_16) rfl ?_
      show Steps p.tables e below (T101.setTop (mkF m 18 #[.val (.int p1), .val (.int p2), .val (.int p3), .val (.int p4), .val (.int p5), .val (.int p6), .val (.int (Int32.ofNat mr)), .val (.int (Int32.ofNat nc)), .unset, .unset, .unset, .unset, .unset, .unset, .unset, .unset, .unset, .unset, .unset, .unset, .unset, .unset, .unset, .unset, .unset] [(.int (Int32.ofNat mr)), (.ref b101), (.ref b101)])) _
      refine XS.iload X101.here hx rfl (hb hby at_18) rfl ?_
      show Steps p.tables e below (T101.setTop (mkF m 20 #[.val (.int p1), .val (.int p2), .val (.int p3), .val (.int p4), .val (.int p5), .val (.int p6), .val (.int (Int32.ofNat mr)), .val (.int (Int32.ofNat nc)), .unset, .unset, .unset, .unset, .unset, .unset, .unset, .unset, .unset, .unset, .unset, .unset, .unset, .unset, .unset, .unset, .unset] [(.int (Int32.ofNat nc)), (.int (Int32.ofNat mr)), (.ref b101), (.ref b101)])) _
      refine st103.trans ?_
      show Steps p.tables e below (T103.setTop (mkF m 23 #[.val (.int p1), .val (.int p2), .val (.int p3), .val (.int p4), .val (.int p5), .val (.int p6), .val (.int (Int32.ofNat mr)), .val (.int (Int32.ofNat nc)), .unset, .unset, .unset, .unset, .unset, .unset, .unset, .unset, .unset, .unset, .unset, .unset, .unset, .unset, .unset, .unset, .unset] [(.ref b101)])) _
      refine XS.astore X103.here hx rfl (hb hby at_23) rfl rfl (l' := #[.val (.int p1), .val (.int p2), .val (.int p3), .val (.int p4), .val (.int p5), .val (.int p6), .val (.int (Int32.ofNat mr)), .val (.int (Int32.ofNat nc)), .val (.ref b101), .unset, .unset, .unset, .unset, .unset, .unset, .unset, .unset, .unset, .unset, .unset, .unset, .unset, .unset, .unset, .unset]) rfl ?_
      show Steps p.tables e below (T103.setTop (mkF m 25 #[.val (.int p1), .val (.int p2), .val (.int p3), .val (.int p4), .val (.int p5), .val (.int p6), .val (.int (Int32.ofNat mr)), .val (.int (Int32.ofNat nc)), .val (.ref b101), .unset, .unset, .unset, .unset, .unset, .unset, .unset, .unset, .unset, .unset, .unset, .unset, .unset, .unset, .unset, .unset] [])) _
      refine XS.iload X103.here hx rfl (hb hby at_25) rfl ?_
      exact kt)
  by_cases hA : (0 : Int32) < (Int32.ofNat mr)
  · skip
    have pre107 : ∀ t_, Steps p.tables e below (T103.setTop (mkF m 32 #[.val (.int p1), .val (.int p2), .val (.int p3), .val (.int p4), .val (.int p5), .val (.int p6), .val (.int (Int32.ofNat mr)), .val (.int (Int32.ofNat nc)), .val (.ref b101), .unset, .unset, .unset, .unset, .unset, .unset, .unset, .unset, .unset, .unset, .unset, .unset, .unset, .unset, .unset, .unset] [(.int (Int32.ofNat nc))])) t_ → Steps p.tables e below (s₁.setTop (entryFrame m #[(.int p1), (.int p2), (.int p3), (.int p4), (.int p5), (.int p6)] maxLocals)) t_ := fun t_ kt => pre106 t_ (by
        show Steps p.tables e below (T103.setTop (mkF m 27 #[.val (.int p1), .val (.int p2), .val (.int p3), .val (.int p4), .val (.int p5), .val (.int p6), .val (.int (Int32.ofNat mr)), .val (.int (Int32.ofNat nc)), .val (.ref b101), .unset, .unset, .unset, .unset, .unset, .unset, .unset, .unset, .unset, .unset, .unset, .unset, .unset, .unset, .unset, .unset] [(.int (Int32.ofNat mr))])) _
        refine XS.ifNo X103.here hx rfl (hb hby at_27) rfl ((if0 _ _).trans (tlt (hA : (0 : Int32) < (Int32.ofNat mr))).2.2.2) ?_
        show Steps p.tables e below (T103.setTop (mkF m 30 #[.val (.int p1), .val (.int p2), .val (.int p3), .val (.int p4), .val (.int p5), .val (.int p6), .val (.int (Int32.ofNat mr)), .val (.int (Int32.ofNat nc)), .val (.ref b101), .unset, .unset, .unset, .unset, .unset, .unset, .unset, .unset, .unset, .unset, .unset, .unset, .unset, .unset, .unset, .unset] [])) _
        refine XS.iload X103.here hx rfl (hb hby at_30) rfl ?_
        exact kt)
    by_cases hB : (0 : Int32) < (Int32.ofNat nc)
    · skip
      have hm0 : ¬ mr = 0 := fun q => absurd hA (nlt32 (i := 0) (n := mr) (by omega) (by omega))
      have hn0 : ¬ nc = 0 := fun q => absurd hB (nlt32 (i := 0) (n := nc) (by omega) (by omega))
      obtain ⟨ri, hri, eri⟩ := own_rem (own_nneg p2) hm0 (by omega)
      obtain ⟨rj, hrj, erj⟩ := own_rem (own_nnu p2) hn0 (by omega)
      obtain ⟨si, hsi, esi⟩ := own_rem (own_nneg p3) hm0 (by omega)
      obtain ⟨sj, hsj, esj⟩ := own_rem (own_nnu p3) hn0 (by omega)
      obtain ⟨ti, hti, eti⟩ := own_rem (own_nneg p4) hm0 (by omega)
      obtain ⟨tj, htj, etj⟩ := own_rem (own_nnu p4) hn0 (by omega)
      have f108 : Exa Z T103.heap b101 "com/example/orthoform/kernel/DenseMatrix" := (A101.keep K103)
      obtain ⟨cq109, kq109, q109a, q109b, q109c⟩ := isOf hZ rfl f108
      obtain ⟨_, _, ⟨T109, L109, kk109, nn109⟩, -, X109, ⟨Lc109, hQ109, l109, y109, z109⟩, st109⟩ := X103.virtualBack hx (y := (⟨"com/example/orthoform/kernel/DenseMatrix", "set", "(IID)V"⟩ : MethodName)) (z := (⟨"com/example/orthoform/kernel/DenseMatrix", "set", "(IID)V"⟩ : MethodName)) hown (mvT hZ (hw _ (List.mem_of_getElem? (i := 29) rfl))) (mvT hZ (hw _ (List.mem_of_getElem? (i := 30) rfl))) (notFace_of_selects (args := #[]) (mvT hZ (hw _ (List.mem_of_getElem? (i := 32) rfl)))) (mvT hZ (hw _ (List.mem_of_getElem? (i := 32) rfl))) (mvT hZ (hw _ (List.mem_of_getElem? (i := 31) rfl))) (by decide) (backOf (W := 0) (rmset l Z a0 hw [] b101 (FP.i2d p5) mr nc ri rj b_103 kb_103 (fun _ => (0 : UInt64)) T103.heap n0 z105 f108 x103_1 x103_2 x103_3 x103_4 g_b_103 (hm) (hn) (hri) (hrj)) hZ (hw _ (List.mem_of_getElem? (i := 33) rfl)) (hw _ (List.mem_of_getElem? (i := 2) rfl)) (by decide) (by decide)) q109a q109c (g := (mkF m 137 #[.val (.int p1), .val (.int p2), .val (.int p3), .val (.int p4), .val (.int p5), .val (.int p6), .val (.int (Int32.ofNat mr)), .val (.int (Int32.ofNat nc)), .val (.ref b101), .val (.int (1 : Int32)), .val (.int (Int32.ofNat ri)), .val (.int (Int32.ofNat rj)), .val (.int (Int32.ofNat si)), .val (.int (Int32.ofNat sj)), .val (.int (Int32.ofNat ti)), .val (.int (Int32.ofNat tj)), .val (.double (FP.i2d p5)), .second, .val (.double (FP.i2d p6)), .second, .unset, .unset, .unset, .unset, .unset] [(.double (FP.i2d p5)), (.int (Int32.ofNat rj)), (.int (Int32.ofNat ri)), (.ref b101)])) rfl (by rw [hml]; rfl) (Steps.refl _) (argsL := [(.int (Int32.ofNat ri)), (.int (Int32.ofNat rj)), (.double (FP.i2d p5))]) (rest := []) (lenOf pd__28IID_29V rfl) rfl (by show 2 * 0 + _ ≤ _; exact Nat.le_of_eq rfl) (hb hby at_137) (fun _ _ => ⟨rfl, rfl, (by decide : 2 + 0 ≤ _), (by decide : 12 + 0 ≤ _)⟩)
      dsimp only [Pt.U, Pt.locs, Pt.cells, Pt.slots] at X109 l109 y109 z109 st109 hQ109
      subst l109 y109 z109
      obtain ⟨rfl, N109q, K109, x109_0⟩ := hQ109
      have N109 := Fr.app N103 N109q
      have z110 : n0 ≤ T109.heap.size := Nat.le_trans z105 K109.1
      have f111 : Exa Z T109.heap b101 "com/example/orthoform/kernel/DenseMatrix" := (f108.keep K109)
      have f112 : Fld Z T109.heap b101 "com/example/orthoform/kernel/DenseMatrix" "rows" "I" (.int (Int32.ofNat mr)) := (x103_1.keep K109 (own_nmc ne104 own_nm0))
      have f113 : Fld Z T109.heap b101 "com/example/orthoform/kernel/DenseMatrix" "columns" "I" (.int (Int32.ofNat nc)) := (x103_2.keep K109 (own_nmc ne104 own_nm0))
      have f114 : Fld Z T109.heap b101 "com/example/orthoform/kernel/DenseMatrix" "entries" "[D" (.ref b_103) := (x103_3.keep K109 (own_nmc ne104 own_nm0))
      obtain ⟨cq115, kq115, q115a, q115b, q115c⟩ := isOf hZ rfl f111
      obtain ⟨_, _, ⟨T115, L115, kk115, nn115⟩, -, X115, ⟨Lc115, hQ115, l115, y115, z115⟩, st115⟩ := X109.virtualBack hx (y := (⟨"com/example/orthoform/kernel/DenseMatrix", "set", "(IID)V"⟩ : MethodName)) (z := (⟨"com/example/orthoform/kernel/DenseMatrix", "set", "(IID)V"⟩ : MethodName)) hown (mvT hZ (hw _ (List.mem_of_getElem? (i := 29) rfl))) (mvT hZ (hw _ (List.mem_of_getElem? (i := 30) rfl))) (notFace_of_selects (args := #[]) (mvT hZ (hw _ (List.mem_of_getElem? (i := 32) rfl)))) (mvT hZ (hw _ (List.mem_of_getElem? (i := 32) rfl))) (mvT hZ (hw _ (List.mem_of_getElem? (i := 31) rfl))) (by decide) (backOf (W := 0) (rmset l Z a0 hw [] b101 (FP.i2d p6) mr nc si sj b_103 kb_103 (own_upd (fun _ => (0 : UInt64)) (ri + rj * mr) (FP.i2d p5)) T109.heap n0 z110 f111 f112 f113 f114 x109_0 g_b_103 (hm) (hn) (hsi) (hsj)) hZ (hw _ (List.mem_of_getElem? (i := 33) rfl)) (hw _ (List.mem_of_getElem? (i := 2) rfl)) (by decide) (by decide)) q115a q115c (g := (mkF m 148 #[.val (.int p1), .val (.int p2), .val (.int p3), .val (.int p4), .val (.int p5), .val (.int p6), .val (.int (Int32.ofNat mr)), .val (.int (Int32.ofNat nc)), .val (.ref b101), .val (.int (1 : Int32)), .val (.int (Int32.ofNat ri)), .val (.int (Int32.ofNat rj)), .val (.int (Int32.ofNat si)), .val (.int (Int32.ofNat sj)), .val (.int (Int32.ofNat ti)), .val (.int (Int32.ofNat tj)), .val (.double (FP.i2d p5)), .second, .val (.double (FP.i2d p6)), .second, .unset, .unset, .unset, .unset, .unset] [(.double (FP.i2d p6)), (.int (Int32.ofNat sj)), (.int (Int32.ofNat si)), (.ref b101)])) rfl (by rw [hml]; rfl) (Steps.refl _) (argsL := [(.int (Int32.ofNat si)), (.int (Int32.ofNat sj)), (.double (FP.i2d p6))]) (rest := []) (lenOf pd__28IID_29V rfl) rfl (by show 2 * 0 + _ ≤ _; exact Nat.le_of_eq rfl) (hb hby at_148) (fun _ _ => ⟨rfl, rfl, (by decide : 2 + 0 ≤ _), (by decide : 12 + 0 ≤ _)⟩)
      dsimp only [Pt.U, Pt.locs, Pt.cells, Pt.slots] at X115 l115 y115 z115 st115 hQ115
      subst l115 y115 z115
      obtain ⟨rfl, N115q, K115, x115_0⟩ := hQ115
      have N115 := Fr.app N109 N115q
      have z116 : n0 ≤ T115.heap.size := Nat.le_trans z110 K115.1
      have f117 : Exa Z T115.heap b101 "com/example/orthoform/kernel/DenseMatrix" := (f111.keep K115)
      have f118 : Fld Z T115.heap b101 "com/example/orthoform/kernel/DenseMatrix" "rows" "I" (.int (Int32.ofNat mr)) := (f112.keep K115 (own_nmc ne104 own_nm0))
      have f119 : Fld Z T115.heap b101 "com/example/orthoform/kernel/DenseMatrix" "columns" "I" (.int (Int32.ofNat nc)) := (f113.keep K115 (own_nmc ne104 own_nm0))
      have f120 : Fld Z T115.heap b101 "com/example/orthoform/kernel/DenseMatrix" "entries" "[D" (.ref b_103) := (f114.keep K115 (own_nmc ne104 own_nm0))
      obtain ⟨cq121, kq121, q121a, q121b, q121c⟩ := isOf hZ rfl f117
      obtain ⟨_, _, ⟨T121, L121, kk121, nn121⟩, -, X121, ⟨Lc121, hQ121, l121, y121, z121⟩, st121⟩ := X115.virtualBack hx (y := (⟨"com/example/orthoform/kernel/DenseMatrix", "toArray", "()[[D"⟩ : MethodName)) (z := (⟨"com/example/orthoform/kernel/DenseMatrix", "toArray", "()[[D"⟩ : MethodName)) hown (mvT hZ (hw _ (List.mem_of_getElem? (i := 17) rfl))) (mvT hZ (hw _ (List.mem_of_getElem? (i := 18) rfl))) (notFace_of_selects (args := #[]) (mvT hZ (hw _ (List.mem_of_getElem? (i := 20) rfl)))) (mvT hZ (hw _ (List.mem_of_getElem? (i := 20) rfl))) (mvT hZ (hw _ (List.mem_of_getElem? (i := 19) rfl))) (by decide) (backOf (W := 0) (rmtoA l Z a0 hw [] b101 mr nc b_103 kb_103 (own_upd (own_upd (fun _ => (0 : UInt64)) (ri + rj * mr) (FP.i2d p5)) (si + sj * mr) (FP.i2d p6)) T115.heap n0 z116 f117 f118 f119 f120 x115_0 (hm) (hn)) hZ (hw _ (List.mem_of_getElem? (i := 21) rfl)) (hw _ (List.mem_of_getElem? (i := 2) rfl)) (by decide) (by decide)) q121a q121c (g := (mkF m 153 #[.val (.int p1), .val (.int p2), .val (.int p3), .val (.int p4), .val (.int p5), .val (.int p6), .val (.int (Int32.ofNat mr)), .val (.int (Int32.ofNat nc)), .val (.ref b101), .val (.int (1 : Int32)), .val (.int (Int32.ofNat ri)), .val (.int (Int32.ofNat rj)), .val (.int (Int32.ofNat si)), .val (.int (Int32.ofNat sj)), .val (.int (Int32.ofNat ti)), .val (.int (Int32.ofNat tj)), .val (.double (FP.i2d p5)), .second, .val (.double (FP.i2d p6)), .second, .unset, .unset, .unset, .unset, .unset] [(.ref b101)])) rfl (by rw [hml]; rfl) (Steps.refl _) (argsL := []) (rest := []) (lenOf pd__28_29_5b_5bD rfl) rfl (by show 2 * 0 + _ ≤ _; exact Nat.le_of_eq rfl) (hb hby at_153) (fun _ _ => ⟨rfl, rfl, (by decide : 2 + 4 ≤ _), (by decide : 12 + 12 ≤ _)⟩)
      dsimp only [Pt.U, Pt.locs, Pt.cells, Pt.slots] at X121 l121 y121 z121 st121 hQ121
      subst l121 y121 z121
      obtain ⟨b_121, kA_121, kr_121, rfl, N121q, K121, x121_0, x121_1, x121_2⟩ := hQ121
      have N121 := Fr.app N115 N121q
      have ne122 : b101 ≠ b_121 := Nat.ne_of_lt (Nat.lt_of_lt_of_le f117.lt x121_0)
      have ne123 : b_103 ≠ b_121 := Nat.ne_of_lt (Nat.lt_of_lt_of_le x115_0.lt x121_0)
      have g_b_121 : n0 ≤ b_121 := Nat.le_trans z116 x121_0
      have z124 : n0 ≤ T121.heap.size := Nat.le_trans z116 K121.1
      obtain ⟨cl125, Ar125, Q125, S125, M125, H125, G125⟩ := id x121_1
      obtain ⟨_, _, ⟨T126, L126, kk126, nn126⟩, -, X126, ⟨Lc126, hQ126, l126, y126, z126⟩, st126⟩ := Jvm.LawKit.callS X121 hx (y := (⟨"com/example/orthoform/kernel/DenseMatrixToArrayPinLaw", "rowOk", "([[DII)Z"⟩ : MethodName)) hown (mvT hZ (hw _ (List.mem_of_getElem? (i := 24) rfl))) (mvT hZ (hw _ (List.mem_of_getElem? (i := 25) rfl))) (mvT hZ (hw _ (List.mem_of_getElem? (i := 26) rfl))) (mvT hZ (hw _ (List.mem_of_getElem? (i := 27) rfl))) (by decide) (backOf (W := 0) (rmrok0 l Z a0 hw [] b_121 mr nc kA_121 kr_121 (own_upd (own_upd (fun _ => (0 : UInt64)) (ri + rj * mr) (FP.i2d p5)) (si + sj * mr) (FP.i2d p6)) T121.heap n0 z124 x121_1 (hm) (hn) (x121_2)) hZ (hw _ (List.mem_of_getElem? (i := 27) rfl)) (hw _ (List.mem_of_getElem? (i := 26) rfl)) (by decide) (by decide)) (g := (mkF m 178 #[.val (.int p1), .val (.int p2), .val (.int p3), .val (.int p4), .val (.int p5), .val (.int p6), .val (.int (Int32.ofNat mr)), .val (.int (Int32.ofNat nc)), .val (.ref b101), .val (.int (1 : Int32)), .val (.int (Int32.ofNat ri)), .val (.int (Int32.ofNat rj)), .val (.int (Int32.ofNat si)), .val (.int (Int32.ofNat sj)), .val (.int (Int32.ofNat ti)), .val (.int (Int32.ofNat tj)), .val (.double (FP.i2d p5)), .second, .val (.double (FP.i2d p6)), .second, .val (.ref b_121), .unset, .unset, .unset, .unset] [(.int (Int32.ofNat nc)), (.int (0 : Int32)), (.ref b_121)])) rfl (by rw [hml]; rfl) (argsL := [(.ref b_121), (.int (0 : Int32)), (.int (Int32.ofNat nc))]) (rest := []) (lenOf pd__28_5b_5bDII_29Z rfl) rfl (by show 2 * 0 + _ ≤ _; exact Nat.le_of_eq rfl) (hb hby at_178) (fun _ _ => ⟨rfl, rfl, (by decide : 6 + 0 ≤ _), (by decide : 24 + 0 ≤ _)⟩)
      dsimp only [Pt.U, Pt.locs, Pt.cells, Pt.slots] at X126 l126 y126 z126 st126 hQ126
      subst l126 y126 z126
      obtain ⟨rfl, N126q, e126⟩ := hQ126
      have N126 := Fr.app N121 N126q
      obtain ⟨_, _, ⟨T127, L127, kk127, nn127⟩, -, X127, ⟨Lc127, hQ127, l127, y127, z127⟩, st127⟩ := Jvm.LawKit.callS X126 hx (y := (⟨"com/example/orthoform/kernel/DenseMatrixToArrayPinLaw", "rowOk", "([[DII)Z"⟩ : MethodName)) hown (mvT hZ (hw _ (List.mem_of_getElem? (i := 24) rfl))) (mvT hZ (hw _ (List.mem_of_getElem? (i := 25) rfl))) (mvT hZ (hw _ (List.mem_of_getElem? (i := 26) rfl))) (mvT hZ (hw _ (List.mem_of_getElem? (i := 27) rfl))) (by decide) (backOf (W := 0) (rmrok1 l Z a0 hw [] b_121 mr nc kA_121 kr_121 (own_upd (own_upd (fun _ => (0 : UInt64)) (ri + rj * mr) (FP.i2d p5)) (si + sj * mr) (FP.i2d p6)) T121.heap n0 z124 x121_1 (hm) (hn) (x121_2)) hZ (hw _ (List.mem_of_getElem? (i := 27) rfl)) (hw _ (List.mem_of_getElem? (i := 26) rfl)) (by decide) (by decide)) (g := (mkF m 189 #[.val (.int p1), .val (.int p2), .val (.int p3), .val (.int p4), .val (.int p5), .val (.int p6), .val (.int (Int32.ofNat mr)), .val (.int (Int32.ofNat nc)), .val (.ref b101), .val (.int (1 : Int32)), .val (.int (Int32.ofNat ri)), .val (.int (Int32.ofNat rj)), .val (.int (Int32.ofNat si)), .val (.int (Int32.ofNat sj)), .val (.int (Int32.ofNat ti)), .val (.int (Int32.ofNat tj)), .val (.double (FP.i2d p5)), .second, .val (.double (FP.i2d p6)), .second, .val (.ref b_121), .unset, .unset, .unset, .unset] [(.int (Int32.ofNat nc)), (.int (1 : Int32)), (.ref b_121)])) rfl (by rw [hml]; rfl) (argsL := [(.ref b_121), (.int (1 : Int32)), (.int (Int32.ofNat nc))]) (rest := []) (lenOf pd__28_5b_5bDII_29Z rfl) rfl (by show 2 * 0 + _ ≤ _; exact Nat.le_of_eq rfl) (hb hby at_189) (fun _ _ => ⟨rfl, e126, (by decide : 6 + 0 ≤ _), (by decide : 24 + 0 ≤ _)⟩)
      dsimp only [Pt.U, Pt.locs, Pt.cells, Pt.slots] at X127 l127 y127 z127 st127 hQ127
      subst l127 y127 z127
      obtain ⟨rfl, N127q, e127⟩ := hQ127
      have N127 := Fr.app N126 N127q
      obtain ⟨_, _, ⟨T128, L128, kk128, nn128⟩, -, X128, ⟨Lc128, hQ128, l128, y128, z128⟩, st128⟩ := Jvm.LawKit.callS X127 hx (y := (⟨"com/example/orthoform/kernel/DenseMatrixToArrayPinLaw", "rowOk", "([[DII)Z"⟩ : MethodName)) hown (mvT hZ (hw _ (List.mem_of_getElem? (i := 24) rfl))) (mvT hZ (hw _ (List.mem_of_getElem? (i := 25) rfl))) (mvT hZ (hw _ (List.mem_of_getElem? (i := 26) rfl))) (mvT hZ (hw _ (List.mem_of_getElem? (i := 27) rfl))) (by decide) (backOf (W := 0) (rmrok2 l Z a0 hw [] b_121 mr nc kA_121 kr_121 (own_upd (own_upd (fun _ => (0 : UInt64)) (ri + rj * mr) (FP.i2d p5)) (si + sj * mr) (FP.i2d p6)) T121.heap n0 z124 x121_1 (hm) (hn) (x121_2)) hZ (hw _ (List.mem_of_getElem? (i := 27) rfl)) (hw _ (List.mem_of_getElem? (i := 26) rfl)) (by decide) (by decide)) (g := (mkF m 200 #[.val (.int p1), .val (.int p2), .val (.int p3), .val (.int p4), .val (.int p5), .val (.int p6), .val (.int (Int32.ofNat mr)), .val (.int (Int32.ofNat nc)), .val (.ref b101), .val (.int (1 : Int32)), .val (.int (Int32.ofNat ri)), .val (.int (Int32.ofNat rj)), .val (.int (Int32.ofNat si)), .val (.int (Int32.ofNat sj)), .val (.int (Int32.ofNat ti)), .val (.int (Int32.ofNat tj)), .val (.double (FP.i2d p5)), .second, .val (.double (FP.i2d p6)), .second, .val (.ref b_121), .unset, .unset, .unset, .unset] [(.int (Int32.ofNat nc)), (.int (2 : Int32)), (.ref b_121)])) rfl (by rw [hml]; rfl) (argsL := [(.ref b_121), (.int (2 : Int32)), (.int (Int32.ofNat nc))]) (rest := []) (lenOf pd__28_5b_5bDII_29Z rfl) rfl (by show 2 * 0 + _ ≤ _; exact Nat.le_of_eq rfl) (hb hby at_200) (fun _ _ => ⟨rfl, e127, (by decide : 6 + 0 ≤ _), (by decide : 24 + 0 ≤ _)⟩)
      dsimp only [Pt.U, Pt.locs, Pt.cells, Pt.slots] at X128 l128 y128 z128 st128 hQ128
      subst l128 y128 z128
      obtain ⟨rfl, N128q, e128⟩ := hQ128
      have N128 := Fr.app N127 N128q
      have pre129 : ∀ t_, Steps p.tables e below (T128.setTop (mkF m 219 #[.val (.int p1), .val (.int p2), .val (.int p3), .val (.int p4), .val (.int p5), .val (.int p6), .val (.int (Int32.ofNat mr)), .val (.int (Int32.ofNat nc)), .val (.ref b101), .val (.int (1 : Int32)), .val (.int (Int32.ofNat ri)), .val (.int (Int32.ofNat rj)), .val (.int (Int32.ofNat si)), .val (.int (Int32.ofNat sj)), .val (.int (Int32.ofNat ti)), .val (.int (Int32.ofNat tj)), .val (.double (FP.i2d p5)), .second, .val (.double (FP.i2d p6)), .second, .val (.ref b_121), .unset, .unset, .unset, .unset] [(.int (Int32.ofNat si)), (.int (Int32.ofNat ti))])) t_ → Steps p.tables e below (s₁.setTop (entryFrame m #[(.int p1), (.int p2), (.int p3), (.int p4), (.int p5), (.int p6)] maxLocals)) t_ := fun t_ kt => pre107 t_ (by
          show Steps p.tables e below (T103.setTop (mkF m 32 #[.val (.int p1), .val (.int p2), .val (.int p3), .val (.int p4), .val (.int p5), .val (.int p6), .val (.int (Int32.ofNat mr)), .val (.int (Int32.ofNat nc)), .val (.ref b101), .unset, .unset, .unset, .unset, .unset, .unset, .unset, .unset, .unset, .unset, .unset, .unset, .unset, .unset, .unset, .unset] [(.int (Int32.ofNat nc))])) _
          refine XS.ifNo X103.here hx rfl (hb hby at_32) rfl ((if0 _ _).trans (tlt (hB : (0 : Int32) < (Int32.ofNat nc))).2.2.2) ?_
          show Steps p.tables e below (T103.setTop (mkF m 35 #[.val (.int p1), .val (.int p2), .val (.int p3), .val (.int p4), .val (.int p5), .val (.int p6), .val (.int (Int32.ofNat mr)), .val (.int (Int32.ofNat nc)), .val (.ref b101), .unset, .unset, .unset, .unset, .unset, .unset, .unset, .unset, .unset, .unset, .unset, .unset, .unset, .unset, .unset, .unset] [])) _
          refine XS.iconst X103.here hx rfl (hb hby at_35) ?_
          show Steps p.tables e below (T103.setTop (mkF m 36 #[.val (.int p1), .val (.int p2), .val (.int p3), .val (.int p4), .val (.int p5), .val (.int p6), .val (.int (Int32.ofNat mr)), .val (.int (Int32.ofNat nc)), .val (.ref b101), .unset, .unset, .unset, .unset, .unset, .unset, .unset, .unset, .unset, .unset, .unset, .unset, .unset, .unset, .unset, .unset] [(.int (1 : Int32))])) _
          refine XS.goto X103.here hx rfl (pc0 := 36) (pc' := 40) rfl (hb hby at_36) (by decide) (by decide) ?_
          show Steps p.tables e below (T103.setTop (mkF m 40 #[.val (.int p1), .val (.int p2), .val (.int p3), .val (.int p4), .val (.int p5), .val (.int p6), .val (.int (Int32.ofNat mr)), .val (.int (Int32.ofNat nc)), .val (.ref b101), .unset, .unset, .unset, .unset, .unset, .unset, .unset, .unset, .unset, .unset, .unset, .unset, .unset, .unset, .unset, .unset] [(.int (1 : Int32))])) _
          refine XS.istore X103.here hx rfl (hb hby at_40) rfl (l' := #[.val (.int p1), .val (.int p2), .val (.int p3), .val (.int p4), .val (.int p5), .val (.int p6), .val (.int (Int32.ofNat mr)), .val (.int (Int32.ofNat nc)), .val (.ref b101), .val (.int (1 : Int32)), .unset, .unset, .unset, .unset, .unset, .unset, .unset, .unset, .unset, .unset, .unset, .unset, .unset, .unset, .unset]) rfl ?_
          show Steps p.tables e below (T103.setTop (mkF m 42 #[.val (.int p1), .val (.int p2), .val (.int p3), .val (.int p4), .val (.int p5), .val (.int p6), .val (.int (Int32.ofNat mr)), .val (.int (Int32.ofNat nc)), .val (.ref b101), .val (.int (1 : Int32)), .unset, .unset, .unset, .unset, .unset, .unset, .unset, .unset, .unset, .unset, .unset, .unset, .unset, .unset, .unset] [])) _
          refine XS.iconst X103.here hx rfl (hb hby at_42) ?_
          show Steps p.tables e below (T103.setTop (mkF m 43 #[.val (.int p1), .val (.int p2), .val (.int p3), .val (.int p4), .val (.int p5), .val (.int p6), .val (.int (Int32.ofNat mr)), .val (.int (Int32.ofNat nc)), .val (.ref b101), .val (.int (1 : Int32)), .unset, .unset, .unset, .unset, .unset, .unset, .unset, .unset, .unset, .unset, .unset, .unset, .unset, .unset, .unset] [(.int (0 : Int32))])) _
          refine XS.istore X103.here hx rfl (hb hby at_43) rfl (l' := #[.val (.int p1), .val (.int p2), .val (.int p3), .val (.int p4), .val (.int p5), .val (.int p6), .val (.int (Int32.ofNat mr)), .val (.int (Int32.ofNat nc)), .val (.ref b101), .val (.int (1 : Int32)), .val (.int (0 : Int32)), .unset, .unset, .unset, .unset, .unset, .unset, .unset, .unset, .unset, .unset, .unset, .unset, .unset, .unset]) rfl ?_
          show Steps p.tables e below (T103.setTop (mkF m 45 #[.val (.int p1), .val (.int p2), .val (.int p3), .val (.int p4), .val (.int p5), .val (.int p6), .val (.int (Int32.ofNat mr)), .val (.int (Int32.ofNat nc)), .val (.ref b101), .val (.int (1 : Int32)), .val (.int (0 : Int32)), .unset, .unset, .unset, .unset, .unset, .unset, .unset, .unset, .unset, .unset, .unset, .unset, .unset, .unset] [])) _
          refine XS.iconst X103.here hx rfl (hb hby at_45) ?_
          show Steps p.tables e below (T103.setTop (mkF m 46 #[.val (.int p1), .val (.int p2), .val (.int p3), .val (.int p4), .val (.int p5), .val (.int p6), .val (.int (Int32.ofNat mr)), .val (.int (Int32.ofNat nc)), .val (.ref b101), .val (.int (1 : Int32)), .val (.int (0 : Int32)), .unset, .unset, .unset, .unset, .unset, .unset, .unset, .unset, .unset, .unset, .unset, .unset, .unset, .unset] [(.int (0 : Int32))])) _
          refine XS.istore X103.here hx rfl (hb hby at_46) rfl (l' := #[.val (.int p1), .val (.int p2), .val (.int p3), .val (.int p4), .val (.int p5), .val (.int p6), .val (.int (Int32.ofNat mr)), .val (.int (Int32.ofNat nc)), .val (.ref b101), .val (.int (1 : Int32)), .val (.int (0 : Int32)), .val (.int (0 : Int32)), .unset, .unset, .unset, .unset, .unset, .unset, .unset, .unset, .unset, .unset, .unset, .unset, .unset]) rfl ?_
          show Steps p.tables e below (T103.setTop (mkF m 48 #[.val (.int p1), .val (.int p2), .val (.int p3), .val (.int p4), .val (.int p5), .val (.int p6), .val (.int (Int32.ofNat mr)), .val (.int (Int32.ofNat nc)), .val (.ref b101), .val (.int (1 : Int32)), .val (.int (0 : Int32)), .val (.int (0 : Int32)), .unset, .unset, .unset, .unset, .unset, .unset, .unset, .unset, .unset, .unset, .unset, .unset, .unset] [])) _
          refine XS.iconst X103.here hx rfl (hb hby at_48) ?_
          show Steps p.tables e below (T103.setTop (mkF m 49 #[.val (.int p1), .val (.int p2), .val (.int p3), .val (.int p4), .val (.int p5), .val (.int p6), .val (.int (Int32.ofNat mr)), .val (.int (Int32.ofNat nc)), .val (.ref b101), .val (.int (1 : Int32)), .val (.int (0 : Int32)), .val (.int (0 : Int32)), .unset, .unset, .unset, .unset, .unset, .unset, .unset, .unset, .unset, .unset, .unset, .unset, .unset] [(.int (0 : Int32))])) _
          refine XS.istore X103.here hx rfl (hb hby at_49) rfl (l' := #[.val (.int p1), .val (.int p2), .val (.int p3), .val (.int p4), .val (.int p5), .val (.int p6), .val (.int (Int32.ofNat mr)), .val (.int (Int32.ofNat nc)), .val (.ref b101), .val (.int (1 : Int32)), .val (.int (0 : Int32)), .val (.int (0 : Int32)), .val (.int (0 : Int32)), .unset, .unset, .unset, .unset, .unset, .unset, .unset, .unset, .unset, .unset, .unset, .unset]) rfl ?_
          show Steps p.tables e below (T103.setTop (mkF m 51 #[.val (.int p1), .val (.int p2), .val (.int p3), .val (.int p4), .val (.int p5), .val (.int p6), .val (.int (Int32.ofNat mr)), .val (.int (Int32.ofNat nc)), .val (.ref b101), .val (.int (1 : Int32)), .val (.int (0 : Int32)), .val (.int (0 : Int32)), .val (.int (0 : Int32)), .unset, .unset, .unset, .unset, .unset, .unset, .unset, .unset, .unset, .unset, .unset, .unset] [])) _
          refine XS.iconst X103.here hx rfl (hb hby at_51) ?_
          show Steps p.tables e below (T103.setTop (mkF m 52 #[.val (.int p1), .val (.int p2), .val (.int p3), .val (.int p4), .val (.int p5), .val (.int p6), .val (.int (Int32.ofNat mr)), .val (.int (Int32.ofNat nc)), .val (.ref b101), .val (.int (1 : Int32)), .val (.int (0 : Int32)), .val (.int (0 : Int32)), .val (.int (0 : Int32)), .unset, .unset, .unset, .unset, .unset, .unset, .unset, .unset, .unset, .unset, .unset, .unset] [(.int (0 : Int32))])) _
          refine XS.istore X103.here hx rfl (hb hby at_52) rfl (l' := #[.val (.int p1), .val (.int p2), .val (.int p3), .val (.int p4), .val (.int p5), .val (.int p6), .val (.int (Int32.ofNat mr)), .val (.int (Int32.ofNat nc)), .val (.ref b101), .val (.int (1 : Int32)), .val (.int (0 : Int32)), .val (.int (0 : Int32)), .val (.int (0 : Int32)), .val (.int (0 : Int32)), .unset, .unset, .unset, .unset, .unset, .unset, .unset, .unset, .unset, .unset, .unset]) rfl ?_
          show Steps p.tables e below (T103.setTop (mkF m 54 #[.val (.int p1), .val (.int p2), .val (.int p3), .val (.int p4), .val (.int p5), .val (.int p6), .val (.int (Int32.ofNat mr)), .val (.int (Int32.ofNat nc)), .val (.ref b101), .val (.int (1 : Int32)), .val (.int (0 : Int32)), .val (.int (0 : Int32)), .val (.int (0 : Int32)), .val (.int (0 : Int32)), .unset, .unset, .unset, .unset, .unset, .unset, .unset, .unset, .unset, .unset, .unset] [])) _
          refine XS.iconst X103.here hx rfl (hb hby at_54) ?_
          show Steps p.tables e below (T103.setTop (mkF m 55 #[.val (.int p1), .val (.int p2), .val (.int p3), .val (.int p4), .val (.int p5), .val (.int p6), .val (.int (Int32.ofNat mr)), .val (.int (Int32.ofNat nc)), .val (.ref b101), .val (.int (1 : Int32)), .val (.int (0 : Int32)), .val (.int (0 : Int32)), .val (.int (0 : Int32)), .val (.int (0 : Int32)), .unset, .unset, .unset, .unset, .unset, .unset, .unset, .unset, .unset, .unset, .unset] [(.int (0 : Int32))])) _
          refine XS.istore X103.here hx rfl (hb hby at_55) rfl (l' := #[.val (.int p1), .val (.int p2), .val (.int p3), .val (.int p4), .val (.int p5), .val (.int p6), .val (.int (Int32.ofNat mr)), .val (.int (Int32.ofNat nc)), .val (.ref b101), .val (.int (1 : Int32)), .val (.int (0 : Int32)), .val (.int (0 : Int32)), .val (.int (0 : Int32)), .val (.int (0 : Int32)), .val (.int (0 : Int32)), .unset, .unset, .unset, .unset, .unset, .unset, .unset, .unset, .unset, .unset]) rfl ?_
          show Steps p.tables e below (T103.setTop (mkF m 57 #[.val (.int p1), .val (.int p2), .val (.int p3), .val (.int p4), .val (.int p5), .val (.int p6), .val (.int (Int32.ofNat mr)), .val (.int (Int32.ofNat nc)), .val (.ref b101), .val (.int (1 : Int32)), .val (.int (0 : Int32)), .val (.int (0 : Int32)), .val (.int (0 : Int32)), .val (.int (0 : Int32)), .val (.int (0 : Int32)), .unset, .unset, .unset, .unset, .unset, .unset, .unset, .unset, .unset, .unset] [])) _
          refine XS.iconst X103.here hx rfl (hb hby at_57) ?_
          show Steps p.tables e below (T103.setTop (mkF m 58 #[.val (.int p1), .val (.int p2), .val (.int p3), .val (.int p4), .val (.int p5), .val (.int p6), .val (.int (Int32.ofNat mr)), .val (.int (Int32.ofNat nc)), .val (.ref b101), .val (.int (1 : Int32)), .val (.int (0 : Int32)), .val (.int (0 : Int32)), .val (.int (0 : Int32)), .val (.int (0 : Int32)), .val (.int (0 : Int32)), .unset, .unset, .unset, .unset, .unset, .unset, .unset, .unset, .unset, .unset] [(.int (0 : Int32))])) _
          refine XS.istore X103.here hx rfl (hb hby at_58) rfl (l' := #[.val (.int p1), .val (.int p2), .val (.int p3), .val (.int p4), .val (.int p5), .val (.int p6), .val (.int (Int32.ofNat mr)), .val (.int (Int32.ofNat nc)), .val (.ref b101), .val (.int (1 : Int32)), .val (.int (0 : Int32)), .val (.int (0 : Int32)), .val (.int (0 : Int32)), .val (.int (0 : Int32)), .val (.int (0 : Int32)), .val (.int (0 : Int32)), .unset, .unset, .unset, .unset, .unset, .unset, .unset, .unset, .unset]) rfl ?_
          show Steps p.tables e below (T103.setTop (mkF m 60 #[.val (.int p1), .val (.int p2), .val (.int p3), .val (.int p4), .val (.int p5), .val (.int p6), .val (.int (Int32.ofNat mr)), .val (.int (Int32.ofNat nc)), .val (.ref b101), .val (.int (1 : Int32)), .val (.int (0 : Int32)), .val (.int (0 : Int32)), .val (.int (0 : Int32)), .val (.int (0 : Int32)), .val (.int (0 : Int32)), .val (.int (0 : Int32)), .unset, .unset, .unset, .unset, .unset, .unset, .unset, .unset, .unset] [])) _
          refine XS.iload X103.here hx rfl (hb hby at_60) rfl ?_
          show Steps p.tables e below (T103.setTop (mkF m 62 #[.val (.int p1), .val (.int p2), .val (.int p3), .val (.int p4), .val (.int p5), .val (.int p6), .val (.int (Int32.ofNat mr)), .val (.int (Int32.ofNat nc)), .val (.ref b101), .val (.int (1 : Int32)), .val (.int (0 : Int32)), .val (.int (0 : Int32)), .val (.int (0 : Int32)), .val (.int (0 : Int32)), .val (.int (0 : Int32)), .val (.int (0 : Int32)), .unset, .unset, .unset, .unset, .unset, .unset, .unset, .unset, .unset] [(.int p5)])) _
          refine XS.i2dS X103.here hx rfl (hb hby at_62) rfl (v := (FP.i2d p5)) rfl ?_
          show Steps p.tables e below (T103.setTop (mkF m 63 #[.val (.int p1), .val (.int p2), .val (.int p3), .val (.int p4), .val (.int p5), .val (.int p6), .val (.int (Int32.ofNat mr)), .val (.int (Int32.ofNat nc)), .val (.ref b101), .val (.int (1 : Int32)), .val (.int (0 : Int32)), .val (.int (0 : Int32)), .val (.int (0 : Int32)), .val (.int (0 : Int32)), .val (.int (0 : Int32)), .val (.int (0 : Int32)), .unset, .unset, .unset, .unset, .unset, .unset, .unset, .unset, .unset] [(.double (FP.i2d p5))])) _
          refine XS.dstore X103.here hx rfl (hb hby at_63) rfl (l' := #[.val (.int p1), .val (.int p2), .val (.int p3), .val (.int p4), .val (.int p5), .val (.int p6), .val (.int (Int32.ofNat mr)), .val (.int (Int32.ofNat nc)), .val (.ref b101), .val (.int (1 : Int32)), .val (.int (0 : Int32)), .val (.int (0 : Int32)), .val (.int (0 : Int32)), .val (.int (0 : Int32)), .val (.int (0 : Int32)), .val (.int (0 : Int32)), .val (.double (FP.i2d p5)), .second, .unset, .unset, .unset, .unset, .unset, .unset, .unset]) rfl ?_
          show Steps p.tables e below (T103.setTop (mkF m 65 #[.val (.int p1), .val (.int p2), .val (.int p3), .val (.int p4), .val (.int p5), .val (.int p6), .val (.int (Int32.ofNat mr)), .val (.int (Int32.ofNat nc)), .val (.ref b101), .val (.int (1 : Int32)), .val (.int (0 : Int32)), .val (.int (0 : Int32)), .val (.int (0 : Int32)), .val (.int (0 : Int32)), .val (.int (0 : Int32)), .val (.int (0 : Int32)), .val (.double (FP.i2d p5)), .second, .unset, .unset, .unset, .unset, .unset, .unset, .unset] [])) _
          refine XS.iload X103.here hx rfl (hb hby at_65) rfl ?_
          show Steps p.tables e below (T103.setTop (mkF m 67 #[.val (.int p1), .val (.int p2), .val (.int p3), .val (.int p4), .val (.int p5), .val (.int p6), .val (.int (Int32.ofNat mr)), .val (.int (Int32.ofNat nc)), .val (.ref b101), .val (.int (1 : Int32)), .val (.int (0 : Int32)), .val (.int (0 : Int32)), .val (.int (0 : Int32)), .val (.int (0 : Int32)), .val (.int (0 : Int32)), .val (.int (0 : Int32)), .val (.double (FP.i2d p5)), .second, .unset, .unset, .unset, .unset, .unset, .unset, .unset] [(.int p6)])) _
          refine XS.i2dS X103.here hx rfl (hb hby at_67) rfl (v := (FP.i2d p6)) rfl ?_
          show Steps p.tables e below (T103.setTop (mkF m 68 #[.val (.int p1), .val (.int p2), .val (.int p3), .val (.int p4), .val (.int p5), .val (.int p6), .val (.int (Int32.ofNat mr)), .val (.int (Int32.ofNat nc)), .val (.ref b101), .val (.int (1 : Int32)), .val (.int (0 : Int32)), .val (.int (0 : Int32)), .val (.int (0 : Int32)), .val (.int (0 : Int32)), .val (.int (0 : Int32)), .val (.int (0 : Int32)), .val (.double (FP.i2d p5)), .second, .unset, .unset, .unset, .unset, .unset, .unset, .unset] [(.double (FP.i2d p6))])) _
          refine XS.dstore X103.here hx rfl (hb hby at_68) rfl (l' := #[.val (.int p1), .val (.int p2), .val (.int p3), .val (.int p4), .val (.int p5), .val (.int p6), .val (.int (Int32.ofNat mr)), .val (.int (Int32.ofNat nc)), .val (.ref b101), .val (.int (1 : Int32)), .val (.int (0 : Int32)), .val (.int (0 : Int32)), .val (.int (0 : Int32)), .val (.int (0 : Int32)), .val (.int (0 : Int32)), .val (.int (0 : Int32)), .val (.double (FP.i2d p5)), .second, .val (.double (FP.i2d p6)), .second, .unset, .unset, .unset, .unset, .unset]) rfl ?_
          show Steps p.tables e below (T103.setTop (mkF m 70 #[.val (.int p1), .val (.int p2), .val (.int p3), .val (.int p4), .val (.int p5), .val (.int p6), .val (.int (Int32.ofNat mr)), .val (.int (Int32.ofNat nc)), .val (.ref b101), .val (.int (1 : Int32)), .val (.int (0 : Int32)), .val (.int (0 : Int32)), .val (.int (0 : Int32)), .val (.int (0 : Int32)), .val (.int (0 : Int32)), .val (.int (0 : Int32)), .val (.double (FP.i2d p5)), .second, .val (.double (FP.i2d p6)), .second, .unset, .unset, .unset, .unset, .unset] [])) _
          refine XS.iload X103.here hx rfl (hb hby at_70) rfl ?_
          show Steps p.tables e below (T103.setTop (mkF m 72 #[.val (.int p1), .val (.int p2), .val (.int p3), .val (.int p4), .val (.int p5), .val (.int p6), .val (.int (Int32.ofNat mr)), .val (.int (Int32.ofNat nc)), .val (.ref b101), .val (.int (1 : Int32)), .val (.int (0 : Int32)), .val (.int (0 : Int32)), .val (.int (0 : Int32)), .val (.int (0 : Int32)), .val (.int (0 : Int32)), .val (.int (0 : Int32)), .val (.double (FP.i2d p5)), .second, .val (.double (FP.i2d p6)), .second, .unset, .unset, .unset, .unset, .unset] [(.int (1 : Int32))])) _
          refine XS.ifNo X103.here hx rfl (hb hby at_72) rfl ((if0 _ _).trans (feq ((by decide) : ¬ ((1 : Int32) = (0 : Int32)))).1) ?_
          show Steps p.tables e below (T103.setTop (mkF m 75 #[.val (.int p1), .val (.int p2), .val (.int p3), .val (.int p4), .val (.int p5), .val (.int p6), .val (.int (Int32.ofNat mr)), .val (.int (Int32.ofNat nc)), .val (.ref b101), .val (.int (1 : Int32)), .val (.int (0 : Int32)), .val (.int (0 : Int32)), .val (.int (0 : Int32)), .val (.int (0 : Int32)), .val (.int (0 : Int32)), .val (.int (0 : Int32)), .val (.double (FP.i2d p5)), .second, .val (.double (FP.i2d p6)), .second, .unset, .unset, .unset, .unset, .unset] [])) _
          refine XS.iloadN X103.here hx rfl (hb hby at_75) rfl ?_
          show Steps p.tables e below (T103.setTop (mkF m 76 #[.val (.int p1), .val (.int p2), .val (.int p3), .val (.int p4), .val (.int p5), .val (.int p6), .val (.int (Int32.ofNat mr)), .val (.int (Int32.ofNat nc)), .val (.ref b101), .val (.int (1 : Int32)), .val (.int (0 : Int32)), .val (.int (0 : Int32)), .val (.int (0 : Int32)), .val (.int (0 : Int32)), .val (.int (0 : Int32)), .val (.int (0 : Int32)), .val (.double (FP.i2d p5)), .second, .val (.double (FP.i2d p6)), .second, .unset, .unset, .unset, .unset, .unset] [(.int p2)])) _
          refine X103.ldcInt hx hown (mvT hZ (hw _ (List.mem_of_getElem? (i := 28) rfl))) (g := (mkF m 76 #[.val (.int p1), .val (.int p2), .val (.int p3), .val (.int p4), .val (.int p5), .val (.int p6), .val (.int (Int32.ofNat mr)), .val (.int (Int32.ofNat nc)), .val (.ref b101), .val (.int (1 : Int32)), .val (.int (0 : Int32)), .val (.int (0 : Int32)), .val (.int (0 : Int32)), .val (.int (0 : Int32)), .val (.int (0 : Int32)), .val (.int (0 : Int32)), .val (.double (FP.i2d p5)), .second, .val (.double (FP.i2d p6)), .second, .unset, .unset, .unset, .unset, .unset] [(.int p2)])) rfl (hb hby at_76) _ ?_
          show Steps p.tables e below (T103.setTop (mkF m 78 #[.val (.int p1), .val (.int p2), .val (.int p3), .val (.int p4), .val (.int p5), .val (.int p6), .val (.int (Int32.ofNat mr)), .val (.int (Int32.ofNat nc)), .val (.ref b101), .val (.int (1 : Int32)), .val (.int (0 : Int32)), .val (.int (0 : Int32)), .val (.int (0 : Int32)), .val (.int (0 : Int32)), .val (.int (0 : Int32)), .val (.int (0 : Int32)), .val (.double (FP.i2d p5)), .second, .val (.double (FP.i2d p6)), .second, .unset, .unset, .unset, .unset, .unset] [(.int (65535 : Int32)), (.int p2)])) _
          refine XS.iand X103.here hx rfl (hb hby at_78) rfl ?_
          show Steps p.tables e below (T103.setTop (mkF m 79 #[.val (.int p1), .val (.int p2), .val (.int p3), .val (.int p4), .val (.int p5), .val (.int p6), .val (.int (Int32.ofNat mr)), .val (.int (Int32.ofNat nc)), .val (.ref b101), .val (.int (1 : Int32)), .val (.int (0 : Int32)), .val (.int (0 : Int32)), .val (.int (0 : Int32)), .val (.int (0 : Int32)), .val (.int (0 : Int32)), .val (.int (0 : Int32)), .val (.double (FP.i2d p5)), .second, .val (.double (FP.i2d p6)), .second, .unset, .unset, .unset, .unset, .unset] [(.int (p2 &&& (65535 : Int32)))])) _
          refine XS.iload X103.here hx rfl (hb hby at_79) rfl ?_
          show Steps p.tables e below (T103.setTop (mkF m 81 #[.val (.int p1), .val (.int p2), .val (.int p3), .val (.int p4), .val (.int p5), .val (.int p6), .val (.int (Int32.ofNat mr)), .val (.int (Int32.ofNat nc)), .val (.ref b101), .val (.int (1 : Int32)), .val (.int (0 : Int32)), .val (.int (0 : Int32)), .val (.int (0 : Int32)), .val (.int (0 : Int32)), .val (.int (0 : Int32)), .val (.int (0 : Int32)), .val (.double (FP.i2d p5)), .second, .val (.double (FP.i2d p6)), .second, .unset, .unset, .unset, .unset, .unset] [(.int (Int32.ofNat mr)), (.int (p2 &&& (65535 : Int32)))])) _
          refine iremM X103 hx rfl (hb hby at_81) rfl (own_nz hm0 (by omega)) ?_
          show Steps p.tables e below (T103.setTop (mkF m 82 #[.val (.int p1), .val (.int p2), .val (.int p3), .val (.int p4), .val (.int p5), .val (.int p6), .val (.int (Int32.ofNat mr)), .val (.int (Int32.ofNat nc)), .val (.ref b101), .val (.int (1 : Int32)), .val (.int (0 : Int32)), .val (.int (0 : Int32)), .val (.int (0 : Int32)), .val (.int (0 : Int32)), .val (.int (0 : Int32)), .val (.int (0 : Int32)), .val (.double (FP.i2d p5)), .second, .val (.double (FP.i2d p6)), .second, .unset, .unset, .unset, .unset, .unset] [(.int ((p2 &&& (65535 : Int32)) % (Int32.ofNat mr)))])) _
          rw [eri]
          show Steps p.tables e below (T103.setTop (mkF m 82 #[.val (.int p1), .val (.int p2), .val (.int p3), .val (.int p4), .val (.int p5), .val (.int p6), .val (.int (Int32.ofNat mr)), .val (.int (Int32.ofNat nc)), .val (.ref b101), .val (.int (1 : Int32)), .val (.int (0 : Int32)), .val (.int (0 : Int32)), .val (.int (0 : Int32)), .val (.int (0 : Int32)), .val (.int (0 : Int32)), .val (.int (0 : Int32)), .val (.double (FP.i2d p5)), .second, .val (.double (FP.i2d p6)), .second, .unset, .unset, .unset, .unset, .unset] [(.int (Int32.ofNat ri))])) _
          refine XS.istore X103.here hx rfl (hb hby at_82) rfl (l' := #[.val (.int p1), .val (.int p2), .val (.int p3), .val (.int p4), .val (.int p5), .val (.int p6), .val (.int (Int32.ofNat mr)), .val (.int (Int32.ofNat nc)), .val (.ref b101), .val (.int (1 : Int32)), .val (.int (Int32.ofNat ri)), .val (.int (0 : Int32)), .val (.int (0 : Int32)), .val (.int (0 : Int32)), .val (.int (0 : Int32)), .val (.int (0 : Int32)), .val (.double (FP.i2d p5)), .second, .val (.double (FP.i2d p6)), .second, .unset, .unset, .unset, .unset, .unset]) rfl ?_
          show Steps p.tables e below (T103.setTop (mkF m 84 #[.val (.int p1), .val (.int p2), .val (.int p3), .val (.int p4), .val (.int p5), .val (.int p6), .val (.int (Int32.ofNat mr)), .val (.int (Int32.ofNat nc)), .val (.ref b101), .val (.int (1 : Int32)), .val (.int (Int32.ofNat ri)), .val (.int (0 : Int32)), .val (.int (0 : Int32)), .val (.int (0 : Int32)), .val (.int (0 : Int32)), .val (.int (0 : Int32)), .val (.double (FP.i2d p5)), .second, .val (.double (FP.i2d p6)), .second, .unset, .unset, .unset, .unset, .unset] [])) _
          refine XS.iloadN X103.here hx rfl (hb hby at_84) rfl ?_
          show Steps p.tables e below (T103.setTop (mkF m 85 #[.val (.int p1), .val (.int p2), .val (.int p3), .val (.int p4), .val (.int p5), .val (.int p6), .val (.int (Int32.ofNat mr)), .val (.int (Int32.ofNat nc)), .val (.ref b101), .val (.int (1 : Int32)), .val (.int (Int32.ofNat ri)), .val (.int (0 : Int32)), .val (.int (0 : Int32)), .val (.int (0 : Int32)), .val (.int (0 : Int32)), .val (.int (0 : Int32)), .val (.double (FP.i2d p5)), .second, .val (.double (FP.i2d p6)), .second, .unset, .unset, .unset, .unset, .unset] [(.int p2)])) _
          refine XS.bipush X103.here hx rfl (hb hby at_85) ?_
          show Steps p.tables e below (T103.setTop (mkF m 87 #[.val (.int p1), .val (.int p2), .val (.int p3), .val (.int p4), .val (.int p5), .val (.int p6), .val (.int (Int32.ofNat mr)), .val (.int (Int32.ofNat nc)), .val (.ref b101), .val (.int (1 : Int32)), .val (.int (Int32.ofNat ri)), .val (.int (0 : Int32)), .val (.int (0 : Int32)), .val (.int (0 : Int32)), .val (.int (0 : Int32)), .val (.int (0 : Int32)), .val (.double (FP.i2d p5)), .second, .val (.double (FP.i2d p6)), .second, .unset, .unset, .unset, .unset, .unset] [(.int (16 : Int32)), (.int p2)])) _
          refine XS.iushr X103.here hx rfl (hb hby at_87) rfl ?_
          show Steps p.tables e below (T103.setTop (mkF m 88 #[.val (.int p1), .val (.int p2), .val (.int p3), .val (.int p4), .val (.int p5), .val (.int p6), .val (.int (Int32.ofNat mr)), .val (.int (Int32.ofNat nc)), .val (.ref b101), .val (.int (1 : Int32)), .val (.int (Int32.ofNat ri)), .val (.int (0 : Int32)), .val (.int (0 : Int32)), .val (.int (0 : Int32)), .val (.int (0 : Int32)), .val (.int (0 : Int32)), .val (.double (FP.i2d p5)), .second, .val (.double (FP.i2d p6)), .second, .unset, .unset, .unset, .unset, .unset] [(.int ((p2.toUInt32 >>> ((16 : Int32) &&& 31).toUInt32).toInt32))])) _
          refine XS.iload X103.here hx rfl (hb hby at_88) rfl ?_
          show Steps p.tables e below (T103.setTop (mkF m 90 #[.val (.int p1), .val (.int p2), .val (.int p3), .val (.int p4), .val (.int p5), .val (.int p6), .val (.int (Int32.ofNat mr)), .val (.int (Int32.ofNat nc)), .val (.ref b101), .val (.int (1 : Int32)), .val (.int (Int32.ofNat ri)), .val (.int (0 : Int32)), .val (.int (0 : Int32)), .val (.int (0 : Int32)), .val (.int (0 : Int32)), .val (.int (0 : Int32)), .val (.double (FP.i2d p5)), .second, .val (.double (FP.i2d p6)), .second, .unset, .unset, .unset, .unset, .unset] [(.int (Int32.ofNat nc)), (.int ((p2.toUInt32 >>> ((16 : Int32) &&& 31).toUInt32).toInt32))])) _
          refine iremM X103 hx rfl (hb hby at_90) rfl (own_nz hn0 (by omega)) ?_
          show Steps p.tables e below (T103.setTop (mkF m 91 #[.val (.int p1), .val (.int p2), .val (.int p3), .val (.int p4), .val (.int p5), .val (.int p6), .val (.int (Int32.ofNat mr)), .val (.int (Int32.ofNat nc)), .val (.ref b101), .val (.int (1 : Int32)), .val (.int (Int32.ofNat ri)), .val (.int (0 : Int32)), .val (.int (0 : Int32)), .val (.int (0 : Int32)), .val (.int (0 : Int32)), .val (.int (0 : Int32)), .val (.double (FP.i2d p5)), .second, .val (.double (FP.i2d p6)), .second, .unset, .unset, .unset, .unset, .unset] [(.int (((p2.toUInt32 >>> ((16 : Int32) &&& 31).toUInt32).toInt32) % (Int32.ofNat nc)))])) _
          rw [erj]
          show Steps p.tables e below (T103.setTop (mkF m 91 #[.val (.int p1), .val (.int p2), .val (.int p3), .val (.int p4), .val (.int p5), .val (.int p6), .val (.int (Int32.ofNat mr)), .val (.int (Int32.ofNat nc)), .val (.ref b101), .val (.int (1 : Int32)), .val (.int (Int32.ofNat ri)), .val (.int (0 : Int32)), .val (.int (0 : Int32)), .val (.int (0 : Int32)), .val (.int (0 : Int32)), .val (.int (0 : Int32)), .val (.double (FP.i2d p5)), .second, .val (.double (FP.i2d p6)), .second, .unset, .unset, .unset, .unset, .unset] [(.int (Int32.ofNat rj))])) _
          refine XS.istore X103.here hx rfl (hb hby at_91) rfl (l' := #[.val (.int p1), .val (.int p2), .val (.int p3), .val (.int p4), .val (.int p5), .val (.int p6), .val (.int (Int32.ofNat mr)), .val (.int (Int32.ofNat nc)), .val (.ref b101), .val (.int (1 : Int32)), .val (.int (Int32.ofNat ri)), .val (.int (Int32.ofNat rj)), .val (.int (0 : Int32)), .val (.int (0 : Int32)), .val (.int (0 : Int32)), .val (.int (0 : Int32)), .val (.double (FP.i2d p5)), .second, .val (.double (FP.i2d p6)), .second, .unset, .unset, .unset, .unset, .unset]) rfl ?_
          show Steps p.tables e below (T103.setTop (mkF m 93 #[.val (.int p1), .val (.int p2), .val (.int p3), .val (.int p4), .val (.int p5), .val (.int p6), .val (.int (Int32.ofNat mr)), .val (.int (Int32.ofNat nc)), .val (.ref b101), .val (.int (1 : Int32)), .val (.int (Int32.ofNat ri)), .val (.int (Int32.ofNat rj)), .val (.int (0 : Int32)), .val (.int (0 : Int32)), .val (.int (0 : Int32)), .val (.int (0 : Int32)), .val (.double (FP.i2d p5)), .second, .val (.double (FP.i2d p6)), .second, .unset, .unset, .unset, .unset, .unset] [])) _
          refine XS.iloadN X103.here hx rfl (hb hby at_93) rfl ?_
          show Steps p.tables e below (T103.setTop (mkF m 94 #[.val (.int p1), .val (.int p2), .val (.int p3), .val (.int p4), .val (.int p5), .val (.int p6), .val (.int (Int32.ofNat mr)), .val (.int (Int32.ofNat nc)), .val (.ref b101), .val (.int (1 : Int32)), .val (.int (Int32.ofNat ri)), .val (.int (Int32.ofNat rj)), .val (.int (0 : Int32)), .val (.int (0 : Int32)), .val (.int (0 : Int32)), .val (.int (0 : Int32)), .val (.double (FP.i2d p5)), .second, .val (.double (FP.i2d p6)), .second, .unset, .unset, .unset, .unset, .unset] [(.int p3)])) _
          refine X103.ldcInt hx hown (mvT hZ (hw _ (List.mem_of_getElem? (i := 28) rfl))) (g := (mkF m 94 #[.val (.int p1), .val (.int p2), .val (.int p3), .val (.int p4), .val (.int p5), .val (.int p6), .val (.int (Int32.ofNat mr)), .val (.int (Int32.ofNat nc)), .val (.ref b101), .val (.int (1 : Int32)), .val (.int (Int32.ofNat ri)), .val (.int (Int32.ofNat rj)), .val (.int (0 : Int32)), .val (.int (0 : Int32)), .val (.int (0 : Int32)), .val (.int (0 : Int32)), .val (.double (FP.i2d p5)), .second, .val (.double (FP.i2d p6)), .second, .unset, .unset, .unset, .unset, .unset] [(.int p3)])) rfl (hb hby at_94) _ ?_
          show Steps p.tables e below (T103.setTop (mkF m 96 #[.val (.int p1), .val (.int p2), .val (.int p3), .val (.int p4), .val (.int p5), .val (.int p6), .val (.int (Int32.ofNat mr)), .val (.int (Int32.ofNat nc)), .val (.ref b101), .val (.int (1 : Int32)), .val (.int (Int32.ofNat ri)), .val (.int (Int32.ofNat rj)), .val (.int (0 : Int32)), .val (.int (0 : Int32)), .val (.int (0 : Int32)), .val (.int (0 : Int32)), .val (.double (FP.i2d p5)), .second, .val (.double (FP.i2d p6)), .second, .unset, .unset, .unset, .unset, .unset] [(.int (65535 : Int32)), (.int p3)])) _
          refine XS.iand X103.here hx rfl (hb hby at_96) rfl ?_
          show Steps p.tables e below (T103.setTop (mkF m 97 #[.val (.int p1), .val (.int p2), .val (.int p3), .val (.int p4), .val (.int p5), .val (.int p6), .val (.int (Int32.ofNat mr)), .val (.int (Int32.ofNat nc)), .val (.ref b101), .val (.int (1 : Int32)), .val (.int (Int32.ofNat ri)), .val (.int (Int32.ofNat rj)), .val (.int (0 : Int32)), .val (.int (0 : Int32)), .val (.int (0 : Int32)), .val (.int (0 : Int32)), .val (.double (FP.i2d p5)), .second, .val (.double (FP.i2d p6)), .second, .unset, .unset, .unset, .unset, .unset] [(.int (p3 &&& (65535 : Int32)))])) _
          refine XS.iload X103.here hx rfl (hb hby at_97) rfl ?_
          show Steps p.tables e below (T103.setTop (mkF m 99 #[.val (.int p1), .val (.int p2), .val (.int p3), .val (.int p4), .val (.int p5), .val (.int p6), .val (.int (Int32.ofNat mr)), .val (.int (Int32.ofNat nc)), .val (.ref b101), .val (.int (1 : Int32)), .val (.int (Int32.ofNat ri)), .val (.int (Int32.ofNat rj)), .val (.int (0 : Int32)), .val (.int (0 : Int32)), .val (.int (0 : Int32)), .val (.int (0 : Int32)), .val (.double (FP.i2d p5)), .second, .val (.double (FP.i2d p6)), .second, .unset, .unset, .unset, .unset, .unset] [(.int (Int32.ofNat mr)), (.int (p3 &&& (65535 : Int32)))])) _
          refine iremM X103 hx rfl (hb hby at_99) rfl (own_nz hm0 (by omega)) ?_
          show Steps p.tables e below (T103.setTop (mkF m 100 #[.val (.int p1), .val (.int p2), .val (.int p3), .val (.int p4), .val (.int p5), .val (.int p6), .val (.int (Int32.ofNat mr)), .val (.int (Int32.ofNat nc)), .val (.ref b101), .val (.int (1 : Int32)), .val (.int (Int32.ofNat ri)), .val (.int (Int32.ofNat rj)), .val (.int (0 : Int32)), .val (.int (0 : Int32)), .val (.int (0 : Int32)), .val (.int (0 : Int32)), .val (.double (FP.i2d p5)), .second, .val (.double (FP.i2d p6)), .second, .unset, .unset, .unset, .unset, .unset] [(.int ((p3 &&& (65535 : Int32)) % (Int32.ofNat mr)))])) _
          rw [esi]
          show Steps p.tables e below (T103.setTop (mkF m 100 #[.val (.int p1), .val (.int p2), .val (.int p3), .val (.int p4), .val (.int p5), .val (.int p6), .val (.int (Int32.ofNat mr)), .val (.int (Int32.ofNat nc)), .val (.ref b101), .val (.int (1 : Int32)), .val (.int (Int32.ofNat ri)), .val (.int (Int32.ofNat rj)), .val (.int (0 : Int32)), .val (.int (0 : Int32)), .val (.int (0 : Int32)), .val (.int (0 : Int32)), .val (.double (FP.i2d p5)), .second, .val (.double (FP.i2d p6)), .second, .unset, .unset, .unset, .unset, .unset] [(.int (Int32.ofNat si))])) _
          refine XS.istore X103.here hx rfl (hb hby at_100) rfl (l' := #[.val (.int p1), .val (.int p2), .val (.int p3), .val (.int p4), .val (.int p5), .val (.int p6), .val (.int (Int32.ofNat mr)), .val (.int (Int32.ofNat nc)), .val (.ref b101), .val (.int (1 : Int32)), .val (.int (Int32.ofNat ri)), .val (.int (Int32.ofNat rj)), .val (.int (Int32.ofNat si)), .val (.int (0 : Int32)), .val (.int (0 : Int32)), .val (.int (0 : Int32)), .val (.double (FP.i2d p5)), .second, .val (.double (FP.i2d p6)), .second, .unset, .unset, .unset, .unset, .unset]) rfl ?_
          show Steps p.tables e below (T103.setTop (mkF m 102 #[.val (.int p1), .val (.int p2), .val (.int p3), .val (.int p4), .val (.int p5), .val (.int p6), .val (.int (Int32.ofNat mr)), .val (.int (Int32.ofNat nc)), .val (.ref b101), .val (.int (1 : Int32)), .val (.int (Int32.ofNat ri)), .val (.int (Int32.ofNat rj)), .val (.int (Int32.ofNat si)), .val (.int (0 : Int32)), .val (.int (0 : Int32)), .val (.int (0 : Int32)), .val (.double (FP.i2d p5)), .second, .val (.double (FP.i2d p6)), .second, .unset, .unset, .unset, .unset, .unset] [])) _
          refine XS.iloadN X103.here hx rfl (hb hby at_102) rfl ?_
          show Steps p.tables e below (T103.setTop (mkF m 103 #[.val (.int p1), .val (.int p2), .val (.int p3), .val (.int p4), .val (.int p5), .val (.int p6), .val (.int (Int32.ofNat mr)), .val (.int (Int32.ofNat nc)), .val (.ref b101), .val (.int (1 : Int32)), .val (.int (Int32.ofNat ri)), .val (.int (Int32.ofNat rj)), .val (.int (Int32.ofNat si)), .val (.int (0 : Int32)), .val (.int (0 : Int32)), .val (.int (0 : Int32)), .val (.double (FP.i2d p5)), .second, .val (.double (FP.i2d p6)), .second, .unset, .unset, .unset, .unset, .unset] [(.int p3)])) _
          refine XS.bipush X103.here hx rfl (hb hby at_103) ?_
          show Steps p.tables e below (T103.setTop (mkF m 105 #[.val (.int p1), .val (.int p2), .val (.int p3), .val (.int p4), .val (.int p5), .val (.int p6), .val (.int (Int32.ofNat mr)), .val (.int (Int32.ofNat nc)), .val (.ref b101), .val (.int (1 : Int32)), .val (.int (Int32.ofNat ri)), .val (.int (Int32.ofNat rj)), .val (.int (Int32.ofNat si)), .val (.int (0 : Int32)), .val (.int (0 : Int32)), .val (.int (0 : Int32)), .val (.double (FP.i2d p5)), .second, .val (.double (FP.i2d p6)), .second, .unset, .unset, .unset, .unset, .unset] [(.int (16 : Int32)), (.int p3)])) _
          refine XS.iushr X103.here hx rfl (hb hby at_105) rfl ?_
          show Steps p.tables e below (T103.setTop (mkF m 106 #[.val (.int p1), .val (.int p2), .val (.int p3), .val (.int p4), .val (.int p5), .val (.int p6), .val (.int (Int32.ofNat mr)), .val (.int (Int32.ofNat nc)), .val (.ref b101), .val (.int (1 : Int32)), .val (.int (Int32.ofNat ri)), .val (.int (Int32.ofNat rj)), .val (.int (Int32.ofNat si)), .val (.int (0 : Int32)), .val (.int (0 : Int32)), .val (.int (0 : Int32)), .val (.double (FP.i2d p5)), .second, .val (.double (FP.i2d p6)), .second, .unset, .unset, .unset, .unset, .unset] [(.int ((p3.toUInt32 >>> ((16 : Int32) &&& 31).toUInt32).toInt32))])) _
          refine XS.iload X103.here hx rfl (hb hby at_106) rfl ?_
          show Steps p.tables e below (T103.setTop (mkF m 108 #[.val (.int p1), .val (.int p2), .val (.int p3), .val (.int p4), .val (.int p5), .val (.int p6), .val (.int (Int32.ofNat mr)), .val (.int (Int32.ofNat nc)), .val (.ref b101), .val (.int (1 : Int32)), .val (.int (Int32.ofNat ri)), .val (.int (Int32.ofNat rj)), .val (.int (Int32.ofNat si)), .val (.int (0 : Int32)), .val (.int (0 : Int32)), .val (.int (0 : Int32)), .val (.double (FP.i2d p5)), .second, .val (.double (FP.i2d p6)), .second, .unset, .unset, .unset, .unset, .unset] [(.int (Int32.ofNat nc)), (.int ((p3.toUInt32 >>> ((16 : Int32) &&& 31).toUInt32).toInt32))])) _
          refine iremM X103 hx rfl (hb hby at_108) rfl (own_nz hn0 (by omega)) ?_
          show Steps p.tables e below (T103.setTop (mkF m 109 #[.val (.int p1), .val (.int p2), .val (.int p3), .val (.int p4), .val (.int p5), .val (.int p6), .val (.int (Int32.ofNat mr)), .val (.int (Int32.ofNat nc)), .val (.ref b101), .val (.int (1 : Int32)), .val (.int (Int32.ofNat ri)), .val (.int (Int32.ofNat rj)), .val (.int (Int32.ofNat si)), .val (.int (0 : Int32)), .val (.int (0 : Int32)), .val (.int (0 : Int32)), .val (.double (FP.i2d p5)), .second, .val (.double (FP.i2d p6)), .second, .unset, .unset, .unset, .unset, .unset] [(.int (((p3.toUInt32 >>> ((16 : Int32) &&& 31).toUInt32).toInt32) % (Int32.ofNat nc)))])) _
          rw [esj]
          show Steps p.tables e below (T103.setTop (mkF m 109 #[.val (.int p1), .val (.int p2), .val (.int p3), .val (.int p4), .val (.int p5), .val (.int p6), .val (.int (Int32.ofNat mr)), .val (.int (Int32.ofNat nc)), .val (.ref b101), .val (.int (1 : Int32)), .val (.int (Int32.ofNat ri)), .val (.int (Int32.ofNat rj)), .val (.int (Int32.ofNat si)), .val (.int (0 : Int32)), .val (.int (0 : Int32)), .val (.int (0 : Int32)), .val (.double (FP.i2d p5)), .second, .val (.double (FP.i2d p6)), .second, .unset, .unset, .unset, .unset, .unset] [(.int (Int32.ofNat sj))])) _
          refine XS.istore X103.here hx rfl (hb hby at_109) rfl (l' := #[.val (.int p1), .val (.int p2), .val (.int p3), .val (.int p4), .val (.int p5), .val (.int p6), .val (.int (Int32.ofNat mr)), .val (.int (Int32.ofNat nc)), .val (.ref b101), .val (.int (1 : Int32)), .val (.int (Int32.ofNat ri)), .val (.int (Int32.ofNat rj)), .val (.int (Int32.ofNat si)), .val (.int (Int32.ofNat sj)), .val (.int (0 : Int32)), .val (.int (0 : Int32)), .val (.double (FP.i2d p5)), .second, .val (.double (FP.i2d p6)), .second, .unset, .unset, .unset, .unset, .unset]) rfl ?_
          show Steps p.tables e below (T103.setTop (mkF m 111 #[.val (.int p1), .val (.int p2), .val (.int p3), .val (.int p4), .val (.int p5), .val (.int p6), .val (.int (Int32.ofNat mr)), .val (.int (Int32.ofNat nc)), .val (.ref b101), .val (.int (1 : Int32)), .val (.int (Int32.ofNat ri)), .val (.int (Int32.ofNat rj)), .val (.int (Int32.ofNat si)), .val (.int (Int32.ofNat sj)), .val (.int (0 : Int32)), .val (.int (0 : Int32)), .val (.double (FP.i2d p5)), .second, .val (.double (FP.i2d p6)), .second, .unset, .unset, .unset, .unset, .unset] [])) _
          refine XS.iloadN X103.here hx rfl (hb hby at_111) rfl ?_
          show Steps p.tables e below (T103.setTop (mkF m 112 #[.val (.int p1), .val (.int p2), .val (.int p3), .val (.int p4), .val (.int p5), .val (.int p6), .val (.int (Int32.ofNat mr)), .val (.int (Int32.ofNat nc)), .val (.ref b101), .val (.int (1 : Int32)), .val (.int (Int32.ofNat ri)), .val (.int (Int32.ofNat rj)), .val (.int (Int32.ofNat si)), .val (.int (Int32.ofNat sj)), .val (.int (0 : Int32)), .val (.int (0 : Int32)), .val (.double (FP.i2d p5)), .second, .val (.double (FP.i2d p6)), .second, .unset, .unset, .unset, .unset, .unset] [(.int p4)])) _
          refine X103.ldcInt hx hown (mvT hZ (hw _ (List.mem_of_getElem? (i := 28) rfl))) (g := (mkF m 112 #[.val (.int p1), .val (.int p2), .val (.int p3), .val (.int p4), .val (.int p5), .val (.int p6), .val (.int (Int32.ofNat mr)), .val (.int (Int32.ofNat nc)), .val (.ref b101), .val (.int (1 : Int32)), .val (.int (Int32.ofNat ri)), .val (.int (Int32.ofNat rj)), .val (.int (Int32.ofNat si)), .val (.int (Int32.ofNat sj)), .val (.int (0 : Int32)), .val (.int (0 : Int32)), .val (.double (FP.i2d p5)), .second, .val (.double (FP.i2d p6)), .second, .unset, .unset, .unset, .unset, .unset] [(.int p4)])) rfl (hb hby at_112) _ ?_
          show Steps p.tables e below (T103.setTop (mkF m 114 #[.val (.int p1), .val (.int p2), .val (.int p3), .val (.int p4), .val (.int p5), .val (.int p6), .val (.int (Int32.ofNat mr)), .val (.int (Int32.ofNat nc)), .val (.ref b101), .val (.int (1 : Int32)), .val (.int (Int32.ofNat ri)), .val (.int (Int32.ofNat rj)), .val (.int (Int32.ofNat si)), .val (.int (Int32.ofNat sj)), .val (.int (0 : Int32)), .val (.int (0 : Int32)), .val (.double (FP.i2d p5)), .second, .val (.double (FP.i2d p6)), .second, .unset, .unset, .unset, .unset, .unset] [(.int (65535 : Int32)), (.int p4)])) _
          refine XS.iand X103.here hx rfl (hb hby at_114) rfl ?_
          show Steps p.tables e below (T103.setTop (mkF m 115 #[.val (.int p1), .val (.int p2), .val (.int p3), .val (.int p4), .val (.int p5), .val (.int p6), .val (.int (Int32.ofNat mr)), .val (.int (Int32.ofNat nc)), .val (.ref b101), .val (.int (1 : Int32)), .val (.int (Int32.ofNat ri)), .val (.int (Int32.ofNat rj)), .val (.int (Int32.ofNat si)), .val (.int (Int32.ofNat sj)), .val (.int (0 : Int32)), .val (.int (0 : Int32)), .val (.double (FP.i2d p5)), .second, .val (.double (FP.i2d p6)), .second, .unset, .unset, .unset, .unset, .unset] [(.int (p4 &&& (65535 : Int32)))])) _
          refine XS.iload X103.here hx rfl (hb hby at_115) rfl ?_
          show Steps p.tables e below (T103.setTop (mkF m 117 #[.val (.int p1), .val (.int p2), .val (.int p3), .val (.int p4), .val (.int p5), .val (.int p6), .val (.int (Int32.ofNat mr)), .val (.int (Int32.ofNat nc)), .val (.ref b101), .val (.int (1 : Int32)), .val (.int (Int32.ofNat ri)), .val (.int (Int32.ofNat rj)), .val (.int (Int32.ofNat si)), .val (.int (Int32.ofNat sj)), .val (.int (0 : Int32)), .val (.int (0 : Int32)), .val (.double (FP.i2d p5)), .second, .val (.double (FP.i2d p6)), .second, .unset, .unset, .unset, .unset, .unset] [(.int (Int32.ofNat mr)), (.int (p4 &&& (65535 : Int32)))])) _
          refine iremM X103 hx rfl (hb hby at_117) rfl (own_nz hm0 (by omega)) ?_
          show Steps p.tables e below (T103.setTop (mkF m 118 #[.val (.int p1), .val (.int p2), .val (.int p3), .val (.int p4), .val (.int p5), .val (.int p6), .val (.int (Int32.ofNat mr)), .val (.int (Int32.ofNat nc)), .val (.ref b101), .val (.int (1 : Int32)), .val (.int (Int32.ofNat ri)), .val (.int (Int32.ofNat rj)), .val (.int (Int32.ofNat si)), .val (.int (Int32.ofNat sj)), .val (.int (0 : Int32)), .val (.int (0 : Int32)), .val (.double (FP.i2d p5)), .second, .val (.double (FP.i2d p6)), .second, .unset, .unset, .unset, .unset, .unset] [(.int ((p4 &&& (65535 : Int32)) % (Int32.ofNat mr)))])) _
          rw [eti]
          show Steps p.tables e below (T103.setTop (mkF m 118 #[.val (.int p1), .val (.int p2), .val (.int p3), .val (.int p4), .val (.int p5), .val (.int p6), .val (.int (Int32.ofNat mr)), .val (.int (Int32.ofNat nc)), .val (.ref b101), .val (.int (1 : Int32)), .val (.int (Int32.ofNat ri)), .val (.int (Int32.ofNat rj)), .val (.int (Int32.ofNat si)), .val (.int (Int32.ofNat sj)), .val (.int (0 : Int32)), .val (.int (0 : Int32)), .val (.double (FP.i2d p5)), .second, .val (.double (FP.i2d p6)), .second, .unset, .unset, .unset, .unset, .unset] [(.int (Int32.ofNat ti))])) _
          refine XS.istore X103.here hx rfl (hb hby at_118) rfl (l' := #[.val (.int p1), .val (.int p2), .val (.int p3), .val (.int p4), .val (.int p5), .val (.int p6), .val (.int (Int32.ofNat mr)), .val (.int (Int32.ofNat nc)), .val (.ref b101), .val (.int (1 : Int32)), .val (.int (Int32.ofNat ri)), .val (.int (Int32.ofNat rj)), .val (.int (Int32.ofNat si)), .val (.int (Int32.ofNat sj)), .val (.int (Int32.ofNat ti)), .val (.int (0 : Int32)), .val (.double (FP.i2d p5)), .second, .val (.double (FP.i2d p6)), .second, .unset, .unset, .unset, .unset, .unset]) rfl ?_
          show Steps p.tables e below (T103.setTop (mkF m 120 #[.val (.int p1), .val (.int p2), .val (.int p3), .val (.int p4), .val (.int p5), .val (.int p6), .val (.int (Int32.ofNat mr)), .val (.int (Int32.ofNat nc)), .val (.ref b101), .val (.int (1 : Int32)), .val (.int (Int32.ofNat ri)), .val (.int (Int32.ofNat rj)), .val (.int (Int32.ofNat si)), .val (.int (Int32.ofNat sj)), .val (.int (Int32.ofNat ti)), .val (.int (0 : Int32)), .val (.double (FP.i2d p5)), .second, .val (.double (FP.i2d p6)), .second, .unset, .unset, .unset, .unset, .unset] [])) _
          refine XS.iloadN X103.here hx rfl (hb hby at_120) rfl ?_
          show Steps p.tables e below (T103.setTop (mkF m 121 #[.val (.int p1), .val (.int p2), .val (.int p3), .val (.int p4), .val (.int p5), .val (.int p6), .val (.int (Int32.ofNat mr)), .val (.int (Int32.ofNat nc)), .val (.ref b101), .val (.int (1 : Int32)), .val (.int (Int32.ofNat ri)), .val (.int (Int32.ofNat rj)), .val (.int (Int32.ofNat si)), .val (.int (Int32.ofNat sj)), .val (.int (Int32.ofNat ti)), .val (.int (0 : Int32)), .val (.double (FP.i2d p5)), .second, .val (.double (FP.i2d p6)), .second, .unset, .unset, .unset, .unset, .unset] [(.int p4)])) _
          refine XS.bipush X103.here hx rfl (hb hby at_121) ?_
          show Steps p.tables e below (T103.setTop (mkF m 123 #[.val (.int p1), .val (.int p2), .val (.int p3), .val (.int p4), .val (.int p5), .val (.int p6), .val (.int (Int32.ofNat mr)), .val (.int (Int32.ofNat nc)), .val (.ref b101), .val (.int (1 : Int32)), .val (.int (Int32.ofNat ri)), .val (.int (Int32.ofNat rj)), .val (.int (Int32.ofNat si)), .val (.int (Int32.ofNat sj)), .val (.int (Int32.ofNat ti)), .val (.int (0 : Int32)), .val (.double (FP.i2d p5)), .second, .val (.double (FP.i2d p6)), .second, .unset, .unset, .unset, .unset, .unset] [(.int (16 : Int32)), (.int p4)])) _
          refine XS.iushr X103.here hx rfl (hb hby at_123) rfl ?_
          show Steps p.tables e below (T103.setTop (mkF m 124 #[.val (.int p1), .val (.int p2), .val (.int p3), .val (.int p4), .val (.int p5), .val (.int p6), .val (.int (Int32.ofNat mr)), .val (.int (Int32.ofNat nc)), .val (.ref b101), .val (.int (1 : Int32)), .val (.int (Int32.ofNat ri)), .val (.int (Int32.ofNat rj)), .val (.int (Int32.ofNat si)), .val (.int (Int32.ofNat sj)), .val (.int (Int32.ofNat ti)), .val (.int (0 : Int32)), .val (.double (FP.i2d p5)), .second, .val (.double (FP.i2d p6)), .second, .unset, .unset, .unset, .unset, .unset] [(.int ((p4.toUInt32 >>> ((16 : Int32) &&& 31).toUInt32).toInt32))])) _
          refine XS.iload X103.here hx rfl (hb hby at_124) rfl ?_
          show Steps p.tables e below (T103.setTop (mkF m 126 #[.val (.int p1), .val (.int p2), .val (.int p3), .val (.int p4), .val (.int p5), .val (.int p6), .val (.int (Int32.ofNat mr)), .val (.int (Int32.ofNat nc)), .val (.ref b101), .val (.int (1 : Int32)), .val (.int (Int32.ofNat ri)), .val (.int (Int32.ofNat rj)), .val (.int (Int32.ofNat si)), .val (.int (Int32.ofNat sj)), .val (.int (Int32.ofNat ti)), .val (.int (0 : Int32)), .val (.double (FP.i2d p5)), .second, .val (.double (FP.i2d p6)), .second, .unset, .unset, .unset, .unset, .unset] [(.int (Int32.ofNat nc)), (.int ((p4.toUInt32 >>> ((16 : Int32) &&& 31).toUInt32).toInt32))])) _
          refine iremM X103 hx rfl (hb hby at_126) rfl (own_nz hn0 (by omega)) ?_
          show Steps p.tables e below (T103.setTop (mkF m 127 #[.val (.int p1), .val (.int p2), .val (.int p3), .val (.int p4), .val (.int p5), .val (.int p6), .val (.int (Int32.ofNat mr)), .val (.int (Int32.ofNat nc)), .val (.ref b101), .val (.int (1 : Int32)), .val (.int (Int32.ofNat ri)), .val (.int (Int32.ofNat rj)), .val (.int (Int32.ofNat si)), .val (.int (Int32.ofNat sj)), .val (.int (Int32.ofNat ti)), .val (.int (0 : Int32)), .val (.double (FP.i2d p5)), .second, .val (.double (FP.i2d p6)), .second, .unset, .unset, .unset, .unset, .unset] [(.int (((p4.toUInt32 >>> ((16 : Int32) &&& 31).toUInt32).toInt32) % (Int32.ofNat nc)))])) _
          rw [etj]
          show Steps p.tables e below (T103.setTop (mkF m 127 #[.val (.int p1), .val (.int p2), .val (.int p3), .val (.int p4), .val (.int p5), .val (.int p6), .val (.int (Int32.ofNat mr)), .val (.int (Int32.ofNat nc)), .val (.ref b101), .val (.int (1 : Int32)), .val (.int (Int32.ofNat ri)), .val (.int (Int32.ofNat rj)), .val (.int (Int32.ofNat si)), .val (.int (Int32.ofNat sj)), .val (.int (Int32.ofNat ti)), .val (.int (0 : Int32)), .val (.double (FP.i2d p5)), .second, .val (.double (FP.i2d p6)), .second, .unset, .unset, .unset, .unset, .unset] [(.int (Int32.ofNat tj))])) _
          refine XS.istore X103.here hx rfl (hb hby at_127) rfl (l' := #[.val (.int p1), .val (.int p2), .val (.int p3), .val (.int p4), .val (.int p5), .val (.int p6), .val (.int (Int32.ofNat mr)), .val (.int (Int32.ofNat nc)), .val (.ref b101), .val (.int (1 : Int32)), .val (.int (Int32.ofNat ri)), .val (.int (Int32.ofNat rj)), .val (.int (Int32.ofNat si)), .val (.int (Int32.ofNat sj)), .val (.int (Int32.ofNat ti)), .val (.int (Int32.ofNat tj)), .val (.double (FP.i2d p5)), .second, .val (.double (FP.i2d p6)), .second, .unset, .unset, .unset, .unset, .unset]) rfl ?_
          show Steps p.tables e below (T103.setTop (mkF m 129 #[.val (.int p1), .val (.int p2), .val (.int p3), .val (.int p4), .val (.int p5), .val (.int p6), .val (.int (Int32.ofNat mr)), .val (.int (Int32.ofNat nc)), .val (.ref b101), .val (.int (1 : Int32)), .val (.int (Int32.ofNat ri)), .val (.int (Int32.ofNat rj)), .val (.int (Int32.ofNat si)), .val (.int (Int32.ofNat sj)), .val (.int (Int32.ofNat ti)), .val (.int (Int32.ofNat tj)), .val (.double (FP.i2d p5)), .second, .val (.double (FP.i2d p6)), .second, .unset, .unset, .unset, .unset, .unset] [])) _
          refine XS.aload X103.here hx rfl (hb hby at_129) rfl rfl ?_
          show Steps p.tables e below (T103.setTop (mkF m 131 #[.val (.int p1), .val (.int p2), .val (.int p3), .val (.int p4), .val (.int p5), .val (.int p6), .val (.int (Int32.ofNat mr)), .val (.int (Int32.ofNat nc)), .val (.ref b101), .val (.int (1 : Int32)), .val (.int (Int32.ofNat ri)), .val (.int (Int32.ofNat rj)), .val (.int (Int32.ofNat si)), .val (.int (Int32.ofNat sj)), .val (.int (Int32.ofNat ti)), .val (.int (Int32.ofNat tj)), .val (.double (FP.i2d p5)), .second, .val (.double (FP.i2d p6)), .second, .unset, .unset, .unset, .unset, .unset] [(.ref b101)])) _
          refine XS.iload X103.here hx rfl (hb hby at_131) rfl ?_
          show Steps p.tables e below (T103.setTop (mkF m 133 #[.val (.int p1), .val (.int p2), .val (.int p3), .val (.int p4), .val (.int p5), .val (.int p6), .val (.int (Int32.ofNat mr)), .val (.int (Int32.ofNat nc)), .val (.ref b101), .val (.int (1 : Int32)), .val (.int (Int32.ofNat ri)), .val (.int (Int32.ofNat rj)), .val (.int (Int32.ofNat si)), .val (.int (Int32.ofNat sj)), .val (.int (Int32.ofNat ti)), .val (.int (Int32.ofNat tj)), .val (.double (FP.i2d p5)), .second, .val (.double (FP.i2d p6)), .second, .unset, .unset, .unset, .unset, .unset] [(.int (Int32.ofNat ri)), (.ref b101)])) _
          refine XS.iload X103.here hx rfl (hb hby at_133) rfl ?_
          show Steps p.tables e below (T103.setTop (mkF m 135 #[.val (.int p1), .val (.int p2), .val (.int p3), .val (.int p4), .val (.int p5), .val (.int p6), .val (.int (Int32.ofNat mr)), .val (.int (Int32.ofNat nc)), .val (.ref b101), .val (.int (1 : Int32)), .val (.int (Int32.ofNat ri)), .val (.int (Int32.ofNat rj)), .val (.int (Int32.ofNat si)), .val (.int (Int32.ofNat sj)), .val (.int (Int32.ofNat ti)), .val (.int (Int32.ofNat tj)), .val (.double (FP.i2d p5)), .second, .val (.double (FP.i2d p6)), .second, .unset, .unset, .unset, .unset, .unset] [(.int (Int32.ofNat rj)), (.int (Int32.ofNat ri)), (.ref b101)])) _
          refine XS.dload X103.here hx rfl (hb hby at_135) rfl ?_
          show Steps p.tables e below (T103.setTop (mkF m 137 #[.val (.int p1), .val (.int p2), .val (.int p3), .val (.int p4), .val (.int p5), .val (.int p6), .val (.int (Int32.ofNat mr)), .val (.int (Int32.ofNat nc)), .val (.ref b101), .val (.int (1 : Int32)), .val (.int (Int32.ofNat ri)), .val (.int (Int32.ofNat rj)), .val (.int (Int32.ofNat si)), .val (.int (Int32.ofNat sj)), .val (.int (Int32.ofNat ti)), .val (.int (Int32.ofNat tj)), .val (.double (FP.i2d p5)), .second, .val (.double (FP.i2d p6)), .second, .unset, .unset, .unset, .unset, .unset] [(.double (FP.i2d p5)), (.int (Int32.ofNat rj)), (.int (Int32.ofNat ri)), (.ref b101)])) _
          refine st109.trans ?_
          show Steps p.tables e below (T109.setTop (mkF m 140 #[.val (.int p1), .val (.int p2), .val (.int p3), .val (.int p4), .val (.int p5), .val (.int p6), .val (.int (Int32.ofNat mr)), .val (.int (Int32.ofNat nc)), .val (.ref b101), .val (.int (1 : Int32)), .val (.int (Int32.ofNat ri)), .val (.int (Int32.ofNat rj)), .val (.int (Int32.ofNat si)), .val (.int (Int32.ofNat sj)), .val (.int (Int32.ofNat ti)), .val (.int (Int32.ofNat tj)), .val (.double (FP.i2d p5)), .second, .val (.double (FP.i2d p6)), .second, .unset, .unset, .unset, .unset, .unset] [])) _
          refine XS.aload X109.here hx rfl (hb hby at_140) rfl rfl ?_
          show Steps p.tables e below (T109.setTop (mkF m 142 #[.val (.int p1), .val (.int p2), .val (.int p3), .val (.int p4), .val (.int p5), .val (.int p6), .val (.int (Int32.ofNat mr)), .val (.int (Int32.ofNat nc)), .val (.ref b101), .val (.int (1 : Int32)), .val (.int (Int32.ofNat ri)), .val (.int (Int32.ofNat rj)), .val (.int (Int32.ofNat si)), .val (.int (Int32.ofNat sj)), .val (.int (Int32.ofNat ti)), .val (.int (Int32.ofNat tj)), .val (.double (FP.i2d p5)), .second, .val (.double (FP.i2d p6)), .second, .unset, .unset, .unset, .unset, .unset] [(.ref b101)])) _
          refine XS.iload X109.here hx rfl (hb hby at_142) rfl ?_
          show Steps p.tables e below (T109.setTop (mkF m 144 #[.val (.int p1), .val (.int p2), .val (.int p3), .val (.int p4), .val (.int p5), .val (.int p6), .val (.int (Int32.ofNat mr)), .val (.int (Int32.ofNat nc)), .val (.ref b101), .val (.int (1 : Int32)), .val (.int (Int32.ofNat ri)), .val (.int (Int32.ofNat rj)), .val (.int (Int32.ofNat si)), .val (.int (Int32.ofNat sj)), .val (.int (Int32.ofNat ti)), .val (.int (Int32.ofNat tj)), .val (.double (FP.i2d p5)), .second, .val (.double (FP.i2d p6)), .second, .unset, .unset, .unset, .unset, .unset] [(.int (Int32.ofNat si)), (.ref b101)])) _
          refine XS.iload X109.here hx rfl (hb hby at_144) rfl ?_
          show Steps p.tables e below (T109.setTop (mkF m 146 #[.val (.int p1), .val (.int p2), .val (.int p3), .val (.int p4), .val (.int p5), .val (.int p6), .val (.int (Int32.ofNat mr)), .val (.int (Int32.ofNat nc)), .val (.ref b101), .val (.int (1 : Int32)), .val (.int (Int32.ofNat ri)), .val (.int (Int32.ofNat rj)), .val (.int (Int32.ofNat si)), .val (.int (Int32.ofNat sj)), .val (.int (Int32.ofNat ti)), .val (.int (Int32.ofNat tj)), .val (.double (FP.i2d p5)), .second, .val (.double (FP.i2d p6)), .second, .unset, .unset, .unset, .unset, .unset] [(.int (Int32.ofNat sj)), (.int (Int32.ofNat si)), (.ref b101)])) _
          refine XS.dload X109.here hx rfl (hb hby at_146) rfl ?_
          show Steps p.tables e below (T109.setTop (mkF m 148 #[.val (.int p1), .val (.int p2), .val (.int p3), .val (.int p4), .val (.int p5), .val (.int p6), .val (.int (Int32.ofNat mr)), .val (.int (Int32.ofNat nc)), .val (.ref b101), .val (.int (1 : Int32)), .val (.int (Int32.ofNat ri)), .val (.int (Int32.ofNat rj)), .val (.int (Int32.ofNat si)), .val (.int (Int32.ofNat sj)), .val (.int (Int32.ofNat ti)), .val (.int (Int32.ofNat tj)), .val (.double (FP.i2d p5)), .second, .val (.double (FP.i2d p6)), .second, .unset, .unset, .unset, .unset, .unset] [(.double (FP.i2d p6)), (.int (Int32.ofNat sj)), (.int (Int32.ofNat si)), (.ref b101)])) _
          refine st115.trans ?_
          show Steps p.tables e below (T115.setTop (mkF m 151 #[.val (.int p1), .val (.int p2), .val (.int p3), .val (.int p4), .val (.int p5), .val (.int p6), .val (.int (Int32.ofNat mr)), .val (.int (Int32.ofNat nc)), .val (.ref b101), .val (.int (1 : Int32)), .val (.int (Int32.ofNat ri)), .val (.int (Int32.ofNat rj)), .val (.int (Int32.ofNat si)), .val (.int (Int32.ofNat sj)), .val (.int (Int32.ofNat ti)), .val (.int (Int32.ofNat tj)), .val (.double (FP.i2d p5)), .second, .val (.double (FP.i2d p6)), .second, .unset, .unset, .unset, .unset, .unset] [])) _
          refine XS.aload X115.here hx rfl (hb hby at_151) rfl rfl ?_
          show Steps p.tables e below (T115.setTop (mkF m 153 #[.val (.int p1), .val (.int p2), .val (.int p3), .val (.int p4), .val (.int p5), .val (.int p6), .val (.int (Int32.ofNat mr)), .val (.int (Int32.ofNat nc)), .val (.ref b101), .val (.int (1 : Int32)), .val (.int (Int32.ofNat ri)), .val (.int (Int32.ofNat rj)), .val (.int (Int32.ofNat si)), .val (.int (Int32.ofNat sj)), .val (.int (Int32.ofNat ti)), .val (.int (Int32.ofNat tj)), .val (.double (FP.i2d p5)), .second, .val (.double (FP.i2d p6)), .second, .unset, .unset, .unset, .unset, .unset] [(.ref b101)])) _
          refine st121.trans ?_
          show Steps p.tables e below (T121.setTop (mkF m 156 #[.val (.int p1), .val (.int p2), .val (.int p3), .val (.int p4), .val (.int p5), .val (.int p6), .val (.int (Int32.ofNat mr)), .val (.int (Int32.ofNat nc)), .val (.ref b101), .val (.int (1 : Int32)), .val (.int (Int32.ofNat ri)), .val (.int (Int32.ofNat rj)), .val (.int (Int32.ofNat si)), .val (.int (Int32.ofNat sj)), .val (.int (Int32.ofNat ti)), .val (.int (Int32.ofNat tj)), .val (.double (FP.i2d p5)), .second, .val (.double (FP.i2d p6)), .second, .unset, .unset, .unset, .unset, .unset] [(.ref b_121)])) _
          refine XS.astore X121.here hx rfl (hb hby at_156) rfl rfl (l' := #[.val (.int p1), .val (.int p2), .val (.int p3), .val (.int p4), .val (.int p5), .val (.int p6), .val (.int (Int32.ofNat mr)), .val (.int (Int32.ofNat nc)), .val (.ref b101), .val (.int (1 : Int32)), .val (.int (Int32.ofNat ri)), .val (.int (Int32.ofNat rj)), .val (.int (Int32.ofNat si)), .val (.int (Int32.ofNat sj)), .val (.int (Int32.ofNat ti)), .val (.int (Int32.ofNat tj)), .val (.double (FP.i2d p5)), .second, .val (.double (FP.i2d p6)), .second, .val (.ref b_121), .unset, .unset, .unset, .unset]) rfl ?_
          show Steps p.tables e below (T121.setTop (mkF m 158 #[.val (.int p1), .val (.int p2), .val (.int p3), .val (.int p4), .val (.int p5), .val (.int p6), .val (.int (Int32.ofNat mr)), .val (.int (Int32.ofNat nc)), .val (.ref b101), .val (.int (1 : Int32)), .val (.int (Int32.ofNat ri)), .val (.int (Int32.ofNat rj)), .val (.int (Int32.ofNat si)), .val (.int (Int32.ofNat sj)), .val (.int (Int32.ofNat ti)), .val (.int (Int32.ofNat tj)), .val (.double (FP.i2d p5)), .second, .val (.double (FP.i2d p6)), .second, .val (.ref b_121), .unset, .unset, .unset, .unset] [])) _
          refine XS.aload X121.here hx rfl (hb hby at_158) rfl rfl ?_
          show Steps p.tables e below (T121.setTop (mkF m 160 #[.val (.int p1), .val (.int p2), .val (.int p3), .val (.int p4), .val (.int p5), .val (.int p6), .val (.int (Int32.ofNat mr)), .val (.int (Int32.ofNat nc)), .val (.ref b101), .val (.int (1 : Int32)), .val (.int (Int32.ofNat ri)), .val (.int (Int32.ofNat rj)), .val (.int (Int32.ofNat si)), .val (.int (Int32.ofNat sj)), .val (.int (Int32.ofNat ti)), .val (.int (Int32.ofNat tj)), .val (.double (FP.i2d p5)), .second, .val (.double (FP.i2d p6)), .second, .val (.ref b_121), .unset, .unset, .unset, .unset] [(.ref b_121)])) _
          refine XS.ifnullNo X121.here hx rfl (hb hby at_160) rfl ?_
          show Steps p.tables e below (T121.setTop (mkF m 163 #[.val (.int p1), .val (.int p2), .val (.int p3), .val (.int p4), .val (.int p5), .val (.int p6), .val (.int (Int32.ofNat mr)), .val (.int (Int32.ofNat nc)), .val (.ref b101), .val (.int (1 : Int32)), .val (.int (Int32.ofNat ri)), .val (.int (Int32.ofNat rj)), .val (.int (Int32.ofNat si)), .val (.int (Int32.ofNat sj)), .val (.int (Int32.ofNat ti)), .val (.int (Int32.ofNat tj)), .val (.double (FP.i2d p5)), .second, .val (.double (FP.i2d p6)), .second, .val (.ref b_121), .unset, .unset, .unset, .unset] [])) _
          refine XS.aload X121.here hx rfl (hb hby at_163) rfl rfl ?_
          show Steps p.tables e below (T121.setTop (mkF m 165 #[.val (.int p1), .val (.int p2), .val (.int p3), .val (.int p4), .val (.int p5), .val (.int p6), .val (.int (Int32.ofNat mr)), .val (.int (Int32.ofNat nc)), .val (.ref b101), .val (.int (1 : Int32)), .val (.int (Int32.ofNat ri)), .val (.int (Int32.ofNat rj)), .val (.int (Int32.ofNat si)), .val (.int (Int32.ofNat sj)), .val (.int (Int32.ofNat ti)), .val (.int (Int32.ofNat tj)), .val (.double (FP.i2d p5)), .second, .val (.double (FP.i2d p6)), .second, .val (.ref b_121), .unset, .unset, .unset, .unset] [(.ref b_121)])) _
          refine X121.arraylength hx (cell := cl125) Ar125.1 (State.isArrayOf_alike hZ.alike Ar125.2.1) (g := (mkF m 165 #[.val (.int p1), .val (.int p2), .val (.int p3), .val (.int p4), .val (.int p5), .val (.int p6), .val (.int (Int32.ofNat mr)), .val (.int (Int32.ofNat nc)), .val (.ref b101), .val (.int (1 : Int32)), .val (.int (Int32.ofNat ri)), .val (.int (Int32.ofNat rj)), .val (.int (Int32.ofNat si)), .val (.int (Int32.ofNat sj)), .val (.int (Int32.ofNat ti)), .val (.int (Int32.ofNat tj)), .val (.double (FP.i2d p5)), .second, .val (.double (FP.i2d p6)), .second, .val (.ref b_121), .unset, .unset, .unset, .unset] [(.ref b_121)])) rfl rfl (hb hby at_165) _ ?_
          rw [len_of S125 M125]
          show Steps p.tables e below (T121.setTop (mkF m 166 #[.val (.int p1), .val (.int p2), .val (.int p3), .val (.int p4), .val (.int p5), .val (.int p6), .val (.int (Int32.ofNat mr)), .val (.int (Int32.ofNat nc)), .val (.ref b101), .val (.int (1 : Int32)), .val (.int (Int32.ofNat ri)), .val (.int (Int32.ofNat rj)), .val (.int (Int32.ofNat si)), .val (.int (Int32.ofNat sj)), .val (.int (Int32.ofNat ti)), .val (.int (Int32.ofNat tj)), .val (.double (FP.i2d p5)), .second, .val (.double (FP.i2d p6)), .second, .val (.ref b_121), .unset, .unset, .unset, .unset] [(.int (Int32.ofNat mr))])) _
          refine XS.iload X121.here hx rfl (hb hby at_166) rfl ?_
          show Steps p.tables e below (T121.setTop (mkF m 168 #[.val (.int p1), .val (.int p2), .val (.int p3), .val (.int p4), .val (.int p5), .val (.int p6), .val (.int (Int32.ofNat mr)), .val (.int (Int32.ofNat nc)), .val (.ref b101), .val (.int (1 : Int32)), .val (.int (Int32.ofNat ri)), .val (.int (Int32.ofNat rj)), .val (.int (Int32.ofNat si)), .val (.int (Int32.ofNat sj)), .val (.int (Int32.ofNat ti)), .val (.int (Int32.ofNat tj)), .val (.double (FP.i2d p5)), .second, .val (.double (FP.i2d p6)), .second, .val (.ref b_121), .unset, .unset, .unset, .unset] [(.int (Int32.ofNat mr)), (.int (Int32.ofNat mr))])) _
          refine XS.icmpYes X121.here hx rfl (pc0 := 168) (pc' := 173) rfl (hb hby at_168) rfl (teq (rfl : (Int32.ofNat mr) = (Int32.ofNat mr))).1 (by decide) (by decide) ?_
          show Steps p.tables e below (T121.setTop (mkF m 173 #[.val (.int p1), .val (.int p2), .val (.int p3), .val (.int p4), .val (.int p5), .val (.int p6), .val (.int (Int32.ofNat mr)), .val (.int (Int32.ofNat nc)), .val (.ref b101), .val (.int (1 : Int32)), .val (.int (Int32.ofNat ri)), .val (.int (Int32.ofNat rj)), .val (.int (Int32.ofNat si)), .val (.int (Int32.ofNat sj)), .val (.int (Int32.ofNat ti)), .val (.int (Int32.ofNat tj)), .val (.double (FP.i2d p5)), .second, .val (.double (FP.i2d p6)), .second, .val (.ref b_121), .unset, .unset, .unset, .unset] [])) _
          refine XS.aload X121.here hx rfl (hb hby at_173) rfl rfl ?_
          show Steps p.tables e below (T121.setTop (mkF m 175 #[.val (.int p1), .val (.int p2), .val (.int p3), .val (.int p4), .val (.int p5), .val (.int p6), .val (.int (Int32.ofNat mr)), .val (.int (Int32.ofNat nc)), .val (.ref b101), .val (.int (1 : Int32)), .val (.int (Int32.ofNat ri)), .val (.int (Int32.ofNat rj)), .val (.int (Int32.ofNat si)), .val (.int (Int32.ofNat sj)), .val (.int (Int32.ofNat ti)), .val (.int (Int32.ofNat tj)), .val (.double (FP.i2d p5)), .second, .val (.double (FP.i2d p6)), .second, .val (.ref b_121), .unset, .unset, .unset, .unset] [(.ref b_121)])) _
          refine XS.iconst X121.here hx rfl (hb hby at_175) ?_
          show Steps p.tables e below (T121.setTop (mkF m 176 #[.val (.int p1), .val (.int p2), .val (.int p3), .val (.int p4), .val (.int p5), .val (.int p6), .val (.int (Int32.ofNat mr)), .val (.int (Int32.ofNat nc)), .val (.ref b101), .val (.int (1 : Int32)), .val (.int (Int32.ofNat ri)), .val (.int (Int32.ofNat rj)), .val (.int (Int32.ofNat si)), .val (.int (Int32.ofNat sj)), .val (.int (Int32.ofNat ti)), .val (.int (Int32.ofNat tj)), .val (.double (FP.i2d p5)), .second, .val (.double (FP.i2d p6)), .second, .val (.ref b_121), .unset, .unset, .unset, .unset] [(.int (0 : Int32)), (.ref b_121)])) _
          refine XS.iload X121.here hx rfl (hb hby at_176) rfl ?_
          show Steps p.tables e below (T121.setTop (mkF m 178 #[.val (.int p1), .val (.int p2), .val (.int p3), .val (.int p4), .val (.int p5), .val (.int p6), .val (.int (Int32.ofNat mr)), .val (.int (Int32.ofNat nc)), .val (.ref b101), .val (.int (1 : Int32)), .val (.int (Int32.ofNat ri)), .val (.int (Int32.ofNat rj)), .val (.int (Int32.ofNat si)), .val (.int (Int32.ofNat sj)), .val (.int (Int32.ofNat ti)), .val (.int (Int32.ofNat tj)), .val (.double (FP.i2d p5)), .second, .val (.double (FP.i2d p6)), .second, .val (.ref b_121), .unset, .unset, .unset, .unset] [(.int (Int32.ofNat nc)), (.int (0 : Int32)), (.ref b_121)])) _
          refine st126 _ ?_
          show Steps p.tables e below (T126.setTop (mkF m 181 #[.val (.int p1), .val (.int p2), .val (.int p3), .val (.int p4), .val (.int p5), .val (.int p6), .val (.int (Int32.ofNat mr)), .val (.int (Int32.ofNat nc)), .val (.ref b101), .val (.int (1 : Int32)), .val (.int (Int32.ofNat ri)), .val (.int (Int32.ofNat rj)), .val (.int (Int32.ofNat si)), .val (.int (Int32.ofNat sj)), .val (.int (Int32.ofNat ti)), .val (.int (Int32.ofNat tj)), .val (.double (FP.i2d p5)), .second, .val (.double (FP.i2d p6)), .second, .val (.ref b_121), .unset, .unset, .unset, .unset] [(.int (1 : Int32))])) _
          refine XS.ifNo X126.here hx rfl (hb hby at_181) rfl ((if0 _ _).trans (feq ((by decide) : ¬ ((1 : Int32) = (0 : Int32)))).1) ?_
          show Steps p.tables e below (T126.setTop (mkF m 184 #[.val (.int p1), .val (.int p2), .val (.int p3), .val (.int p4), .val (.int p5), .val (.int p6), .val (.int (Int32.ofNat mr)), .val (.int (Int32.ofNat nc)), .val (.ref b101), .val (.int (1 : Int32)), .val (.int (Int32.ofNat ri)), .val (.int (Int32.ofNat rj)), .val (.int (Int32.ofNat si)), .val (.int (Int32.ofNat sj)), .val (.int (Int32.ofNat ti)), .val (.int (Int32.ofNat tj)), .val (.double (FP.i2d p5)), .second, .val (.double (FP.i2d p6)), .second, .val (.ref b_121), .unset, .unset, .unset, .unset] [])) _
          refine XS.aload X126.here hx rfl (hb hby at_184) rfl rfl ?_
          show Steps p.tables e below (T126.setTop (mkF m 186 #[.val (.int p1), .val (.int p2), .val (.int p3), .val (.int p4), .val (.int p5), .val (.int p6), .val (.int (Int32.ofNat mr)), .val (.int (Int32.ofNat nc)), .val (.ref b101), .val (.int (1 : Int32)), .val (.int (Int32.ofNat ri)), .val (.int (Int32.ofNat rj)), .val (.int (Int32.ofNat si)), .val (.int (Int32.ofNat sj)), .val (.int (Int32.ofNat ti)), .val (.int (Int32.ofNat tj)), .val (.double (FP.i2d p5)), .second, .val (.double (FP.i2d p6)), .second, .val (.ref b_121), .unset, .unset, .unset, .unset] [(.ref b_121)])) _
          refine XS.iconst X126.here hx rfl (hb hby at_186) ?_
          show Steps p.tables e below (T126.setTop (mkF m 187 #[.val (.int p1), .val (.int p2), .val (.int p3), .val (.int p4), .val (.int p5), .val (.int p6), .val (.int (Int32.ofNat mr)), .val (.int (Int32.ofNat nc)), .val (.ref b101), .val (.int (1 : Int32)), .val (.int (Int32.ofNat ri)), .val (.int (Int32.ofNat rj)), .val (.int (Int32.ofNat si)), .val (.int (Int32.ofNat sj)), .val (.int (Int32.ofNat ti)), .val (.int (Int32.ofNat tj)), .val (.double (FP.i2d p5)), .second, .val (.double (FP.i2d p6)), .second, .val (.ref b_121), .unset, .unset, .unset, .unset] [(.int (1 : Int32)), (.ref b_121)])) _
          refine XS.iload X126.here hx rfl (hb hby at_187) rfl ?_
          show Steps p.tables e below (T126.setTop (mkF m 189 #[.val (.int p1), .val (.int p2), .val (.int p3), .val (.int p4), .val (.int p5), .val (.int p6), .val (.int (Int32.ofNat mr)), .val (.int (Int32.ofNat nc)), .val (.ref b101), .val (.int (1 : Int32)), .val (.int (Int32.ofNat ri)), .val (.int (Int32.ofNat rj)), .val (.int (Int32.ofNat si)), .val (.int (Int32.ofNat sj)), .val (.int (Int32.ofNat ti)), .val (.int (Int32.ofNat tj)), .val (.double (FP.i2d p5)), .second, .val (.double (FP.i2d p6)), .second, .val (.ref b_121), .unset, .unset, .unset, .unset] [(.int (Int32.ofNat nc)), (.int (1 : Int32)), (.ref b_121)])) _
          refine st127 _ ?_
          show Steps p.tables e below (T127.setTop (mkF m 192 #[.val (.int p1), .val (.int p2), .val (.int p3), .val (.int p4), .val (.int p5), .val (.int p6), .val (.int (Int32.ofNat mr)), .val (.int (Int32.ofNat nc)), .val (.ref b101), .val (.int (1 : Int32)), .val (.int (Int32.ofNat ri)), .val (.int (Int32.ofNat rj)), .val (.int (Int32.ofNat si)), .val (.int (Int32.ofNat sj)), .val (.int (Int32.ofNat ti)), .val (.int (Int32.ofNat tj)), .val (.double (FP.i2d p5)), .second, .val (.double (FP.i2d p6)), .second, .val (.ref b_121), .unset, .unset, .unset, .unset] [(.int (1 : Int32))])) _
          refine XS.ifNo X127.here hx rfl (hb hby at_192) rfl ((if0 _ _).trans (feq ((by decide) : ¬ ((1 : Int32) = (0 : Int32)))).1) ?_
          show Steps p.tables e below (T127.setTop (mkF m 195 #[.val (.int p1), .val (.int p2), .val (.int p3), .val (.int p4), .val (.int p5), .val (.int p6), .val (.int (Int32.ofNat mr)), .val (.int (Int32.ofNat nc)), .val (.ref b101), .val (.int (1 : Int32)), .val (.int (Int32.ofNat ri)), .val (.int (Int32.ofNat rj)), .val (.int (Int32.ofNat si)), .val (.int (Int32.ofNat sj)), .val (.int (Int32.ofNat ti)), .val (.int (Int32.ofNat tj)), .val (.double (FP.i2d p5)), .second, .val (.double (FP.i2d p6)), .second, .val (.ref b_121), .unset, .unset, .unset, .unset] [])) _
          refine XS.aload X127.here hx rfl (hb hby at_195) rfl rfl ?_
          show Steps p.tables e below (T127.setTop (mkF m 197 #[.val (.int p1), .val (.int p2), .val (.int p3), .val (.int p4), .val (.int p5), .val (.int p6), .val (.int (Int32.ofNat mr)), .val (.int (Int32.ofNat nc)), .val (.ref b101), .val (.int (1 : Int32)), .val (.int (Int32.ofNat ri)), .val (.int (Int32.ofNat rj)), .val (.int (Int32.ofNat si)), .val (.int (Int32.ofNat sj)), .val (.int (Int32.ofNat ti)), .val (.int (Int32.ofNat tj)), .val (.double (FP.i2d p5)), .second, .val (.double (FP.i2d p6)), .second, .val (.ref b_121), .unset, .unset, .unset, .unset] [(.ref b_121)])) _
          refine XS.iconst X127.here hx rfl (hb hby at_197) ?_
          show Steps p.tables e below (T127.setTop (mkF m 198 #[.val (.int p1), .val (.int p2), .val (.int p3), .val (.int p4), .val (.int p5), .val (.int p6), .val (.int (Int32.ofNat mr)), .val (.int (Int32.ofNat nc)), .val (.ref b101), .val (.int (1 : Int32)), .val (.int (Int32.ofNat ri)), .val (.int (Int32.ofNat rj)), .val (.int (Int32.ofNat si)), .val (.int (Int32.ofNat sj)), .val (.int (Int32.ofNat ti)), .val (.int (Int32.ofNat tj)), .val (.double (FP.i2d p5)), .second, .val (.double (FP.i2d p6)), .second, .val (.ref b_121), .unset, .unset, .unset, .unset] [(.int (2 : Int32)), (.ref b_121)])) _
          refine XS.iload X127.here hx rfl (hb hby at_198) rfl ?_
          show Steps p.tables e below (T127.setTop (mkF m 200 #[.val (.int p1), .val (.int p2), .val (.int p3), .val (.int p4), .val (.int p5), .val (.int p6), .val (.int (Int32.ofNat mr)), .val (.int (Int32.ofNat nc)), .val (.ref b101), .val (.int (1 : Int32)), .val (.int (Int32.ofNat ri)), .val (.int (Int32.ofNat rj)), .val (.int (Int32.ofNat si)), .val (.int (Int32.ofNat sj)), .val (.int (Int32.ofNat ti)), .val (.int (Int32.ofNat tj)), .val (.double (FP.i2d p5)), .second, .val (.double (FP.i2d p6)), .second, .val (.ref b_121), .unset, .unset, .unset, .unset] [(.int (Int32.ofNat nc)), (.int (2 : Int32)), (.ref b_121)])) _
          refine st128 _ ?_
          show Steps p.tables e below (T128.setTop (mkF m 203 #[.val (.int p1), .val (.int p2), .val (.int p3), .val (.int p4), .val (.int p5), .val (.int p6), .val (.int (Int32.ofNat mr)), .val (.int (Int32.ofNat nc)), .val (.ref b101), .val (.int (1 : Int32)), .val (.int (Int32.ofNat ri)), .val (.int (Int32.ofNat rj)), .val (.int (Int32.ofNat si)), .val (.int (Int32.ofNat sj)), .val (.int (Int32.ofNat ti)), .val (.int (Int32.ofNat tj)), .val (.double (FP.i2d p5)), .second, .val (.double (FP.i2d p6)), .second, .val (.ref b_121), .unset, .unset, .unset, .unset] [(.int (1 : Int32))])) _
          refine XS.ifYes X128.here hx rfl (pc0 := 203) (pc' := 208) rfl (hb hby at_203) rfl ((if0 _ _).trans (feq ((by decide) : ¬ ((1 : Int32) = (0 : Int32)))).2) (by decide) (by decide) ?_
          show Steps p.tables e below (T128.setTop (mkF m 208 #[.val (.int p1), .val (.int p2), .val (.int p3), .val (.int p4), .val (.int p5), .val (.int p6), .val (.int (Int32.ofNat mr)), .val (.int (Int32.ofNat nc)), .val (.ref b101), .val (.int (1 : Int32)), .val (.int (Int32.ofNat ri)), .val (.int (Int32.ofNat rj)), .val (.int (Int32.ofNat si)), .val (.int (Int32.ofNat sj)), .val (.int (Int32.ofNat ti)), .val (.int (Int32.ofNat tj)), .val (.double (FP.i2d p5)), .second, .val (.double (FP.i2d p6)), .second, .val (.ref b_121), .unset, .unset, .unset, .unset] [])) _
          refine XS.iload X128.here hx rfl (hb hby at_208) rfl ?_
          show Steps p.tables e below (T128.setTop (mkF m 210 #[.val (.int p1), .val (.int p2), .val (.int p3), .val (.int p4), .val (.int p5), .val (.int p6), .val (.int (Int32.ofNat mr)), .val (.int (Int32.ofNat nc)), .val (.ref b101), .val (.int (1 : Int32)), .val (.int (Int32.ofNat ri)), .val (.int (Int32.ofNat rj)), .val (.int (Int32.ofNat si)), .val (.int (Int32.ofNat sj)), .val (.int (Int32.ofNat ti)), .val (.int (Int32.ofNat tj)), .val (.double (FP.i2d p5)), .second, .val (.double (FP.i2d p6)), .second, .val (.ref b_121), .unset, .unset, .unset, .unset] [(.int (1 : Int32))])) _
          refine XS.ifYes X128.here hx rfl (pc0 := 210) (pc' := 215) rfl (hb hby at_210) rfl ((if0 _ _).trans (feq ((by decide) : ¬ ((1 : Int32) = (0 : Int32)))).2) (by decide) (by decide) ?_
          show Steps p.tables e below (T128.setTop (mkF m 215 #[.val (.int p1), .val (.int p2), .val (.int p3), .val (.int p4), .val (.int p5), .val (.int p6), .val (.int (Int32.ofNat mr)), .val (.int (Int32.ofNat nc)), .val (.ref b101), .val (.int (1 : Int32)), .val (.int (Int32.ofNat ri)), .val (.int (Int32.ofNat rj)), .val (.int (Int32.ofNat si)), .val (.int (Int32.ofNat sj)), .val (.int (Int32.ofNat ti)), .val (.int (Int32.ofNat tj)), .val (.double (FP.i2d p5)), .second, .val (.double (FP.i2d p6)), .second, .val (.ref b_121), .unset, .unset, .unset, .unset] [])) _
          refine XS.iload X128.here hx rfl (hb hby at_215) rfl ?_
          show Steps p.tables e below (T128.setTop (mkF m 217 #[.val (.int p1), .val (.int p2), .val (.int p3), .val (.int p4), .val (.int p5), .val (.int p6), .val (.int (Int32.ofNat mr)), .val (.int (Int32.ofNat nc)), .val (.ref b101), .val (.int (1 : Int32)), .val (.int (Int32.ofNat ri)), .val (.int (Int32.ofNat rj)), .val (.int (Int32.ofNat si)), .val (.int (Int32.ofNat sj)), .val (.int (Int32.ofNat ti)), .val (.int (Int32.ofNat tj)), .val (.double (FP.i2d p5)), .second, .val (.double (FP.i2d p6)), .second, .val (.ref b_121), .unset, .unset, .unset, .unset] [(.int (Int32.ofNat ti))])) _
          refine XS.iload X128.here hx rfl (hb hby at_217) rfl ?_
          exact kt)
      have nnv : ∀ {x y z u v' w' : Int32}, NoNaN64 (own_bef x y z u v' w' (FP.i2d p5) (FP.i2d p6)) := own_bnn (Fl.i2d_fin p5).noNaN (Fl.i2d_fin p6).noNaN
      have elr : (own_upd (own_upd (fun _ => (0 : UInt64)) (ri + rj * mr) (FP.i2d p5)) (si + sj * mr) (FP.i2d p6)) (ri + rj * mr) = (own_bef (Int32.ofNat ri) (Int32.ofNat rj) (Int32.ofNat ri) (Int32.ofNat rj) (Int32.ofNat si) (Int32.ofNat sj) (FP.i2d p5) (FP.i2d p6)) := own_law _ _ hm hn hri hrj hri hrj hsi hsj
      have row_r : Arv Z T121.heap (b_121 + 1 + ri) kr_121 .double (Int32.ofNat nc) (own_dv (fun j => (own_upd (own_upd (fun _ => (0 : UInt64)) (ri + rj * mr) (FP.i2d p5)) (si + sj * mr) (FP.i2d p6)) (ri + j * mr)) nc) (.double (0 : UInt64)) := x121_2 ri hri
      have els : (own_upd (own_upd (fun _ => (0 : UInt64)) (ri + rj * mr) (FP.i2d p5)) (si + sj * mr) (FP.i2d p6)) (si + sj * mr) = (own_bef (Int32.ofNat si) (Int32.ofNat sj) (Int32.ofNat ri) (Int32.ofNat rj) (Int32.ofNat si) (Int32.ofNat sj) (FP.i2d p5) (FP.i2d p6)) := own_law _ _ hm hn hsi hsj hri hrj hsi hsj
      have row_s : Arv Z T121.heap (b_121 + 1 + si) kr_121 .double (Int32.ofNat nc) (own_dv (fun j => (own_upd (own_upd (fun _ => (0 : UInt64)) (ri + rj * mr) (FP.i2d p5)) (si + sj * mr) (FP.i2d p6)) (si + j * mr)) nc) (.double (0 : UInt64)) := x121_2 si hsi
      have elt : (own_upd (own_upd (fun _ => (0 : UInt64)) (ri + rj * mr) (FP.i2d p5)) (si + sj * mr) (FP.i2d p6)) (ti + tj * mr) = (own_bef (Int32.ofNat ti) (Int32.ofNat tj) (Int32.ofNat ri) (Int32.ofNat rj) (Int32.ofNat si) (Int32.ofNat sj) (FP.i2d p5) (FP.i2d p6)) := own_law _ _ hm hn hti htj hri hrj hsi hsj
      have row_t : Arv Z T121.heap (b_121 + 1 + ti) kr_121 .double (Int32.ofNat nc) (own_dv (fun j => (own_upd (own_upd (fun _ => (0 : UInt64)) (ri + rj * mr) (FP.i2d p5)) (si + sj * mr) (FP.i2d p6)) (ti + j * mr)) nc) (.double (0 : UInt64)) := x121_2 ti hti
      have ntb101 : b101 ≠ (b_121 + 1 + ti) := Nat.ne_of_lt (Nat.lt_of_lt_of_le (f117).lt (Nat.le_trans x121_0 (by omega)))
      have ntb_103 : b_103 ≠ (b_121 + 1 + ti) := Nat.ne_of_lt (Nat.lt_of_lt_of_le (x115_0).lt (Nat.le_trans x121_0 (by omega)))
      have g_T : n0 ≤ (b_121 + 1 + ti) := Nat.le_trans g_b_121 (by omega)
      obtain ⟨xx, exx, pre130⟩ : ∃ (xx : UInt64), (xx = (own_bef (Int32.ofNat ti) (Int32.ofNat tj) (Int32.ofNat ri) (Int32.ofNat rj) (Int32.ofNat si) (Int32.ofNat sj) (FP.i2d p5) (FP.i2d p6))) ∧ ∀ t_, Steps p.tables e below (T128.setTop (mkF m 260 #[.val (.int p1), .val (.int p2), .val (.int p3), .val (.int p4), .val (.int p5), .val (.int p6), .val (.int (Int32.ofNat mr)), .val (.int (Int32.ofNat nc)), .val (.ref b101), .val (.int (1 : Int32)), .val (.int (Int32.ofNat ri)), .val (.int (Int32.ofNat rj)), .val (.int (Int32.ofNat si)), .val (.int (Int32.ofNat sj)), .val (.int (Int32.ofNat ti)), .val (.int (Int32.ofNat tj)), .val (.double (FP.i2d p5)), .second, .val (.double (FP.i2d p6)), .second, .val (.ref b_121), .val (.double xx), .second, .unset, .unset] [])) t_ → Steps p.tables e below (s₁.setTop (entryFrame m #[(.int p1), (.int p2), (.int p3), (.int p4), (.int p5), (.int p6)] maxLocals)) t_ := by
        by_cases hC : (Int32.ofNat ti) = (Int32.ofNat si)
        · skip
          have pre131 : ∀ t_, Steps p.tables e below (T128.setTop (mkF m 226 #[.val (.int p1), .val (.int p2), .val (.int p3), .val (.int p4), .val (.int p5), .val (.int p6), .val (.int (Int32.ofNat mr)), .val (.int (Int32.ofNat nc)), .val (.ref b101), .val (.int (1 : Int32)), .val (.int (Int32.ofNat ri)), .val (.int (Int32.ofNat rj)), .val (.int (Int32.ofNat si)), .val (.int (Int32.ofNat sj)), .val (.int (Int32.ofNat ti)), .val (.int (Int32.ofNat tj)), .val (.double (FP.i2d p5)), .second, .val (.double (FP.i2d p6)), .second, .val (.ref b_121), .unset, .unset, .unset, .unset] [(.int (Int32.ofNat sj)), (.int (Int32.ofNat tj))])) t_ → Steps p.tables e below (s₁.setTop (entryFrame m #[(.int p1), (.int p2), (.int p3), (.int p4), (.int p5), (.int p6)] maxLocals)) t_ := fun t_ kt => pre129 t_ (by
              show Steps p.tables e below (T128.setTop (mkF m 219 #[.val (.int p1), .val (.int p2), .val (.int p3), .val (.int p4), .val (.int p5), .val (.int p6), .val (.int (Int32.ofNat mr)), .val (.int (Int32.ofNat nc)), .val (.ref b101), .val (.int (1 : Int32)), .val (.int (Int32.ofNat ri)), .val (.int (Int32.ofNat rj)), .val (.int (Int32.ofNat si)), .val (.int (Int32.ofNat sj)), .val (.int (Int32.ofNat ti)), .val (.int (Int32.ofNat tj)), .val (.double (FP.i2d p5)), .second, .val (.double (FP.i2d p6)), .second, .val (.ref b_121), .unset, .unset, .unset, .unset] [(.int (Int32.ofNat si)), (.int (Int32.ofNat ti))])) _
              refine XS.icmpNo X128.here hx rfl (hb hby at_219) rfl (teq (hC : (Int32.ofNat ti) = (Int32.ofNat si))).2 ?_
              show Steps p.tables e below (T128.setTop (mkF m 222 #[.val (.int p1), .val (.int p2), .val (.int p3), .val (.int p4), .val (.int p5), .val (.int p6), .val (.int (Int32.ofNat mr)), .val (.int (Int32.ofNat nc)), .val (.ref b101), .val (.int (1 : Int32)), .val (.int (Int32.ofNat ri)), .val (.int (Int32.ofNat rj)), .val (.int (Int32.ofNat si)), .val (.int (Int32.ofNat sj)), .val (.int (Int32.ofNat ti)), .val (.int (Int32.ofNat tj)), .val (.double (FP.i2d p5)), .second, .val (.double (FP.i2d p6)), .second, .val (.ref b_121), .unset, .unset, .unset, .unset] [])) _
              refine XS.iload X128.here hx rfl (hb hby at_222) rfl ?_
              show Steps p.tables e below (T128.setTop (mkF m 224 #[.val (.int p1), .val (.int p2), .val (.int p3), .val (.int p4), .val (.int p5), .val (.int p6), .val (.int (Int32.ofNat mr)), .val (.int (Int32.ofNat nc)), .val (.ref b101), .val (.int (1 : Int32)), .val (.int (Int32.ofNat ri)), .val (.int (Int32.ofNat rj)), .val (.int (Int32.ofNat si)), .val (.int (Int32.ofNat sj)), .val (.int (Int32.ofNat ti)), .val (.int (Int32.ofNat tj)), .val (.double (FP.i2d p5)), .second, .val (.double (FP.i2d p6)), .second, .val (.ref b_121), .unset, .unset, .unset, .unset] [(.int (Int32.ofNat tj))])) _
              refine XS.iload X128.here hx rfl (hb hby at_224) rfl ?_
              exact kt)
          by_cases hD : (Int32.ofNat tj) = (Int32.ofNat sj)
          · skip
            have pre132 : ∀ t_, Steps p.tables e below (T128.setTop (mkF m 260 #[.val (.int p1), .val (.int p2), .val (.int p3), .val (.int p4), .val (.int p5), .val (.int p6), .val (.int (Int32.ofNat mr)), .val (.int (Int32.ofNat nc)), .val (.ref b101), .val (.int (1 : Int32)), .val (.int (Int32.ofNat ri)), .val (.int (Int32.ofNat rj)), .val (.int (Int32.ofNat si)), .val (.int (Int32.ofNat sj)), .val (.int (Int32.ofNat ti)), .val (.int (Int32.ofNat tj)), .val (.double (FP.i2d p5)), .second, .val (.double (FP.i2d p6)), .second, .val (.ref b_121), .val (.double (FP.i2d p6)), .second, .unset, .unset] [])) t_ → Steps p.tables e below (s₁.setTop (entryFrame m #[(.int p1), (.int p2), (.int p3), (.int p4), (.int p5), (.int p6)] maxLocals)) t_ := fun t_ kt => pre131 t_ (by
                show Steps p.tables e below (T128.setTop (mkF m 226 #[.val (.int p1), .val (.int p2), .val (.int p3), .val (.int p4), .val (.int p5), .val (.int p6), .val (.int (Int32.ofNat mr)), .val (.int (Int32.ofNat nc)), .val (.ref b101), .val (.int (1 : Int32)), .val (.int (Int32.ofNat ri)), .val (.int (Int32.ofNat rj)), .val (.int (Int32.ofNat si)), .val (.int (Int32.ofNat sj)), .val (.int (Int32.ofNat ti)), .val (.int (Int32.ofNat tj)), .val (.double (FP.i2d p5)), .second, .val (.double (FP.i2d p6)), .second, .val (.ref b_121), .unset, .unset, .unset, .unset] [(.int (Int32.ofNat sj)), (.int (Int32.ofNat tj))])) _
                refine XS.icmpNo X128.here hx rfl (hb hby at_226) rfl (teq (hD : (Int32.ofNat tj) = (Int32.ofNat sj))).2 ?_
                show Steps p.tables e below (T128.setTop (mkF m 229 #[.val (.int p1), .val (.int p2), .val (.int p3), .val (.int p4), .val (.int p5), .val (.int p6), .val (.int (Int32.ofNat mr)), .val (.int (Int32.ofNat nc)), .val (.ref b101), .val (.int (1 : Int32)), .val (.int (Int32.ofNat ri)), .val (.int (Int32.ofNat rj)), .val (.int (Int32.ofNat si)), .val (.int (Int32.ofNat sj)), .val (.int (Int32.ofNat ti)), .val (.int (Int32.ofNat tj)), .val (.double (FP.i2d p5)), .second, .val (.double (FP.i2d p6)), .second, .val (.ref b_121), .unset, .unset, .unset, .unset] [])) _
                refine XS.dload X128.here hx rfl (hb hby at_229) rfl ?_
                show Steps p.tables e below (T128.setTop (mkF m 231 #[.val (.int p1), .val (.int p2), .val (.int p3), .val (.int p4), .val (.int p5), .val (.int p6), .val (.int (Int32.ofNat mr)), .val (.int (Int32.ofNat nc)), .val (.ref b101), .val (.int (1 : Int32)), .val (.int (Int32.ofNat ri)), .val (.int (Int32.ofNat rj)), .val (.int (Int32.ofNat si)), .val (.int (Int32.ofNat sj)), .val (.int (Int32.ofNat ti)), .val (.int (Int32.ofNat tj)), .val (.double (FP.i2d p5)), .second, .val (.double (FP.i2d p6)), .second, .val (.ref b_121), .unset, .unset, .unset, .unset] [(.double (FP.i2d p6))])) _
                refine XS.dstore X128.here hx rfl (hb hby at_231) rfl (l' := #[.val (.int p1), .val (.int p2), .val (.int p3), .val (.int p4), .val (.int p5), .val (.int p6), .val (.int (Int32.ofNat mr)), .val (.int (Int32.ofNat nc)), .val (.ref b101), .val (.int (1 : Int32)), .val (.int (Int32.ofNat ri)), .val (.int (Int32.ofNat rj)), .val (.int (Int32.ofNat si)), .val (.int (Int32.ofNat sj)), .val (.int (Int32.ofNat ti)), .val (.int (Int32.ofNat tj)), .val (.double (FP.i2d p5)), .second, .val (.double (FP.i2d p6)), .second, .val (.ref b_121), .val (.double (FP.i2d p6)), .second, .unset, .unset]) rfl ?_
                show Steps p.tables e below (T128.setTop (mkF m 233 #[.val (.int p1), .val (.int p2), .val (.int p3), .val (.int p4), .val (.int p5), .val (.int p6), .val (.int (Int32.ofNat mr)), .val (.int (Int32.ofNat nc)), .val (.ref b101), .val (.int (1 : Int32)), .val (.int (Int32.ofNat ri)), .val (.int (Int32.ofNat rj)), .val (.int (Int32.ofNat si)), .val (.int (Int32.ofNat sj)), .val (.int (Int32.ofNat ti)), .val (.int (Int32.ofNat tj)), .val (.double (FP.i2d p5)), .second, .val (.double (FP.i2d p6)), .second, .val (.ref b_121), .val (.double (FP.i2d p6)), .second, .unset, .unset] [])) _
                refine XS.goto X128.here hx rfl (pc0 := 233) (pc' := 260) rfl (hb hby at_233) (by decide) (by decide) ?_
                exact kt)
            exact ⟨(FP.i2d p6), by unfold own_bef; rw [if_pos ⟨hC, hD⟩], pre132⟩
          · skip
            have pre133 : ∀ t_, Steps p.tables e below (T128.setTop (mkF m 240 #[.val (.int p1), .val (.int p2), .val (.int p3), .val (.int p4), .val (.int p5), .val (.int p6), .val (.int (Int32.ofNat mr)), .val (.int (Int32.ofNat nc)), .val (.ref b101), .val (.int (1 : Int32)), .val (.int (Int32.ofNat ri)), .val (.int (Int32.ofNat rj)), .val (.int (Int32.ofNat si)), .val (.int (Int32.ofNat sj)), .val (.int (Int32.ofNat ti)), .val (.int (Int32.ofNat tj)), .val (.double (FP.i2d p5)), .second, .val (.double (FP.i2d p6)), .second, .val (.ref b_121), .unset, .unset, .unset, .unset] [(.int (Int32.ofNat ri)), (.int (Int32.ofNat ti))])) t_ → Steps p.tables e below (s₁.setTop (entryFrame m #[(.int p1), (.int p2), (.int p3), (.int p4), (.int p5), (.int p6)] maxLocals)) t_ := fun t_ kt => pre131 t_ (by
                show Steps p.tables e below (T128.setTop (mkF m 226 #[.val (.int p1), .val (.int p2), .val (.int p3), .val (.int p4), .val (.int p5), .val (.int p6), .val (.int (Int32.ofNat mr)), .val (.int (Int32.ofNat nc)), .val (.ref b101), .val (.int (1 : Int32)), .val (.int (Int32.ofNat ri)), .val (.int (Int32.ofNat rj)), .val (.int (Int32.ofNat si)), .val (.int (Int32.ofNat sj)), .val (.int (Int32.ofNat ti)), .val (.int (Int32.ofNat tj)), .val (.double (FP.i2d p5)), .second, .val (.double (FP.i2d p6)), .second, .val (.ref b_121), .unset, .unset, .unset, .unset] [(.int (Int32.ofNat sj)), (.int (Int32.ofNat tj))])) _
                refine XS.icmpYes X128.here hx rfl (pc0 := 226) (pc' := 236) rfl (hb hby at_226) rfl (feq (hD : ¬ ((Int32.ofNat tj) = (Int32.ofNat sj)))).2 (by decide) (by decide) ?_
                show Steps p.tables e below (T128.setTop (mkF m 236 #[.val (.int p1), .val (.int p2), .val (.int p3), .val (.int p4), .val (.int p5), .val (.int p6), .val (.int (Int32.ofNat mr)), .val (.int (Int32.ofNat nc)), .val (.ref b101), .val (.int (1 : Int32)), .val (.int (Int32.ofNat ri)), .val (.int (Int32.ofNat rj)), .val (.int (Int32.ofNat si)), .val (.int (Int32.ofNat sj)), .val (.int (Int32.ofNat ti)), .val (.int (Int32.ofNat tj)), .val (.double (FP.i2d p5)), .second, .val (.double (FP.i2d p6)), .second, .val (.ref b_121), .unset, .unset, .unset, .unset] [])) _
                refine XS.iload X128.here hx rfl (hb hby at_236) rfl ?_
                show Steps p.tables e below (T128.setTop (mkF m 238 #[.val (.int p1), .val (.int p2), .val (.int p3), .val (.int p4), .val (.int p5), .val (.int p6), .val (.int (Int32.ofNat mr)), .val (.int (Int32.ofNat nc)), .val (.ref b101), .val (.int (1 : Int32)), .val (.int (Int32.ofNat ri)), .val (.int (Int32.ofNat rj)), .val (.int (Int32.ofNat si)), .val (.int (Int32.ofNat sj)), .val (.int (Int32.ofNat ti)), .val (.int (Int32.ofNat tj)), .val (.double (FP.i2d p5)), .second, .val (.double (FP.i2d p6)), .second, .val (.ref b_121), .unset, .unset, .unset, .unset] [(.int (Int32.ofNat ti))])) _
                refine XS.iload X128.here hx rfl (hb hby at_238) rfl ?_
                exact kt)
            by_cases hE : (Int32.ofNat ti) = (Int32.ofNat ri)
            · skip
              have pre134 : ∀ t_, Steps p.tables e below (T128.setTop (mkF m 247 #[.val (.int p1), .val (.int p2), .val (.int p3), .val (.int p4), .val (.int p5), .val (.int p6), .val (.int (Int32.ofNat mr)), .val (.int (Int32.ofNat nc)), .val (.ref b101), .val (.int (1 : Int32)), .val (.int (Int32.ofNat ri)), .val (.int (Int32.ofNat rj)), .val (.int (Int32.ofNat si)), .val (.int (Int32.ofNat sj)), .val (.int (Int32.ofNat ti)), .val (.int (Int32.ofNat tj)), .val (.double (FP.i2d p5)), .second, .val (.double (FP.i2d p6)), .second, .val (.ref b_121), .unset, .unset, .unset, .unset] [(.int (Int32.ofNat rj)), (.int (Int32.ofNat tj))])) t_ → Steps p.tables e below (s₁.setTop (entryFrame m #[(.int p1), (.int p2), (.int p3), (.int p4), (.int p5), (.int p6)] maxLocals)) t_ := fun t_ kt => pre133 t_ (by
                  show Steps p.tables e below (T128.setTop (mkF m 240 #[.val (.int p1), .val (.int p2), .val (.int p3), .val (.int p4), .val (.int p5), .val (.int p6), .val (.int (Int32.ofNat mr)), .val (.int (Int32.ofNat nc)), .val (.ref b101), .val (.int (1 : Int32)), .val (.int (Int32.ofNat ri)), .val (.int (Int32.ofNat rj)), .val (.int (Int32.ofNat si)), .val (.int (Int32.ofNat sj)), .val (.int (Int32.ofNat ti)), .val (.int (Int32.ofNat tj)), .val (.double (FP.i2d p5)), .second, .val (.double (FP.i2d p6)), .second, .val (.ref b_121), .unset, .unset, .unset, .unset] [(.int (Int32.ofNat ri)), (.int (Int32.ofNat ti))])) _
                  refine XS.icmpNo X128.here hx rfl (hb hby at_240) rfl (teq (hE : (Int32.ofNat ti) = (Int32.ofNat ri))).2 ?_
                  show Steps p.tables e below (T128.setTop (mkF m 243 #[.val (.int p1), .val (.int p2), .val (.int p3), .val (.int p4), .val (.int p5), .val (.int p6), .val (.int (Int32.ofNat mr)), .val (.int (Int32.ofNat nc)), .val (.ref b101), .val (.int (1 : Int32)), .val (.int (Int32.ofNat ri)), .val (.int (Int32.ofNat rj)), .val (.int (Int32.ofNat si)), .val (.int (Int32.ofNat sj)), .val (.int (Int32.ofNat ti)), .val (.int (Int32.ofNat tj)), .val (.double (FP.i2d p5)), .second, .val (.double (FP.i2d p6)), .second, .val (.ref b_121), .unset, .unset, .unset, .unset] [])) _
                  refine XS.iload X128.here hx rfl (hb hby at_243) rfl ?_
                  show Steps p.tables e below (T128.setTop (mkF m 245 #[.val (.int p1), .val (.int p2), .val (.int p3), .val (.int p4), .val (.int p5), .val (.int p6), .val (.int (Int32.ofNat mr)), .val (.int (Int32.ofNat nc)), .val (.ref b101), .val (.int (1 : Int32)), .val (.int (Int32.ofNat ri)), .val (.int (Int32.ofNat rj)), .val (.int (Int32.ofNat si)), .val (.int (Int32.ofNat sj)), .val (.int (Int32.ofNat ti)), .val (.int (Int32.ofNat tj)), .val (.double (FP.i2d p5)), .second, .val (.double (FP.i2d p6)), .second, .val (.ref b_121), .unset, .unset, .unset, .unset] [(.int (Int32.ofNat tj))])) _
                  refine XS.iload X128.here hx rfl (hb hby at_245) rfl ?_
                  exact kt)
              by_cases hF : (Int32.ofNat tj) = (Int32.ofNat rj)
              · skip
                have pre135 : ∀ t_, Steps p.tables e below (T128.setTop (mkF m 260 #[.val (.int p1), .val (.int p2), .val (.int p3), .val (.int p4), .val (.int p5), .val (.int p6), .val (.int (Int32.ofNat mr)), .val (.int (Int32.ofNat nc)), .val (.ref b101), .val (.int (1 : Int32)), .val (.int (Int32.ofNat ri)), .val (.int (Int32.ofNat rj)), .val (.int (Int32.ofNat si)), .val (.int (Int32.ofNat sj)), .val (.int (Int32.ofNat ti)), .val (.int (Int32.ofNat tj)), .val (.double (FP.i2d p5)), .second, .val (.double (FP.i2d p6)), .second, .val (.ref b_121), .val (.double (FP.i2d p5)), .second, .unset, .unset] [])) t_ → Steps p.tables e below (s₁.setTop (entryFrame m #[(.int p1), (.int p2), (.int p3), (.int p4), (.int p5), (.int p6)] maxLocals)) t_ := fun t_ kt => pre134 t_ (by
                    show Steps p.tables e below (T128.setTop (mkF m 247 #[.val (.int p1), .val (.int p2), .val (.int p3), .val (.int p4), .val (.int p5), .val (.int p6), .val (.int (Int32.ofNat mr)), .val (.int (Int32.ofNat nc)), .val (.ref b101), .val (.int (1 : Int32)), .val (.int (Int32.ofNat ri)), .val (.int (Int32.ofNat rj)), .val (.int (Int32.ofNat si)), .val (.int (Int32.ofNat sj)), .val (.int (Int32.ofNat ti)), .val (.int (Int32.ofNat tj)), .val (.double (FP.i2d p5)), .second, .val (.double (FP.i2d p6)), .second, .val (.ref b_121), .unset, .unset, .unset, .unset] [(.int (Int32.ofNat rj)), (.int (Int32.ofNat tj))])) _
                    refine XS.icmpNo X128.here hx rfl (hb hby at_247) rfl (teq (hF : (Int32.ofNat tj) = (Int32.ofNat rj))).2 ?_
                    show Steps p.tables e below (T128.setTop (mkF m 250 #[.val (.int p1), .val (.int p2), .val (.int p3), .val (.int p4), .val (.int p5), .val (.int p6), .val (.int (Int32.ofNat mr)), .val (.int (Int32.ofNat nc)), .val (.ref b101), .val (.int (1 : Int32)), .val (.int (Int32.ofNat ri)), .val (.int (Int32.ofNat rj)), .val (.int (Int32.ofNat si)), .val (.int (Int32.ofNat sj)), .val (.int (Int32.ofNat ti)), .val (.int (Int32.ofNat tj)), .val (.double (FP.i2d p5)), .second, .val (.double (FP.i2d p6)), .second, .val (.ref b_121), .unset, .unset, .unset, .unset] [])) _
                    refine XS.dload X128.here hx rfl (hb hby at_250) rfl ?_
                    show Steps p.tables e below (T128.setTop (mkF m 252 #[.val (.int p1), .val (.int p2), .val (.int p3), .val (.int p4), .val (.int p5), .val (.int p6), .val (.int (Int32.ofNat mr)), .val (.int (Int32.ofNat nc)), .val (.ref b101), .val (.int (1 : Int32)), .val (.int (Int32.ofNat ri)), .val (.int (Int32.ofNat rj)), .val (.int (Int32.ofNat si)), .val (.int (Int32.ofNat sj)), .val (.int (Int32.ofNat ti)), .val (.int (Int32.ofNat tj)), .val (.double (FP.i2d p5)), .second, .val (.double (FP.i2d p6)), .second, .val (.ref b_121), .unset, .unset, .unset, .unset] [(.double (FP.i2d p5))])) _
                    refine XS.dstore X128.here hx rfl (hb hby at_252) rfl (l' := #[.val (.int p1), .val (.int p2), .val (.int p3), .val (.int p4), .val (.int p5), .val (.int p6), .val (.int (Int32.ofNat mr)), .val (.int (Int32.ofNat nc)), .val (.ref b101), .val (.int (1 : Int32)), .val (.int (Int32.ofNat ri)), .val (.int (Int32.ofNat rj)), .val (.int (Int32.ofNat si)), .val (.int (Int32.ofNat sj)), .val (.int (Int32.ofNat ti)), .val (.int (Int32.ofNat tj)), .val (.double (FP.i2d p5)), .second, .val (.double (FP.i2d p6)), .second, .val (.ref b_121), .val (.double (FP.i2d p5)), .second, .unset, .unset]) rfl ?_
                    show Steps p.tables e below (T128.setTop (mkF m 254 #[.val (.int p1), .val (.int p2), .val (.int p3), .val (.int p4), .val (.int p5), .val (.int p6), .val (.int (Int32.ofNat mr)), .val (.int (Int32.ofNat nc)), .val (.ref b101), .val (.int (1 : Int32)), .val (.int (Int32.ofNat ri)), .val (.int (Int32.ofNat rj)), .val (.int (Int32.ofNat si)), .val (.int (Int32.ofNat sj)), .val (.int (Int32.ofNat ti)), .val (.int (Int32.ofNat tj)), .val (.double (FP.i2d p5)), .second, .val (.double (FP.i2d p6)), .second, .val (.ref b_121), .val (.double (FP.i2d p5)), .second, .unset, .unset] [])) _
                    refine XS.goto X128.here hx rfl (pc0 := 254) (pc' := 260) rfl (hb hby at_254) (by decide) (by decide) ?_
                    exact kt)
                exact ⟨(FP.i2d p5), by unfold own_bef; rw [if_neg (fun q => hD q.2), if_pos ⟨hE, hF⟩], pre135⟩
              · skip
                have pre136 : ∀ t_, Steps p.tables e below (T128.setTop (mkF m 260 #[.val (.int p1), .val (.int p2), .val (.int p3), .val (.int p4), .val (.int p5), .val (.int p6), .val (.int (Int32.ofNat mr)), .val (.int (Int32.ofNat nc)), .val (.ref b101), .val (.int (1 : Int32)), .val (.int (Int32.ofNat ri)), .val (.int (Int32.ofNat rj)), .val (.int (Int32.ofNat si)), .val (.int (Int32.ofNat sj)), .val (.int (Int32.ofNat ti)), .val (.int (Int32.ofNat tj)), .val (.double (FP.i2d p5)), .second, .val (.double (FP.i2d p6)), .second, .val (.ref b_121), .val (.double (0 : UInt64)), .second, .unset, .unset] [])) t_ → Steps p.tables e below (s₁.setTop (entryFrame m #[(.int p1), (.int p2), (.int p3), (.int p4), (.int p5), (.int p6)] maxLocals)) t_ := fun t_ kt => pre134 t_ (by
                    show Steps p.tables e below (T128.setTop (mkF m 247 #[.val (.int p1), .val (.int p2), .val (.int p3), .val (.int p4), .val (.int p5), .val (.int p6), .val (.int (Int32.ofNat mr)), .val (.int (Int32.ofNat nc)), .val (.ref b101), .val (.int (1 : Int32)), .val (.int (Int32.ofNat ri)), .val (.int (Int32.ofNat rj)), .val (.int (Int32.ofNat si)), .val (.int (Int32.ofNat sj)), .val (.int (Int32.ofNat ti)), .val (.int (Int32.ofNat tj)), .val (.double (FP.i2d p5)), .second, .val (.double (FP.i2d p6)), .second, .val (.ref b_121), .unset, .unset, .unset, .unset] [(.int (Int32.ofNat rj)), (.int (Int32.ofNat tj))])) _
                    refine XS.icmpYes X128.here hx rfl (pc0 := 247) (pc' := 257) rfl (hb hby at_247) rfl (feq (hF : ¬ ((Int32.ofNat tj) = (Int32.ofNat rj)))).2 (by decide) (by decide) ?_
                    show Steps p.tables e below (T128.setTop (mkF m 257 #[.val (.int p1), .val (.int p2), .val (.int p3), .val (.int p4), .val (.int p5), .val (.int p6), .val (.int (Int32.ofNat mr)), .val (.int (Int32.ofNat nc)), .val (.ref b101), .val (.int (1 : Int32)), .val (.int (Int32.ofNat ri)), .val (.int (Int32.ofNat rj)), .val (.int (Int32.ofNat si)), .val (.int (Int32.ofNat sj)), .val (.int (Int32.ofNat ti)), .val (.int (Int32.ofNat tj)), .val (.double (FP.i2d p5)), .second, .val (.double (FP.i2d p6)), .second, .val (.ref b_121), .unset, .unset, .unset, .unset] [])) _
                    refine XS.dconst0 X128.here hx rfl (hb hby at_257) (v := (0 : UInt64)) rfl ?_
                    show Steps p.tables e below (T128.setTop (mkF m 258 #[.val (.int p1), .val (.int p2), .val (.int p3), .val (.int p4), .val (.int p5), .val (.int p6), .val (.int (Int32.ofNat mr)), .val (.int (Int32.ofNat nc)), .val (.ref b101), .val (.int (1 : Int32)), .val (.int (Int32.ofNat ri)), .val (.int (Int32.ofNat rj)), .val (.int (Int32.ofNat si)), .val (.int (Int32.ofNat sj)), .val (.int (Int32.ofNat ti)), .val (.int (Int32.ofNat tj)), .val (.double (FP.i2d p5)), .second, .val (.double (FP.i2d p6)), .second, .val (.ref b_121), .unset, .unset, .unset, .unset] [(.double (0 : UInt64))])) _
                    refine XS.dstore X128.here hx rfl (hb hby at_258) rfl (l' := #[.val (.int p1), .val (.int p2), .val (.int p3), .val (.int p4), .val (.int p5), .val (.int p6), .val (.int (Int32.ofNat mr)), .val (.int (Int32.ofNat nc)), .val (.ref b101), .val (.int (1 : Int32)), .val (.int (Int32.ofNat ri)), .val (.int (Int32.ofNat rj)), .val (.int (Int32.ofNat si)), .val (.int (Int32.ofNat sj)), .val (.int (Int32.ofNat ti)), .val (.int (Int32.ofNat tj)), .val (.double (FP.i2d p5)), .second, .val (.double (FP.i2d p6)), .second, .val (.ref b_121), .val (.double (0 : UInt64)), .second, .unset, .unset]) rfl ?_
                    exact kt)
                exact ⟨(0 : UInt64), by unfold own_bef; rw [if_neg (fun q => hD q.2), if_neg (fun q => hF q.2)], pre136⟩
            · skip
              have pre137 : ∀ t_, Steps p.tables e below (T128.setTop (mkF m 260 #[.val (.int p1), .val (.int p2), .val (.int p3), .val (.int p4), .val (.int p5), .val (.int p6), .val (.int (Int32.ofNat mr)), .val (.int (Int32.ofNat nc)), .val (.ref b101), .val (.int (1 : Int32)), .val (.int (Int32.ofNat ri)), .val (.int (Int32.ofNat rj)), .val (.int (Int32.ofNat si)), .val (.int (Int32.ofNat sj)), .val (.int (Int32.ofNat ti)), .val (.int (Int32.ofNat tj)), .val (.double (FP.i2d p5)), .second, .val (.double (FP.i2d p6)), .second, .val (.ref b_121), .val (.double (0 : UInt64)), .second, .unset, .unset] [])) t_ → Steps p.tables e below (s₁.setTop (entryFrame m #[(.int p1), (.int p2), (.int p3), (.int p4), (.int p5), (.int p6)] maxLocals)) t_ := fun t_ kt => pre133 t_ (by
                  show Steps p.tables e below (T128.setTop (mkF m 240 #[.val (.int p1), .val (.int p2), .val (.int p3), .val (.int p4), .val (.int p5), .val (.int p6), .val (.int (Int32.ofNat mr)), .val (.int (Int32.ofNat nc)), .val (.ref b101), .val (.int (1 : Int32)), .val (.int (Int32.ofNat ri)), .val (.int (Int32.ofNat rj)), .val (.int (Int32.ofNat si)), .val (.int (Int32.ofNat sj)), .val (.int (Int32.ofNat ti)), .val (.int (Int32.ofNat tj)), .val (.double (FP.i2d p5)), .second, .val (.double (FP.i2d p6)), .second, .val (.ref b_121), .unset, .unset, .unset, .unset] [(.int (Int32.ofNat ri)), (.int (Int32.ofNat ti))])) _
                  refine XS.icmpYes X128.here hx rfl (pc0 := 240) (pc' := 257) rfl (hb hby at_240) rfl (feq (hE : ¬ ((Int32.ofNat ti) = (Int32.ofNat ri)))).2 (by decide) (by decide) ?_
                  show Steps p.tables e below (T128.setTop (mkF m 257 #[.val (.int p1), .val (.int p2), .val (.int p3), .val (.int p4), .val (.int p5), .val (.int p6), .val (.int (Int32.ofNat mr)), .val (.int (Int32.ofNat nc)), .val (.ref b101), .val (.int (1 : Int32)), .val (.int (Int32.ofNat ri)), .val (.int (Int32.ofNat rj)), .val (.int (Int32.ofNat si)), .val (.int (Int32.ofNat sj)), .val (.int (Int32.ofNat ti)), .val (.int (Int32.ofNat tj)), .val (.double (FP.i2d p5)), .second, .val (.double (FP.i2d p6)), .second, .val (.ref b_121), .unset, .unset, .unset, .unset] [])) _
                  refine XS.dconst0 X128.here hx rfl (hb hby at_257) (v := (0 : UInt64)) rfl ?_
                  show Steps p.tables e below (T128.setTop (mkF m 258 #[.val (.int p1), .val (.int p2), .val (.int p3), .val (.int p4), .val (.int p5), .val (.int p6), .val (.int (Int32.ofNat mr)), .val (.int (Int32.ofNat nc)), .val (.ref b101), .val (.int (1 : Int32)), .val (.int (Int32.ofNat ri)), .val (.int (Int32.ofNat rj)), .val (.int (Int32.ofNat si)), .val (.int (Int32.ofNat sj)), .val (.int (Int32.ofNat ti)), .val (.int (Int32.ofNat tj)), .val (.double (FP.i2d p5)), .second, .val (.double (FP.i2d p6)), .second, .val (.ref b_121), .unset, .unset, .unset, .unset] [(.double (0 : UInt64))])) _
                  refine XS.dstore X128.here hx rfl (hb hby at_258) rfl (l' := #[.val (.int p1), .val (.int p2), .val (.int p3), .val (.int p4), .val (.int p5), .val (.int p6), .val (.int (Int32.ofNat mr)), .val (.int (Int32.ofNat nc)), .val (.ref b101), .val (.int (1 : Int32)), .val (.int (Int32.ofNat ri)), .val (.int (Int32.ofNat rj)), .val (.int (Int32.ofNat si)), .val (.int (Int32.ofNat sj)), .val (.int (Int32.ofNat ti)), .val (.int (Int32.ofNat tj)), .val (.double (FP.i2d p5)), .second, .val (.double (FP.i2d p6)), .second, .val (.ref b_121), .val (.double (0 : UInt64)), .second, .unset, .unset]) rfl ?_
                  exact kt)
              exact ⟨(0 : UInt64), by unfold own_bef; rw [if_neg (fun q => hD q.2), if_neg (fun q => hE q.1)], pre137⟩
        · skip
          have pre138 : ∀ t_, Steps p.tables e below (T128.setTop (mkF m 240 #[.val (.int p1), .val (.int p2), .val (.int p3), .val (.int p4), .val (.int p5), .val (.int p6), .val (.int (Int32.ofNat mr)), .val (.int (Int32.ofNat nc)), .val (.ref b101), .val (.int (1 : Int32)), .val (.int (Int32.ofNat ri)), .val (.int (Int32.ofNat rj)), .val (.int (Int32.ofNat si)), .val (.int (Int32.ofNat sj)), .val (.int (Int32.ofNat ti)), .val (.int (Int32.ofNat tj)), .val (.double (FP.i2d p5)), .second, .val (.double (FP.i2d p6)), .second, .val (.ref b_121), .unset, .unset, .unset, .unset] [(.int (Int32.ofNat ri)), (.int (Int32.ofNat ti))])) t_ → Steps p.tables e below (s₁.setTop (entryFrame m #[(.int p1), (.int p2), (.int p3), (.int p4), (.int p5), (.int p6)] maxLocals)) t_ := fun t_ kt => pre129 t_ (by
              show Steps p.tables e below (T128.setTop (mkF m 219 #[.val (.int p1), .val (.int p2), .val (.int p3), .val (.int p4), .val (.int p5), .val (.int p6), .val (.int (Int32.ofNat mr)), .val (.int (Int32.ofNat nc)), .val (.ref b101), .val (.int (1 : Int32)), .val (.int (Int32.ofNat ri)), .val (.int (Int32.ofNat rj)), .val (.int (Int32.ofNat si)), .val (.int (Int32.ofNat sj)), .val (.int (Int32.ofNat ti)), .val (.int (Int32.ofNat tj)), .val (.double (FP.i2d p5)), .second, .val (.double (FP.i2d p6)), .second, .val (.ref b_121), .unset, .unset, .unset, .unset] [(.int (Int32.ofNat si)), (.int (Int32.ofNat ti))])) _
              refine XS.icmpYes X128.here hx rfl (pc0 := 219) (pc' := 236) rfl (hb hby at_219) rfl (feq (hC : ¬ ((Int32.ofNat ti) = (Int32.ofNat si)))).2 (by decide) (by decide) ?_
              show Steps p.tables e below (T128.setTop (mkF m 236 #[.val (.int p1), .val (.int p2), .val (.int p3), .val (.int p4), .val (.int p5), .val (.int p6), .val (.int (Int32.ofNat mr)), .val (.int (Int32.ofNat nc)), .val (.ref b101), .val (.int (1 : Int32)), .val (.int (Int32.ofNat ri)), .val (.int (Int32.ofNat rj)), .val (.int (Int32.ofNat si)), .val (.int (Int32.ofNat sj)), .val (.int (Int32.ofNat ti)), .val (.int (Int32.ofNat tj)), .val (.double (FP.i2d p5)), .second, .val (.double (FP.i2d p6)), .second, .val (.ref b_121), .unset, .unset, .unset, .unset] [])) _
              refine XS.iload X128.here hx rfl (hb hby at_236) rfl ?_
              show Steps p.tables e below (T128.setTop (mkF m 238 #[.val (.int p1), .val (.int p2), .val (.int p3), .val (.int p4), .val (.int p5), .val (.int p6), .val (.int (Int32.ofNat mr)), .val (.int (Int32.ofNat nc)), .val (.ref b101), .val (.int (1 : Int32)), .val (.int (Int32.ofNat ri)), .val (.int (Int32.ofNat rj)), .val (.int (Int32.ofNat si)), .val (.int (Int32.ofNat sj)), .val (.int (Int32.ofNat ti)), .val (.int (Int32.ofNat tj)), .val (.double (FP.i2d p5)), .second, .val (.double (FP.i2d p6)), .second, .val (.ref b_121), .unset, .unset, .unset, .unset] [(.int (Int32.ofNat ti))])) _
              refine XS.iload X128.here hx rfl (hb hby at_238) rfl ?_
              exact kt)
          by_cases hE : (Int32.ofNat ti) = (Int32.ofNat ri)
          · skip
            have pre139 : ∀ t_, Steps p.tables e below (T128.setTop (mkF m 247 #[.val (.int p1), .val (.int p2), .val (.int p3), .val (.int p4), .val (.int p5), .val (.int p6), .val (.int (Int32.ofNat mr)), .val (.int (Int32.ofNat nc)), .val (.ref b101), .val (.int (1 : Int32)), .val (.int (Int32.ofNat ri)), .val (.int (Int32.ofNat rj)), .val (.int (Int32.ofNat si)), .val (.int (Int32.ofNat sj)), .val (.int (Int32.ofNat ti)), .val (.int (Int32.ofNat tj)), .val (.double (FP.i2d p5)), .second, .val (.double (FP.i2d p6)), .second, .val (.ref b_121), .unset, .unset, .unset, .unset] [(.int (Int32.ofNat rj)), (.int (Int32.ofNat tj))])) t_ → Steps p.tables e below (s₁.setTop (entryFrame m #[(.int p1), (.int p2), (.int p3), (.int p4), (.int p5), (.int p6)] maxLocals)) t_ := fun t_ kt => pre138 t_ (by
                show Steps p.tables e below (T128.setTop (mkF m 240 #[.val (.int p1), .val (.int p2), .val (.int p3), .val (.int p4), .val (.int p5), .val (.int p6), .val (.int (Int32.ofNat mr)), .val (.int (Int32.ofNat nc)), .val (.ref b101), .val (.int (1 : Int32)), .val (.int (Int32.ofNat ri)), .val (.int (Int32.ofNat rj)), .val (.int (Int32.ofNat si)), .val (.int (Int32.ofNat sj)), .val (.int (Int32.ofNat ti)), .val (.int (Int32.ofNat tj)), .val (.double (FP.i2d p5)), .second, .val (.double (FP.i2d p6)), .second, .val (.ref b_121), .unset, .unset, .unset, .unset] [(.int (Int32.ofNat ri)), (.int (Int32.ofNat ti))])) _
                refine XS.icmpNo X128.here hx rfl (hb hby at_240) rfl (teq (hE : (Int32.ofNat ti) = (Int32.ofNat ri))).2 ?_
                show Steps p.tables e below (T128.setTop (mkF m 243 #[.val (.int p1), .val (.int p2), .val (.int p3), .val (.int p4), .val (.int p5), .val (.int p6), .val (.int (Int32.ofNat mr)), .val (.int (Int32.ofNat nc)), .val (.ref b101), .val (.int (1 : Int32)), .val (.int (Int32.ofNat ri)), .val (.int (Int32.ofNat rj)), .val (.int (Int32.ofNat si)), .val (.int (Int32.ofNat sj)), .val (.int (Int32.ofNat ti)), .val (.int (Int32.ofNat tj)), .val (.double (FP.i2d p5)), .second, .val (.double (FP.i2d p6)), .second, .val (.ref b_121), .unset, .unset, .unset, .unset] [])) _
                refine XS.iload X128.here hx rfl (hb hby at_243) rfl ?_
                show Steps p.tables e below (T128.setTop (mkF m 245 #[.val (.int p1), .val (.int p2), .val (.int p3), .val (.int p4), .val (.int p5), .val (.int p6), .val (.int (Int32.ofNat mr)), .val (.int (Int32.ofNat nc)), .val (.ref b101), .val (.int (1 : Int32)), .val (.int (Int32.ofNat ri)), .val (.int (Int32.ofNat rj)), .val (.int (Int32.ofNat si)), .val (.int (Int32.ofNat sj)), .val (.int (Int32.ofNat ti)), .val (.int (Int32.ofNat tj)), .val (.double (FP.i2d p5)), .second, .val (.double (FP.i2d p6)), .second, .val (.ref b_121), .unset, .unset, .unset, .unset] [(.int (Int32.ofNat tj))])) _
                refine XS.iload X128.here hx rfl (hb hby at_245) rfl ?_
                exact kt)
            by_cases hF : (Int32.ofNat tj) = (Int32.ofNat rj)
            · skip
              have pre140 : ∀ t_, Steps p.tables e below (T128.setTop (mkF m 260 #[.val (.int p1), .val (.int p2), .val (.int p3), .val (.int p4), .val (.int p5), .val (.int p6), .val (.int (Int32.ofNat mr)), .val (.int (Int32.ofNat nc)), .val (.ref b101), .val (.int (1 : Int32)), .val (.int (Int32.ofNat ri)), .val (.int (Int32.ofNat rj)), .val (.int (Int32.ofNat si)), .val (.int (Int32.ofNat sj)), .val (.int (Int32.ofNat ti)), .val (.int (Int32.ofNat tj)), .val (.double (FP.i2d p5)), .second, .val (.double (FP.i2d p6)), .second, .val (.ref b_121), .val (.double (FP.i2d p5)), .second, .unset, .unset] [])) t_ → Steps p.tables e below (s₁.setTop (entryFrame m #[(.int p1), (.int p2), (.int p3), (.int p4), (.int p5), (.int p6)] maxLocals)) t_ := fun t_ kt => pre139 t_ (by
                  show Steps p.tables e below (T128.setTop (mkF m 247 #[.val (.int p1), .val (.int p2), .val (.int p3), .val (.int p4), .val (.int p5), .val (.int p6), .val (.int (Int32.ofNat mr)), .val (.int (Int32.ofNat nc)), .val (.ref b101), .val (.int (1 : Int32)), .val (.int (Int32.ofNat ri)), .val (.int (Int32.ofNat rj)), .val (.int (Int32.ofNat si)), .val (.int (Int32.ofNat sj)), .val (.int (Int32.ofNat ti)), .val (.int (Int32.ofNat tj)), .val (.double (FP.i2d p5)), .second, .val (.double (FP.i2d p6)), .second, .val (.ref b_121), .unset, .unset, .unset, .unset] [(.int (Int32.ofNat rj)), (.int (Int32.ofNat tj))])) _
                  refine XS.icmpNo X128.here hx rfl (hb hby at_247) rfl (teq (hF : (Int32.ofNat tj) = (Int32.ofNat rj))).2 ?_
                  show Steps p.tables e below (T128.setTop (mkF m 250 #[.val (.int p1), .val (.int p2), .val (.int p3), .val (.int p4), .val (.int p5), .val (.int p6), .val (.int (Int32.ofNat mr)), .val (.int (Int32.ofNat nc)), .val (.ref b101), .val (.int (1 : Int32)), .val (.int (Int32.ofNat ri)), .val (.int (Int32.ofNat rj)), .val (.int (Int32.ofNat si)), .val (.int (Int32.ofNat sj)), .val (.int (Int32.ofNat ti)), .val (.int (Int32.ofNat tj)), .val (.double (FP.i2d p5)), .second, .val (.double (FP.i2d p6)), .second, .val (.ref b_121), .unset, .unset, .unset, .unset] [])) _
                  refine XS.dload X128.here hx rfl (hb hby at_250) rfl ?_
                  show Steps p.tables e below (T128.setTop (mkF m 252 #[.val (.int p1), .val (.int p2), .val (.int p3), .val (.int p4), .val (.int p5), .val (.int p6), .val (.int (Int32.ofNat mr)), .val (.int (Int32.ofNat nc)), .val (.ref b101), .val (.int (1 : Int32)), .val (.int (Int32.ofNat ri)), .val (.int (Int32.ofNat rj)), .val (.int (Int32.ofNat si)), .val (.int (Int32.ofNat sj)), .val (.int (Int32.ofNat ti)), .val (.int (Int32.ofNat tj)), .val (.double (FP.i2d p5)), .second, .val (.double (FP.i2d p6)), .second, .val (.ref b_121), .unset, .unset, .unset, .unset] [(.double (FP.i2d p5))])) _
                  refine XS.dstore X128.here hx rfl (hb hby at_252) rfl (l' := #[.val (.int p1), .val (.int p2), .val (.int p3), .val (.int p4), .val (.int p5), .val (.int p6), .val (.int (Int32.ofNat mr)), .val (.int (Int32.ofNat nc)), .val (.ref b101), .val (.int (1 : Int32)), .val (.int (Int32.ofNat ri)), .val (.int (Int32.ofNat rj)), .val (.int (Int32.ofNat si)), .val (.int (Int32.ofNat sj)), .val (.int (Int32.ofNat ti)), .val (.int (Int32.ofNat tj)), .val (.double (FP.i2d p5)), .second, .val (.double (FP.i2d p6)), .second, .val (.ref b_121), .val (.double (FP.i2d p5)), .second, .unset, .unset]) rfl ?_
                  show Steps p.tables e below (T128.setTop (mkF m 254 #[.val (.int p1), .val (.int p2), .val (.int p3), .val (.int p4), .val (.int p5), .val (.int p6), .val (.int (Int32.ofNat mr)), .val (.int (Int32.ofNat nc)), .val (.ref b101), .val (.int (1 : Int32)), .val (.int (Int32.ofNat ri)), .val (.int (Int32.ofNat rj)), .val (.int (Int32.ofNat si)), .val (.int (Int32.ofNat sj)), .val (.int (Int32.ofNat ti)), .val (.int (Int32.ofNat tj)), .val (.double (FP.i2d p5)), .second, .val (.double (FP.i2d p6)), .second, .val (.ref b_121), .val (.double (FP.i2d p5)), .second, .unset, .unset] [])) _
                  refine XS.goto X128.here hx rfl (pc0 := 254) (pc' := 260) rfl (hb hby at_254) (by decide) (by decide) ?_
                  exact kt)
              exact ⟨(FP.i2d p5), by unfold own_bef; rw [if_neg (fun q => hC q.1), if_pos ⟨hE, hF⟩], pre140⟩
            · skip
              have pre141 : ∀ t_, Steps p.tables e below (T128.setTop (mkF m 260 #[.val (.int p1), .val (.int p2), .val (.int p3), .val (.int p4), .val (.int p5), .val (.int p6), .val (.int (Int32.ofNat mr)), .val (.int (Int32.ofNat nc)), .val (.ref b101), .val (.int (1 : Int32)), .val (.int (Int32.ofNat ri)), .val (.int (Int32.ofNat rj)), .val (.int (Int32.ofNat si)), .val (.int (Int32.ofNat sj)), .val (.int (Int32.ofNat ti)), .val (.int (Int32.ofNat tj)), .val (.double (FP.i2d p5)), .second, .val (.double (FP.i2d p6)), .second, .val (.ref b_121), .val (.double (0 : UInt64)), .second, .unset, .unset] [])) t_ → Steps p.tables e below (s₁.setTop (entryFrame m #[(.int p1), (.int p2), (.int p3), (.int p4), (.int p5), (.int p6)] maxLocals)) t_ := fun t_ kt => pre139 t_ (by
                  show Steps p.tables e below (T128.setTop (mkF m 247 #[.val (.int p1), .val (.int p2), .val (.int p3), .val (.int p4), .val (.int p5), .val (.int p6), .val (.int (Int32.ofNat mr)), .val (.int (Int32.ofNat nc)), .val (.ref b101), .val (.int (1 : Int32)), .val (.int (Int32.ofNat ri)), .val (.int (Int32.ofNat rj)), .val (.int (Int32.ofNat si)), .val (.int (Int32.ofNat sj)), .val (.int (Int32.ofNat ti)), .val (.int (Int32.ofNat tj)), .val (.double (FP.i2d p5)), .second, .val (.double (FP.i2d p6)), .second, .val (.ref b_121), .unset, .unset, .unset, .unset] [(.int (Int32.ofNat rj)), (.int (Int32.ofNat tj))])) _
                  refine XS.icmpYes X128.here hx rfl (pc0 := 247) (pc' := 257) rfl (hb hby at_247) rfl (feq (hF : ¬ ((Int32.ofNat tj) = (Int32.ofNat rj)))).2 (by decide) (by decide) ?_
                  show Steps p.tables e below (T128.setTop (mkF m 257 #[.val (.int p1), .val (.int p2), .val (.int p3), .val (.int p4), .val (.int p5), .val (.int p6), .val (.int (Int32.ofNat mr)), .val (.int (Int32.ofNat nc)), .val (.ref b101), .val (.int (1 : Int32)), .val (.int (Int32.ofNat ri)), .val (.int (Int32.ofNat rj)), .val (.int (Int32.ofNat si)), .val (.int (Int32.ofNat sj)), .val (.int (Int32.ofNat ti)), .val (.int (Int32.ofNat tj)), .val (.double (FP.i2d p5)), .second, .val (.double (FP.i2d p6)), .second, .val (.ref b_121), .unset, .unset, .unset, .unset] [])) _
                  refine XS.dconst0 X128.here hx rfl (hb hby at_257) (v := (0 : UInt64)) rfl ?_
                  show Steps p.tables e below (T128.setTop (mkF m 258 #[.val (.int p1), .val (.int p2), .val (.int p3), .val (.int p4), .val (.int p5), .val (.int p6), .val (.int (Int32.ofNat mr)), .val (.int (Int32.ofNat nc)), .val (.ref b101), .val (.int (1 : Int32)), .val (.int (Int32.ofNat ri)), .val (.int (Int32.ofNat rj)), .val (.int (Int32.ofNat si)), .val (.int (Int32.ofNat sj)), .val (.int (Int32.ofNat ti)), .val (.int (Int32.ofNat tj)), .val (.double (FP.i2d p5)), .second, .val (.double (FP.i2d p6)), .second, .val (.ref b_121), .unset, .unset, .unset, .unset] [(.double (0 : UInt64))])) _
                  refine XS.dstore X128.here hx rfl (hb hby at_258) rfl (l' := #[.val (.int p1), .val (.int p2), .val (.int p3), .val (.int p4), .val (.int p5), .val (.int p6), .val (.int (Int32.ofNat mr)), .val (.int (Int32.ofNat nc)), .val (.ref b101), .val (.int (1 : Int32)), .val (.int (Int32.ofNat ri)), .val (.int (Int32.ofNat rj)), .val (.int (Int32.ofNat si)), .val (.int (Int32.ofNat sj)), .val (.int (Int32.ofNat ti)), .val (.int (Int32.ofNat tj)), .val (.double (FP.i2d p5)), .second, .val (.double (FP.i2d p6)), .second, .val (.ref b_121), .val (.double (0 : UInt64)), .second, .unset, .unset]) rfl ?_
                  exact kt)
              exact ⟨(0 : UInt64), by unfold own_bef; rw [if_neg (fun q => hC q.1), if_neg (fun q => hF q.2)], pre141⟩
          · skip
            have pre142 : ∀ t_, Steps p.tables e below (T128.setTop (mkF m 260 #[.val (.int p1), .val (.int p2), .val (.int p3), .val (.int p4), .val (.int p5), .val (.int p6), .val (.int (Int32.ofNat mr)), .val (.int (Int32.ofNat nc)), .val (.ref b101), .val (.int (1 : Int32)), .val (.int (Int32.ofNat ri)), .val (.int (Int32.ofNat rj)), .val (.int (Int32.ofNat si)), .val (.int (Int32.ofNat sj)), .val (.int (Int32.ofNat ti)), .val (.int (Int32.ofNat tj)), .val (.double (FP.i2d p5)), .second, .val (.double (FP.i2d p6)), .second, .val (.ref b_121), .val (.double (0 : UInt64)), .second, .unset, .unset] [])) t_ → Steps p.tables e below (s₁.setTop (entryFrame m #[(.int p1), (.int p2), (.int p3), (.int p4), (.int p5), (.int p6)] maxLocals)) t_ := fun t_ kt => pre138 t_ (by
                show Steps p.tables e below (T128.setTop (mkF m 240 #[.val (.int p1), .val (.int p2), .val (.int p3), .val (.int p4), .val (.int p5), .val (.int p6), .val (.int (Int32.ofNat mr)), .val (.int (Int32.ofNat nc)), .val (.ref b101), .val (.int (1 : Int32)), .val (.int (Int32.ofNat ri)), .val (.int (Int32.ofNat rj)), .val (.int (Int32.ofNat si)), .val (.int (Int32.ofNat sj)), .val (.int (Int32.ofNat ti)), .val (.int (Int32.ofNat tj)), .val (.double (FP.i2d p5)), .second, .val (.double (FP.i2d p6)), .second, .val (.ref b_121), .unset, .unset, .unset, .unset] [(.int (Int32.ofNat ri)), (.int (Int32.ofNat ti))])) _
                refine XS.icmpYes X128.here hx rfl (pc0 := 240) (pc' := 257) rfl (hb hby at_240) rfl (feq (hE : ¬ ((Int32.ofNat ti) = (Int32.ofNat ri)))).2 (by decide) (by decide) ?_
                show Steps p.tables e below (T128.setTop (mkF m 257 #[.val (.int p1), .val (.int p2), .val (.int p3), .val (.int p4), .val (.int p5), .val (.int p6), .val (.int (Int32.ofNat mr)), .val (.int (Int32.ofNat nc)), .val (.ref b101), .val (.int (1 : Int32)), .val (.int (Int32.ofNat ri)), .val (.int (Int32.ofNat rj)), .val (.int (Int32.ofNat si)), .val (.int (Int32.ofNat sj)), .val (.int (Int32.ofNat ti)), .val (.int (Int32.ofNat tj)), .val (.double (FP.i2d p5)), .second, .val (.double (FP.i2d p6)), .second, .val (.ref b_121), .unset, .unset, .unset, .unset] [])) _
                refine XS.dconst0 X128.here hx rfl (hb hby at_257) (v := (0 : UInt64)) rfl ?_
                show Steps p.tables e below (T128.setTop (mkF m 258 #[.val (.int p1), .val (.int p2), .val (.int p3), .val (.int p4), .val (.int p5), .val (.int p6), .val (.int (Int32.ofNat mr)), .val (.int (Int32.ofNat nc)), .val (.ref b101), .val (.int (1 : Int32)), .val (.int (Int32.ofNat ri)), .val (.int (Int32.ofNat rj)), .val (.int (Int32.ofNat si)), .val (.int (Int32.ofNat sj)), .val (.int (Int32.ofNat ti)), .val (.int (Int32.ofNat tj)), .val (.double (FP.i2d p5)), .second, .val (.double (FP.i2d p6)), .second, .val (.ref b_121), .unset, .unset, .unset, .unset] [(.double (0 : UInt64))])) _
                refine XS.dstore X128.here hx rfl (hb hby at_258) rfl (l' := #[.val (.int p1), .val (.int p2), .val (.int p3), .val (.int p4), .val (.int p5), .val (.int p6), .val (.int (Int32.ofNat mr)), .val (.int (Int32.ofNat nc)), .val (.ref b101), .val (.int (1 : Int32)), .val (.int (Int32.ofNat ri)), .val (.int (Int32.ofNat rj)), .val (.int (Int32.ofNat si)), .val (.int (Int32.ofNat sj)), .val (.int (Int32.ofNat ti)), .val (.int (Int32.ofNat tj)), .val (.double (FP.i2d p5)), .second, .val (.double (FP.i2d p6)), .second, .val (.ref b_121), .val (.double (0 : UInt64)), .second, .unset, .unset]) rfl ?_
                exact kt)
            exact ⟨(0 : UInt64), by unfold own_bef; rw [if_neg (fun q => hC q.1), if_neg (fun q => hE q.1)], pre142⟩
      obtain ⟨cl143, Ar143, Q143, S143, M143, H143, G143⟩ := id x121_1
      have in144 : ¬ ((Int32.ofNat ti) < 0 ∨ cl143.slots.size ≤ ((Int32.ofNat ti)).toNatClampNeg) := inb_of S143 ⟨nn32 (by omega), lt32 hti (by omega)⟩
      have at145 : cl143.slots[((Int32.ofNat ti)).toNatClampNeg]? = some (.ref (b_121 + 1 + ti)) := by rw [n32 (by omega), H143 ti (by rw [S143, n32 (by omega)]; exact hti), own_rat _ hti]
      obtain ⟨cl146, Ar146, Q146, S146, M146, H146, G146⟩ := id row_t
      have in147 : ¬ ((Int32.ofNat tj) < 0 ∨ cl146.slots.size ≤ ((Int32.ofNat tj)).toNatClampNeg) := inb_of S146 ⟨nn32 (by omega), lt32 htj (by omega)⟩
      have at148 : cl146.slots[((Int32.ofNat tj)).toNatClampNeg]? = some (.double ((own_upd (own_upd (fun _ => (0 : UInt64)) (ri + rj * mr) (FP.i2d p5)) (si + sj * mr) (FP.i2d p6)) (ti + tj * mr))) := by rw [n32 (by omega), H146 tj (by rw [S146, n32 (by omega)]; exact htj), own_dat _ htj]
      have pre149 : ∀ t_, Steps p.tables e below (T128.setTop (mkF m 276 #[.val (.int p1), .val (.int p2), .val (.int p3), .val (.int p4), .val (.int p5), .val (.int p6), .val (.int (Int32.ofNat mr)), .val (.int (Int32.ofNat nc)), .val (.ref b101), .val (.int (1 : Int32)), .val (.int (Int32.ofNat ri)), .val (.int (Int32.ofNat rj)), .val (.int (Int32.ofNat si)), .val (.int (Int32.ofNat sj)), .val (.int (Int32.ofNat ti)), .val (.int (Int32.ofNat tj)), .val (.double (FP.i2d p5)), .second, .val (.double (FP.i2d p6)), .second, .val (.ref b_121), .val (.double xx), .second, .unset, .unset] [])) t_ → Steps p.tables e below (s₁.setTop (entryFrame m #[(.int p1), (.int p2), (.int p3), (.int p4), (.int p5), (.int p6)] maxLocals)) t_ := fun t_ kt => pre130 t_ (by
          show Steps p.tables e below (T128.setTop (mkF m 260 #[.val (.int p1), .val (.int p2), .val (.int p3), .val (.int p4), .val (.int p5), .val (.int p6), .val (.int (Int32.ofNat mr)), .val (.int (Int32.ofNat nc)), .val (.ref b101), .val (.int (1 : Int32)), .val (.int (Int32.ofNat ri)), .val (.int (Int32.ofNat rj)), .val (.int (Int32.ofNat si)), .val (.int (Int32.ofNat sj)), .val (.int (Int32.ofNat ti)), .val (.int (Int32.ofNat tj)), .val (.double (FP.i2d p5)), .second, .val (.double (FP.i2d p6)), .second, .val (.ref b_121), .val (.double xx), .second, .unset, .unset] [])) _
          refine XS.aload X128.here hx rfl (hb hby at_260) rfl rfl ?_
          show Steps p.tables e below (T128.setTop (mkF m 262 #[.val (.int p1), .val (.int p2), .val (.int p3), .val (.int p4), .val (.int p5), .val (.int p6), .val (.int (Int32.ofNat mr)), .val (.int (Int32.ofNat nc)), .val (.ref b101), .val (.int (1 : Int32)), .val (.int (Int32.ofNat ri)), .val (.int (Int32.ofNat rj)), .val (.int (Int32.ofNat si)), .val (.int (Int32.ofNat sj)), .val (.int (Int32.ofNat ti)), .val (.int (Int32.ofNat tj)), .val (.double (FP.i2d p5)), .second, .val (.double (FP.i2d p6)), .second, .val (.ref b_121), .val (.double xx), .second, .unset, .unset] [(.ref b_121)])) _
          refine XS.iload X128.here hx rfl (hb hby at_262) rfl ?_
          show Steps p.tables e below (T128.setTop (mkF m 264 #[.val (.int p1), .val (.int p2), .val (.int p3), .val (.int p4), .val (.int p5), .val (.int p6), .val (.int (Int32.ofNat mr)), .val (.int (Int32.ofNat nc)), .val (.ref b101), .val (.int (1 : Int32)), .val (.int (Int32.ofNat ri)), .val (.int (Int32.ofNat rj)), .val (.int (Int32.ofNat si)), .val (.int (Int32.ofNat sj)), .val (.int (Int32.ofNat ti)), .val (.int (Int32.ofNat tj)), .val (.double (FP.i2d p5)), .second, .val (.double (FP.i2d p6)), .second, .val (.ref b_121), .val (.double xx), .second, .unset, .unset] [(.int (Int32.ofNat ti)), (.ref b_121)])) _
          refine X128.aaload hx (j := (Int32.ofNat ti)) (v := (.ref (b_121 + 1 + ti))) (by rw [e128]; exact Ar143.1) (State.isArrayOf_alike hZ.alike Ar143.2.1) rfl Ar143.2.2 in144 at145 (g := (mkF m 264 #[.val (.int p1), .val (.int p2), .val (.int p3), .val (.int p4), .val (.int p5), .val (.int p6), .val (.int (Int32.ofNat mr)), .val (.int (Int32.ofNat nc)), .val (.ref b101), .val (.int (1 : Int32)), .val (.int (Int32.ofNat ri)), .val (.int (Int32.ofNat rj)), .val (.int (Int32.ofNat si)), .val (.int (Int32.ofNat sj)), .val (.int (Int32.ofNat ti)), .val (.int (Int32.ofNat tj)), .val (.double (FP.i2d p5)), .second, .val (.double (FP.i2d p6)), .second, .val (.ref b_121), .val (.double xx), .second, .unset, .unset] [(.int (Int32.ofNat ti)), (.ref b_121)])) rfl rfl (hb hby at_264) _ ?_
          show Steps p.tables e below (T128.setTop (mkF m 265 #[.val (.int p1), .val (.int p2), .val (.int p3), .val (.int p4), .val (.int p5), .val (.int p6), .val (.int (Int32.ofNat mr)), .val (.int (Int32.ofNat nc)), .val (.ref b101), .val (.int (1 : Int32)), .val (.int (Int32.ofNat ri)), .val (.int (Int32.ofNat rj)), .val (.int (Int32.ofNat si)), .val (.int (Int32.ofNat sj)), .val (.int (Int32.ofNat ti)), .val (.int (Int32.ofNat tj)), .val (.double (FP.i2d p5)), .second, .val (.double (FP.i2d p6)), .second, .val (.ref b_121), .val (.double xx), .second, .unset, .unset] [(.ref (b_121 + 1 + ti))])) _
          refine XS.iload X128.here hx rfl (hb hby at_265) rfl ?_
          show Steps p.tables e below (T128.setTop (mkF m 267 #[.val (.int p1), .val (.int p2), .val (.int p3), .val (.int p4), .val (.int p5), .val (.int p6), .val (.int (Int32.ofNat mr)), .val (.int (Int32.ofNat nc)), .val (.ref b101), .val (.int (1 : Int32)), .val (.int (Int32.ofNat ri)), .val (.int (Int32.ofNat rj)), .val (.int (Int32.ofNat si)), .val (.int (Int32.ofNat sj)), .val (.int (Int32.ofNat ti)), .val (.int (Int32.ofNat tj)), .val (.double (FP.i2d p5)), .second, .val (.double (FP.i2d p6)), .second, .val (.ref b_121), .val (.double xx), .second, .unset, .unset] [(.int (Int32.ofNat tj)), (.ref (b_121 + 1 + ti))])) _
          refine X128.daload hx (j := (Int32.ofNat tj)) (v := (.double ((own_upd (own_upd (fun _ => (0 : UInt64)) (ri + rj * mr) (FP.i2d p5)) (si + sj * mr) (FP.i2d p6)) (ti + tj * mr)))) (by rw [e128]; exact Ar146.1) (State.isArrayOf_alike hZ.alike Ar146.2.1) Ar146.2.2 in147 at148 (g := (mkF m 267 #[.val (.int p1), .val (.int p2), .val (.int p3), .val (.int p4), .val (.int p5), .val (.int p6), .val (.int (Int32.ofNat mr)), .val (.int (Int32.ofNat nc)), .val (.ref b101), .val (.int (1 : Int32)), .val (.int (Int32.ofNat ri)), .val (.int (Int32.ofNat rj)), .val (.int (Int32.ofNat si)), .val (.int (Int32.ofNat sj)), .val (.int (Int32.ofNat ti)), .val (.int (Int32.ofNat tj)), .val (.double (FP.i2d p5)), .second, .val (.double (FP.i2d p6)), .second, .val (.ref b_121), .val (.double xx), .second, .unset, .unset] [(.int (Int32.ofNat tj)), (.ref (b_121 + 1 + ti))])) rfl rfl (hb hby at_267) _ ?_
          show Steps p.tables e below (T128.setTop (mkF m 268 #[.val (.int p1), .val (.int p2), .val (.int p3), .val (.int p4), .val (.int p5), .val (.int p6), .val (.int (Int32.ofNat mr)), .val (.int (Int32.ofNat nc)), .val (.ref b101), .val (.int (1 : Int32)), .val (.int (Int32.ofNat ri)), .val (.int (Int32.ofNat rj)), .val (.int (Int32.ofNat si)), .val (.int (Int32.ofNat sj)), .val (.int (Int32.ofNat ti)), .val (.int (Int32.ofNat tj)), .val (.double (FP.i2d p5)), .second, .val (.double (FP.i2d p6)), .second, .val (.ref b_121), .val (.double xx), .second, .unset, .unset] [(.double ((own_upd (own_upd (fun _ => (0 : UInt64)) (ri + rj * mr) (FP.i2d p5)) (si + sj * mr) (FP.i2d p6)) (ti + tj * mr)))])) _
          refine XS.dload X128.here hx rfl (hb hby at_268) rfl ?_
          show Steps p.tables e below (T128.setTop (mkF m 270 #[.val (.int p1), .val (.int p2), .val (.int p3), .val (.int p4), .val (.int p5), .val (.int p6), .val (.int (Int32.ofNat mr)), .val (.int (Int32.ofNat nc)), .val (.ref b101), .val (.int (1 : Int32)), .val (.int (Int32.ofNat ri)), .val (.int (Int32.ofNat rj)), .val (.int (Int32.ofNat si)), .val (.int (Int32.ofNat sj)), .val (.int (Int32.ofNat ti)), .val (.int (Int32.ofNat tj)), .val (.double (FP.i2d p5)), .second, .val (.double (FP.i2d p6)), .second, .val (.ref b_121), .val (.double xx), .second, .unset, .unset] [(.double xx), (.double ((own_upd (own_upd (fun _ => (0 : UInt64)) (ri + rj * mr) (FP.i2d p5)) (si + sj * mr) (FP.i2d p6)) (ti + tj * mr)))])) _
          refine XS.dcmpS X128.here hx rfl (hb hby at_270) rfl (v := (0 : Int32)) (by rw [exx, elt]; exact dcmpV_self nnv .l) ?_
          show Steps p.tables e below (T128.setTop (mkF m 271 #[.val (.int p1), .val (.int p2), .val (.int p3), .val (.int p4), .val (.int p5), .val (.int p6), .val (.int (Int32.ofNat mr)), .val (.int (Int32.ofNat nc)), .val (.ref b101), .val (.int (1 : Int32)), .val (.int (Int32.ofNat ri)), .val (.int (Int32.ofNat rj)), .val (.int (Int32.ofNat si)), .val (.int (Int32.ofNat sj)), .val (.int (Int32.ofNat ti)), .val (.int (Int32.ofNat tj)), .val (.double (FP.i2d p5)), .second, .val (.double (FP.i2d p6)), .second, .val (.ref b_121), .val (.double xx), .second, .unset, .unset] [(.int (0 : Int32))])) _
          refine XS.ifYes X128.here hx rfl (pc0 := 271) (pc' := 276) rfl (hb hby at_271) rfl ((if0 _ _).trans (teq ((by decide) : (0 : Int32) = (0 : Int32))).1) (by decide) (by decide) ?_
          exact kt)
      obtain ⟨yy, eyy, pre150⟩ : ∃ (yy : UInt64), (yy = (own_bef (Int32.ofNat ri) (Int32.ofNat rj) (Int32.ofNat ri) (Int32.ofNat rj) (Int32.ofNat si) (Int32.ofNat sj) (FP.i2d p5) (FP.i2d p6))) ∧ ∀ t_, Steps p.tables e below (T128.setTop (mkF m 297 #[.val (.int p1), .val (.int p2), .val (.int p3), .val (.int p4), .val (.int p5), .val (.int p6), .val (.int (Int32.ofNat mr)), .val (.int (Int32.ofNat nc)), .val (.ref b101), .val (.int (1 : Int32)), .val (.int (Int32.ofNat ri)), .val (.int (Int32.ofNat rj)), .val (.int (Int32.ofNat si)), .val (.int (Int32.ofNat sj)), .val (.int (Int32.ofNat ti)), .val (.int (Int32.ofNat tj)), .val (.double (FP.i2d p5)), .second, .val (.double (FP.i2d p6)), .second, .val (.ref b_121), .val (.double xx), .second, .unset, .unset] [(.double yy)])) t_ → Steps p.tables e below (s₁.setTop (entryFrame m #[(.int p1), (.int p2), (.int p3), (.int p4), (.int p5), (.int p6)] maxLocals)) t_ := by
        have pre151 : ∀ t_, Steps p.tables e below (T128.setTop (mkF m 280 #[.val (.int p1), .val (.int p2), .val (.int p3), .val (.int p4), .val (.int p5), .val (.int p6), .val (.int (Int32.ofNat mr)), .val (.int (Int32.ofNat nc)), .val (.ref b101), .val (.int (1 : Int32)), .val (.int (Int32.ofNat ri)), .val (.int (Int32.ofNat rj)), .val (.int (Int32.ofNat si)), .val (.int (Int32.ofNat sj)), .val (.int (Int32.ofNat ti)), .val (.int (Int32.ofNat tj)), .val (.double (FP.i2d p5)), .second, .val (.double (FP.i2d p6)), .second, .val (.ref b_121), .val (.double xx), .second, .unset, .unset] [(.int (Int32.ofNat si)), (.int (Int32.ofNat ri))])) t_ → Steps p.tables e below (s₁.setTop (entryFrame m #[(.int p1), (.int p2), (.int p3), (.int p4), (.int p5), (.int p6)] maxLocals)) t_ := fun t_ kt => pre149 t_ (by
            show Steps p.tables e below (T128.setTop (mkF m 276 #[.val (.int p1), .val (.int p2), .val (.int p3), .val (.int p4), .val (.int p5), .val (.int p6), .val (.int (Int32.ofNat mr)), .val (.int (Int32.ofNat nc)), .val (.ref b101), .val (.int (1 : Int32)), .val (.int (Int32.ofNat ri)), .val (.int (Int32.ofNat rj)), .val (.int (Int32.ofNat si)), .val (.int (Int32.ofNat sj)), .val (.int (Int32.ofNat ti)), .val (.int (Int32.ofNat tj)), .val (.double (FP.i2d p5)), .second, .val (.double (FP.i2d p6)), .second, .val (.ref b_121), .val (.double xx), .second, .unset, .unset] [])) _
            refine XS.iload X128.here hx rfl (hb hby at_276) rfl ?_
            show Steps p.tables e below (T128.setTop (mkF m 278 #[.val (.int p1), .val (.int p2), .val (.int p3), .val (.int p4), .val (.int p5), .val (.int p6), .val (.int (Int32.ofNat mr)), .val (.int (Int32.ofNat nc)), .val (.ref b101), .val (.int (1 : Int32)), .val (.int (Int32.ofNat ri)), .val (.int (Int32.ofNat rj)), .val (.int (Int32.ofNat si)), .val (.int (Int32.ofNat sj)), .val (.int (Int32.ofNat ti)), .val (.int (Int32.ofNat tj)), .val (.double (FP.i2d p5)), .second, .val (.double (FP.i2d p6)), .second, .val (.ref b_121), .val (.double xx), .second, .unset, .unset] [(.int (Int32.ofNat ri))])) _
            refine XS.iload X128.here hx rfl (hb hby at_278) rfl ?_
            exact kt)
        by_cases hC : (Int32.ofNat ri) = (Int32.ofNat si)
        · skip
          have pre152 : ∀ t_, Steps p.tables e below (T128.setTop (mkF m 287 #[.val (.int p1), .val (.int p2), .val (.int p3), .val (.int p4), .val (.int p5), .val (.int p6), .val (.int (Int32.ofNat mr)), .val (.int (Int32.ofNat nc)), .val (.ref b101), .val (.int (1 : Int32)), .val (.int (Int32.ofNat ri)), .val (.int (Int32.ofNat rj)), .val (.int (Int32.ofNat si)), .val (.int (Int32.ofNat sj)), .val (.int (Int32.ofNat ti)), .val (.int (Int32.ofNat tj)), .val (.double (FP.i2d p5)), .second, .val (.double (FP.i2d p6)), .second, .val (.ref b_121), .val (.double xx), .second, .unset, .unset] [(.int (Int32.ofNat sj)), (.int (Int32.ofNat rj))])) t_ → Steps p.tables e below (s₁.setTop (entryFrame m #[(.int p1), (.int p2), (.int p3), (.int p4), (.int p5), (.int p6)] maxLocals)) t_ := fun t_ kt => pre151 t_ (by
              show Steps p.tables e below (T128.setTop (mkF m 280 #[.val (.int p1), .val (.int p2), .val (.int p3), .val (.int p4), .val (.int p5), .val (.int p6), .val (.int (Int32.ofNat mr)), .val (.int (Int32.ofNat nc)), .val (.ref b101), .val (.int (1 : Int32)), .val (.int (Int32.ofNat ri)), .val (.int (Int32.ofNat rj)), .val (.int (Int32.ofNat si)), .val (.int (Int32.ofNat sj)), .val (.int (Int32.ofNat ti)), .val (.int (Int32.ofNat tj)), .val (.double (FP.i2d p5)), .second, .val (.double (FP.i2d p6)), .second, .val (.ref b_121), .val (.double xx), .second, .unset, .unset] [(.int (Int32.ofNat si)), (.int (Int32.ofNat ri))])) _
              refine XS.icmpNo X128.here hx rfl (hb hby at_280) rfl (teq (hC : (Int32.ofNat ri) = (Int32.ofNat si))).2 ?_
              show Steps p.tables e below (T128.setTop (mkF m 283 #[.val (.int p1), .val (.int p2), .val (.int p3), .val (.int p4), .val (.int p5), .val (.int p6), .val (.int (Int32.ofNat mr)), .val (.int (Int32.ofNat nc)), .val (.ref b101), .val (.int (1 : Int32)), .val (.int (Int32.ofNat ri)), .val (.int (Int32.ofNat rj)), .val (.int (Int32.ofNat si)), .val (.int (Int32.ofNat sj)), .val (.int (Int32.ofNat ti)), .val (.int (Int32.ofNat tj)), .val (.double (FP.i2d p5)), .second, .val (.double (FP.i2d p6)), .second, .val (.ref b_121), .val (.double xx), .second, .unset, .unset] [])) _
              refine XS.iload X128.here hx rfl (hb hby at_283) rfl ?_
              show Steps p.tables e below (T128.setTop (mkF m 285 #[.val (.int p1), .val (.int p2), .val (.int p3), .val (.int p4), .val (.int p5), .val (.int p6), .val (.int (Int32.ofNat mr)), .val (.int (Int32.ofNat nc)), .val (.ref b101), .val (.int (1 : Int32)), .val (.int (Int32.ofNat ri)), .val (.int (Int32.ofNat rj)), .val (.int (Int32.ofNat si)), .val (.int (Int32.ofNat sj)), .val (.int (Int32.ofNat ti)), .val (.int (Int32.ofNat tj)), .val (.double (FP.i2d p5)), .second, .val (.double (FP.i2d p6)), .second, .val (.ref b_121), .val (.double xx), .second, .unset, .unset] [(.int (Int32.ofNat rj))])) _
              refine XS.iload X128.here hx rfl (hb hby at_285) rfl ?_
              exact kt)
          by_cases hD : (Int32.ofNat rj) = (Int32.ofNat sj)
          · skip
            have pre153 : ∀ t_, Steps p.tables e below (T128.setTop (mkF m 297 #[.val (.int p1), .val (.int p2), .val (.int p3), .val (.int p4), .val (.int p5), .val (.int p6), .val (.int (Int32.ofNat mr)), .val (.int (Int32.ofNat nc)), .val (.ref b101), .val (.int (1 : Int32)), .val (.int (Int32.ofNat ri)), .val (.int (Int32.ofNat rj)), .val (.int (Int32.ofNat si)), .val (.int (Int32.ofNat sj)), .val (.int (Int32.ofNat ti)), .val (.int (Int32.ofNat tj)), .val (.double (FP.i2d p5)), .second, .val (.double (FP.i2d p6)), .second, .val (.ref b_121), .val (.double xx), .second, .unset, .unset] [(.double (FP.i2d p6))])) t_ → Steps p.tables e below (s₁.setTop (entryFrame m #[(.int p1), (.int p2), (.int p3), (.int p4), (.int p5), (.int p6)] maxLocals)) t_ := fun t_ kt => pre152 t_ (by
                show Steps p.tables e below (T128.setTop (mkF m 287 #[.val (.int p1), .val (.int p2), .val (.int p3), .val (.int p4), .val (.int p5), .val (.int p6), .val (.int (Int32.ofNat mr)), .val (.int (Int32.ofNat nc)), .val (.ref b101), .val (.int (1 : Int32)), .val (.int (Int32.ofNat ri)), .val (.int (Int32.ofNat rj)), .val (.int (Int32.ofNat si)), .val (.int (Int32.ofNat sj)), .val (.int (Int32.ofNat ti)), .val (.int (Int32.ofNat tj)), .val (.double (FP.i2d p5)), .second, .val (.double (FP.i2d p6)), .second, .val (.ref b_121), .val (.double xx), .second, .unset, .unset] [(.int (Int32.ofNat sj)), (.int (Int32.ofNat rj))])) _
                refine XS.icmpNo X128.here hx rfl (hb hby at_287) rfl (teq (hD : (Int32.ofNat rj) = (Int32.ofNat sj))).2 ?_
                show Steps p.tables e below (T128.setTop (mkF m 290 #[.val (.int p1), .val (.int p2), .val (.int p3), .val (.int p4), .val (.int p5), .val (.int p6), .val (.int (Int32.ofNat mr)), .val (.int (Int32.ofNat nc)), .val (.ref b101), .val (.int (1 : Int32)), .val (.int (Int32.ofNat ri)), .val (.int (Int32.ofNat rj)), .val (.int (Int32.ofNat si)), .val (.int (Int32.ofNat sj)), .val (.int (Int32.ofNat ti)), .val (.int (Int32.ofNat tj)), .val (.double (FP.i2d p5)), .second, .val (.double (FP.i2d p6)), .second, .val (.ref b_121), .val (.double xx), .second, .unset, .unset] [])) _
                refine XS.dload X128.here hx rfl (hb hby at_290) rfl ?_
                show Steps p.tables e below (T128.setTop (mkF m 292 #[.val (.int p1), .val (.int p2), .val (.int p3), .val (.int p4), .val (.int p5), .val (.int p6), .val (.int (Int32.ofNat mr)), .val (.int (Int32.ofNat nc)), .val (.ref b101), .val (.int (1 : Int32)), .val (.int (Int32.ofNat ri)), .val (.int (Int32.ofNat rj)), .val (.int (Int32.ofNat si)), .val (.int (Int32.ofNat sj)), .val (.int (Int32.ofNat ti)), .val (.int (Int32.ofNat tj)), .val (.double (FP.i2d p5)), .second, .val (.double (FP.i2d p6)), .second, .val (.ref b_121), .val (.double xx), .second, .unset, .unset] [(.double (FP.i2d p6))])) _
                refine XS.goto X128.here hx rfl (pc0 := 292) (pc' := 297) rfl (hb hby at_292) (by decide) (by decide) ?_
                exact kt)
            exact ⟨(FP.i2d p6), by unfold own_bef; rw [if_pos ⟨hC, hD⟩], pre153⟩
          · skip
            have pre154 : ∀ t_, Steps p.tables e below (T128.setTop (mkF m 297 #[.val (.int p1), .val (.int p2), .val (.int p3), .val (.int p4), .val (.int p5), .val (.int p6), .val (.int (Int32.ofNat mr)), .val (.int (Int32.ofNat nc)), .val (.ref b101), .val (.int (1 : Int32)), .val (.int (Int32.ofNat ri)), .val (.int (Int32.ofNat rj)), .val (.int (Int32.ofNat si)), .val (.int (Int32.ofNat sj)), .val (.int (Int32.ofNat ti)), .val (.int (Int32.ofNat tj)), .val (.double (FP.i2d p5)), .second, .val (.double (FP.i2d p6)), .second, .val (.ref b_121), .val (.double xx), .second, .unset, .unset] [(.double (FP.i2d p5))])) t_ → Steps p.tables e below (s₁.setTop (entryFrame m #[(.int p1), (.int p2), (.int p3), (.int p4), (.int p5), (.int p6)] maxLocals)) t_ := fun t_ kt => pre152 t_ (by
                show Steps p.tables e below (T128.setTop (mkF m 287 #[.val (.int p1), .val (.int p2), .val (.int p3), .val (.int p4), .val (.int p5), .val (.int p6), .val (.int (Int32.ofNat mr)), .val (.int (Int32.ofNat nc)), .val (.ref b101), .val (.int (1 : Int32)), .val (.int (Int32.ofNat ri)), .val (.int (Int32.ofNat rj)), .val (.int (Int32.ofNat si)), .val (.int (Int32.ofNat sj)), .val (.int (Int32.ofNat ti)), .val (.int (Int32.ofNat tj)), .val (.double (FP.i2d p5)), .second, .val (.double (FP.i2d p6)), .second, .val (.ref b_121), .val (.double xx), .second, .unset, .unset] [(.int (Int32.ofNat sj)), (.int (Int32.ofNat rj))])) _
                refine XS.icmpYes X128.here hx rfl (pc0 := 287) (pc' := 295) rfl (hb hby at_287) rfl (feq (hD : ¬ ((Int32.ofNat rj) = (Int32.ofNat sj)))).2 (by decide) (by decide) ?_
                show Steps p.tables e below (T128.setTop (mkF m 295 #[.val (.int p1), .val (.int p2), .val (.int p3), .val (.int p4), .val (.int p5), .val (.int p6), .val (.int (Int32.ofNat mr)), .val (.int (Int32.ofNat nc)), .val (.ref b101), .val (.int (1 : Int32)), .val (.int (Int32.ofNat ri)), .val (.int (Int32.ofNat rj)), .val (.int (Int32.ofNat si)), .val (.int (Int32.ofNat sj)), .val (.int (Int32.ofNat ti)), .val (.int (Int32.ofNat tj)), .val (.double (FP.i2d p5)), .second, .val (.double (FP.i2d p6)), .second, .val (.ref b_121), .val (.double xx), .second, .unset, .unset] [])) _
                refine XS.dload X128.here hx rfl (hb hby at_295) rfl ?_
                exact kt)
            exact ⟨(FP.i2d p5), by unfold own_bef; rw [if_neg (fun q => hD q.2), if_pos ⟨rfl, rfl⟩], pre154⟩
        · skip
          have pre155 : ∀ t_, Steps p.tables e below (T128.setTop (mkF m 297 #[.val (.int p1), .val (.int p2), .val (.int p3), .val (.int p4), .val (.int p5), .val (.int p6), .val (.int (Int32.ofNat mr)), .val (.int (Int32.ofNat nc)), .val (.ref b101), .val (.int (1 : Int32)), .val (.int (Int32.ofNat ri)), .val (.int (Int32.ofNat rj)), .val (.int (Int32.ofNat si)), .val (.int (Int32.ofNat sj)), .val (.int (Int32.ofNat ti)), .val (.int (Int32.ofNat tj)), .val (.double (FP.i2d p5)), .second, .val (.double (FP.i2d p6)), .second, .val (.ref b_121), .val (.double xx), .second, .unset, .unset] [(.double (FP.i2d p5))])) t_ → Steps p.tables e below (s₁.setTop (entryFrame m #[(.int p1), (.int p2), (.int p3), (.int p4), (.int p5), (.int p6)] maxLocals)) t_ := fun t_ kt => pre151 t_ (by
              show Steps p.tables e below (T128.setTop (mkF m 280 #[.val (.int p1), .val (.int p2), .val (.int p3), .val (.int p4), .val (.int p5), .val (.int p6), .val (.int (Int32.ofNat mr)), .val (.int (Int32.ofNat nc)), .val (.ref b101), .val (.int (1 : Int32)), .val (.int (Int32.ofNat ri)), .val (.int (Int32.ofNat rj)), .val (.int (Int32.ofNat si)), .val (.int (Int32.ofNat sj)), .val (.int (Int32.ofNat ti)), .val (.int (Int32.ofNat tj)), .val (.double (FP.i2d p5)), .second, .val (.double (FP.i2d p6)), .second, .val (.ref b_121), .val (.double xx), .second, .unset, .unset] [(.int (Int32.ofNat si)), (.int (Int32.ofNat ri))])) _
              refine XS.icmpYes X128.here hx rfl (pc0 := 280) (pc' := 295) rfl (hb hby at_280) rfl (feq (hC : ¬ ((Int32.ofNat ri) = (Int32.ofNat si)))).2 (by decide) (by decide) ?_
              show Steps p.tables e below (T128.setTop (mkF m 295 #[.val (.int p1), .val (.int p2), .val (.int p3), .val (.int p4), .val (.int p5), .val (.int p6), .val (.int (Int32.ofNat mr)), .val (.int (Int32.ofNat nc)), .val (.ref b101), .val (.int (1 : Int32)), .val (.int (Int32.ofNat ri)), .val (.int (Int32.ofNat rj)), .val (.int (Int32.ofNat si)), .val (.int (Int32.ofNat sj)), .val (.int (Int32.ofNat ti)), .val (.int (Int32.ofNat tj)), .val (.double (FP.i2d p5)), .second, .val (.double (FP.i2d p6)), .second, .val (.ref b_121), .val (.double xx), .second, .unset, .unset] [])) _
              refine XS.dload X128.here hx rfl (hb hby at_295) rfl ?_
              exact kt)
          exact ⟨(FP.i2d p5), by unfold own_bef; rw [if_neg (fun q => hC q.1), if_pos ⟨rfl, rfl⟩], pre155⟩
      obtain ⟨cl156, Ar156, Q156, S156, M156, H156, G156⟩ := id x121_1
      have in157 : ¬ ((Int32.ofNat ri) < 0 ∨ cl156.slots.size ≤ ((Int32.ofNat ri)).toNatClampNeg) := inb_of S156 ⟨nn32 (by omega), lt32 hri (by omega)⟩
      have at158 : cl156.slots[((Int32.ofNat ri)).toNatClampNeg]? = some (.ref (b_121 + 1 + ri)) := by rw [n32 (by omega), H156 ri (by rw [S156, n32 (by omega)]; exact hri), own_rat _ hri]
      obtain ⟨cl159, Ar159, Q159, S159, M159, H159, G159⟩ := id row_r
      have in160 : ¬ ((Int32.ofNat rj) < 0 ∨ cl159.slots.size ≤ ((Int32.ofNat rj)).toNatClampNeg) := inb_of S159 ⟨nn32 (by omega), lt32 hrj (by omega)⟩
      have at161 : cl159.slots[((Int32.ofNat rj)).toNatClampNeg]? = some (.double ((own_upd (own_upd (fun _ => (0 : UInt64)) (ri + rj * mr) (FP.i2d p5)) (si + sj * mr) (FP.i2d p6)) (ri + rj * mr))) := by rw [n32 (by omega), H159 rj (by rw [S159, n32 (by omega)]; exact hrj), own_dat _ hrj]
      obtain ⟨cl162, Ar162, Q162, S162, M162, H162, G162⟩ := id x121_1
      have in163 : ¬ ((Int32.ofNat si) < 0 ∨ cl162.slots.size ≤ ((Int32.ofNat si)).toNatClampNeg) := inb_of S162 ⟨nn32 (by omega), lt32 hsi (by omega)⟩
      have at164 : cl162.slots[((Int32.ofNat si)).toNatClampNeg]? = some (.ref (b_121 + 1 + si)) := by rw [n32 (by omega), H162 si (by rw [S162, n32 (by omega)]; exact hsi), own_rat _ hsi]
      obtain ⟨cl165, Ar165, Q165, S165, M165, H165, G165⟩ := id row_s
      have in166 : ¬ ((Int32.ofNat sj) < 0 ∨ cl165.slots.size ≤ ((Int32.ofNat sj)).toNatClampNeg) := inb_of S165 ⟨nn32 (by omega), lt32 hsj (by omega)⟩
      have at167 : cl165.slots[((Int32.ofNat sj)).toNatClampNeg]? = some (.double ((own_upd (own_upd (fun _ => (0 : UInt64)) (ri + rj * mr) (FP.i2d p5)) (si + sj * mr) (FP.i2d p6)) (si + sj * mr))) := by rw [n32 (by omega), H165 sj (by rw [S165, n32 (by omega)]; exact hsj), own_dat _ hsj]
      obtain ⟨cl168, Ar168, Q168, S168, M168, H168, G168⟩ := id x121_1
      have in169 : ¬ ((Int32.ofNat ti) < 0 ∨ cl168.slots.size ≤ ((Int32.ofNat ti)).toNatClampNeg) := inb_of S168 ⟨nn32 (by omega), lt32 hti (by omega)⟩
      have at170 : cl168.slots[((Int32.ofNat ti)).toNatClampNeg]? = some (.ref (b_121 + 1 + ti)) := by rw [n32 (by omega), H168 ti (by rw [S168, n32 (by omega)]; exact hti), own_rat _ hti]
      obtain ⟨cl171, Ar171, Q171, S171, M171, H171, G171⟩ := id row_t
      have in172 : ¬ ((Int32.ofNat tj) < 0 ∨ cl171.slots.size ≤ ((Int32.ofNat tj)).toNatClampNeg) := inb_of S171 ⟨nn32 (by omega), lt32 htj (by omega)⟩
      obtain ⟨T173, h173, X173, e173, W173, st173⟩ := stD X128 hx hZ e128 Ar171 (j := (Int32.ofNat tj)) in172 (g := (mkF m 340 #[.val (.int p1), .val (.int p2), .val (.int p3), .val (.int p4), .val (.int p5), .val (.int p6), .val (.int (Int32.ofNat mr)), .val (.int (Int32.ofNat nc)), .val (.ref b101), .val (.int (1 : Int32)), .val (.int (Int32.ofNat ri)), .val (.int (Int32.ofNat rj)), .val (.int (Int32.ofNat si)), .val (.int (Int32.ofNat sj)), .val (.int (Int32.ofNat ti)), .val (.int (Int32.ofNat tj)), .val (.double (FP.i2d p5)), .second, .val (.double (FP.i2d p6)), .second, .val (.ref b_121), .val (.double xx), .second, .val (.double yy), .second] [(.double (FP.dadd xx (4607182418800017408 : UInt64))), (.int (Int32.ofNat tj)), (.ref (b_121 + 1 + ti))])) rfl rfl (hb hby at_340)
      have z174 : n0 ≤ h173.size := Nat.le_trans z124 (Keep.of_wr W173).1
      have V173 : Arv Z h173 (b_121 + 1 + ti) kr_121 .double (Int32.ofNat nc) (own_dv (own_upd (fun j => (own_upd (own_upd (fun _ => (0 : UInt64)) (ri + rj * mr) (FP.i2d p5)) (si + sj * mr) (FP.i2d p6)) (ti + j * mr)) tj (FP.dadd xx (4607182418800017408 : UInt64))) nc) (.double (0 : UInt64)) := own_upd_set (fun j => (own_upd (own_upd (fun _ => (0 : UInt64)) (ri + rj * mr) (FP.i2d p5)) (si + sj * mr) (FP.i2d p6)) (ti + j * mr)) nc tj (FP.dadd xx (4607182418800017408 : UInt64)) ▸ Arv.set Ar171 Q171 S171 M171 H171 G171 rfl W173 tj (n32 (by omega)) (by rw [own_dlen]; exact htj)
      have N173 : Fr n0 _ := Fr.snoc X173 N128 g_T
      have f175 : Exa Z h173 b101 "com/example/orthoform/kernel/DenseMatrix" := ((f117.keep K121).wr W173)
      have f176 : Fld Z h173 b101 "com/example/orthoform/kernel/DenseMatrix" "rows" "I" (.int (Int32.ofNat mr)) := ((f118.keep K121 own_nm0).other W173 (Or.inl ntb101))
      have f177 : Fld Z h173 b101 "com/example/orthoform/kernel/DenseMatrix" "columns" "I" (.int (Int32.ofNat nc)) := ((f119.keep K121 own_nm0).other W173 (Or.inl ntb101))
      have f178 : Fld Z h173 b101 "com/example/orthoform/kernel/DenseMatrix" "entries" "[D" (.ref b_103) := ((f120.keep K121 own_nm0).other W173 (Or.inl ntb101))
      have f179 : Arv Z h173 b_103 kb_103 .double (Int32.ofNat (mr * nc)) (own_dv (own_upd (own_upd (fun _ => (0 : UInt64)) (ri + rj * mr) (FP.i2d p5)) (si + sj * mr) (FP.i2d p6)) (mr * nc)) (.double (0 : UInt64)) := ((x115_0.keep K121 own_nm0).other W173 ntb_103)
      obtain ⟨cq180, kq180, q180a, q180b, q180c⟩ := isOf hZ e173 f175
      obtain ⟨_, _, ⟨T180, L180, kk180, nn180⟩, -, X180, ⟨Lc180, hQ180, l180, y180, z180⟩, st180⟩ := X173.virtualBack hx (y := (⟨"com/example/orthoform/kernel/DenseMatrix", "get", "(II)D"⟩ : MethodName)) (z := (⟨"com/example/orthoform/kernel/DenseMatrix", "get", "(II)D"⟩ : MethodName)) hown (mvT hZ (hw _ (List.mem_of_getElem? (i := 38) rfl))) (mvT hZ (hw _ (List.mem_of_getElem? (i := 39) rfl))) (notFace_of_selects (args := #[]) (mvT hZ (hw _ (List.mem_of_getElem? (i := 41) rfl)))) (mvT hZ (hw _ (List.mem_of_getElem? (i := 41) rfl))) (mvT hZ (hw _ (List.mem_of_getElem? (i := 40) rfl))) (by decide) (backOf (W := 0) (rmget l Z a0 hw [] b101 mr nc ti tj b_103 kb_103 (own_upd (own_upd (fun _ => (0 : UInt64)) (ri + rj * mr) (FP.i2d p5)) (si + sj * mr) (FP.i2d p6)) h173 n0 z174 f175 f176 f177 f178 f179 (hm) (hn) (hti) (htj)) hZ (hw _ (List.mem_of_getElem? (i := 42) rfl)) (hw _ (List.mem_of_getElem? (i := 2) rfl)) (by decide) (by decide)) q180a q180c (g := (mkF m 347 #[.val (.int p1), .val (.int p2), .val (.int p3), .val (.int p4), .val (.int p5), .val (.int p6), .val (.int (Int32.ofNat mr)), .val (.int (Int32.ofNat nc)), .val (.ref b101), .val (.int (1 : Int32)), .val (.int (Int32.ofNat ri)), .val (.int (Int32.ofNat rj)), .val (.int (Int32.ofNat si)), .val (.int (Int32.ofNat sj)), .val (.int (Int32.ofNat ti)), .val (.int (Int32.ofNat tj)), .val (.double (FP.i2d p5)), .second, .val (.double (FP.i2d p6)), .second, .val (.ref b_121), .val (.double xx), .second, .val (.double yy), .second] [(.int (Int32.ofNat tj)), (.int (Int32.ofNat ti)), (.ref b101)])) rfl (by rw [hml]; rfl) (Steps.refl _) (argsL := [(.int (Int32.ofNat ti)), (.int (Int32.ofNat tj))]) (rest := []) (lenOf pd__28II_29D rfl) rfl (by show 2 * 0 + _ ≤ _; exact Nat.le_of_eq rfl) (hb hby at_347) (fun _ _ => ⟨rfl, e173, (by decide : 6 + 0 ≤ _), (by decide : 24 + 0 ≤ _)⟩)
      dsimp only [Pt.U, Pt.locs, Pt.cells, Pt.slots] at X180 l180 y180 z180 st180 hQ180
      subst l180 y180 z180
      obtain ⟨rfl, N180q, e180⟩ := hQ180
      have N180 := Fr.app N173 N180q
      have pre181 : ∀ t_, Steps p.tables e below (T180.setTop (mkF m 361 #[.val (.int p1), .val (.int p2), .val (.int p3), .val (.int p4), .val (.int p5), .val (.int p6), .val (.int (Int32.ofNat mr)), .val (.int (Int32.ofNat nc)), .val (.ref b101), .val (.int (1 : Int32)), .val (.int (Int32.ofNat ri)), .val (.int (Int32.ofNat rj)), .val (.int (Int32.ofNat si)), .val (.int (Int32.ofNat sj)), .val (.int (Int32.ofNat ti)), .val (.int (Int32.ofNat tj)), .val (.double (FP.i2d p5)), .second, .val (.double (FP.i2d p6)), .second, .val (.ref b_121), .val (.double xx), .second, .val (.double yy), .second] [(.int (1 : Int32))])) t_ → Steps p.tables e below (s₁.setTop (entryFrame m #[(.int p1), (.int p2), (.int p3), (.int p4), (.int p5), (.int p6)] maxLocals)) t_ := fun t_ kt => pre150 t_ (by
          show Steps p.tables e below (T128.setTop (mkF m 297 #[.val (.int p1), .val (.int p2), .val (.int p3), .val (.int p4), .val (.int p5), .val (.int p6), .val (.int (Int32.ofNat mr)), .val (.int (Int32.ofNat nc)), .val (.ref b101), .val (.int (1 : Int32)), .val (.int (Int32.ofNat ri)), .val (.int (Int32.ofNat rj)), .val (.int (Int32.ofNat si)), .val (.int (Int32.ofNat sj)), .val (.int (Int32.ofNat ti)), .val (.int (Int32.ofNat tj)), .val (.double (FP.i2d p5)), .second, .val (.double (FP.i2d p6)), .second, .val (.ref b_121), .val (.double xx), .second, .unset, .unset] [(.double yy)])) _
          refine XS.dstore X128.here hx rfl (hb hby at_297) rfl (l' := #[.val (.int p1), .val (.int p2), .val (.int p3), .val (.int p4), .val (.int p5), .val (.int p6), .val (.int (Int32.ofNat mr)), .val (.int (Int32.ofNat nc)), .val (.ref b101), .val (.int (1 : Int32)), .val (.int (Int32.ofNat ri)), .val (.int (Int32.ofNat rj)), .val (.int (Int32.ofNat si)), .val (.int (Int32.ofNat sj)), .val (.int (Int32.ofNat ti)), .val (.int (Int32.ofNat tj)), .val (.double (FP.i2d p5)), .second, .val (.double (FP.i2d p6)), .second, .val (.ref b_121), .val (.double xx), .second, .val (.double yy), .second]) rfl ?_
          show Steps p.tables e below (T128.setTop (mkF m 299 #[.val (.int p1), .val (.int p2), .val (.int p3), .val (.int p4), .val (.int p5), .val (.int p6), .val (.int (Int32.ofNat mr)), .val (.int (Int32.ofNat nc)), .val (.ref b101), .val (.int (1 : Int32)), .val (.int (Int32.ofNat ri)), .val (.int (Int32.ofNat rj)), .val (.int (Int32.ofNat si)), .val (.int (Int32.ofNat sj)), .val (.int (Int32.ofNat ti)), .val (.int (Int32.ofNat tj)), .val (.double (FP.i2d p5)), .second, .val (.double (FP.i2d p6)), .second, .val (.ref b_121), .val (.double xx), .second, .val (.double yy), .second] [])) _
          refine XS.aload X128.here hx rfl (hb hby at_299) rfl rfl ?_
          show Steps p.tables e below (T128.setTop (mkF m 301 #[.val (.int p1), .val (.int p2), .val (.int p3), .val (.int p4), .val (.int p5), .val (.int p6), .val (.int (Int32.ofNat mr)), .val (.int (Int32.ofNat nc)), .val (.ref b101), .val (.int (1 : Int32)), .val (.int (Int32.ofNat ri)), .val (.int (Int32.ofNat rj)), .val (.int (Int32.ofNat si)), .val (.int (Int32.ofNat sj)), .val (.int (Int32.ofNat ti)), .val (.int (Int32.ofNat tj)), .val (.double (FP.i2d p5)), .second, .val (.double (FP.i2d p6)), .second, .val (.ref b_121), .val (.double xx), .second, .val (.double yy), .second] [(.ref b_121)])) _
          refine XS.iload X128.here hx rfl (hb hby at_301) rfl ?_
          show Steps p.tables e below (T128.setTop (mkF m 303 #[.val (.int p1), .val (.int p2), .val (.int p3), .val (.int p4), .val (.int p5), .val (.int p6), .val (.int (Int32.ofNat mr)), .val (.int (Int32.ofNat nc)), .val (.ref b101), .val (.int (1 : Int32)), .val (.int (Int32.ofNat ri)), .val (.int (Int32.ofNat rj)), .val (.int (Int32.ofNat si)), .val (.int (Int32.ofNat sj)), .val (.int (Int32.ofNat ti)), .val (.int (Int32.ofNat tj)), .val (.double (FP.i2d p5)), .second, .val (.double (FP.i2d p6)), .second, .val (.ref b_121), .val (.double xx), .second, .val (.double yy), .second] [(.int (Int32.ofNat ri)), (.ref b_121)])) _
          refine X128.aaload hx (j := (Int32.ofNat ri)) (v := (.ref (b_121 + 1 + ri))) (by rw [e128]; exact Ar156.1) (State.isArrayOf_alike hZ.alike Ar156.2.1) rfl Ar156.2.2 in157 at158 (g := (mkF m 303 #[.val (.int p1), .val (.int p2), .val (.int p3), .val (.int p4), .val (.int p5), .val (.int p6), .val (.int (Int32.ofNat mr)), .val (.int (Int32.ofNat nc)), .val (.ref b101), .val (.int (1 : Int32)), .val (.int (Int32.ofNat ri)), .val (.int (Int32.ofNat rj)), .val (.int (Int32.ofNat si)), .val (.int (Int32.ofNat sj)), .val (.int (Int32.ofNat ti)), .val (.int (Int32.ofNat tj)), .val (.double (FP.i2d p5)), .second, .val (.double (FP.i2d p6)), .second, .val (.ref b_121), .val (.double xx), .second, .val (.double yy), .second] [(.int (Int32.ofNat ri)), (.ref b_121)])) rfl rfl (hb hby at_303) _ ?_
          show Steps p.tables e below (T128.setTop (mkF m 304 #[.val (.int p1), .val (.int p2), .val (.int p3), .val (.int p4), .val (.int p5), .val (.int p6), .val (.int (Int32.ofNat mr)), .val (.int (Int32.ofNat nc)), .val (.ref b101), .val (.int (1 : Int32)), .val (.int (Int32.ofNat ri)), .val (.int (Int32.ofNat rj)), .val (.int (Int32.ofNat si)), .val (.int (Int32.ofNat sj)), .val (.int (Int32.ofNat ti)), .val (.int (Int32.ofNat tj)), .val (.double (FP.i2d p5)), .second, .val (.double (FP.i2d p6)), .second, .val (.ref b_121), .val (.double xx), .second, .val (.double yy), .second] [(.ref (b_121 + 1 + ri))])) _
          refine XS.iload X128.here hx rfl (hb hby at_304) rfl ?_
          show Steps p.tables e below (T128.setTop (mkF m 306 #[.val (.int p1), .val (.int p2), .val (.int p3), .val (.int p4), .val (.int p5), .val (.int p6), .val (.int (Int32.ofNat mr)), .val (.int (Int32.ofNat nc)), .val (.ref b101), .val (.int (1 : Int32)), .val (.int (Int32.ofNat ri)), .val (.int (Int32.ofNat rj)), .val (.int (Int32.ofNat si)), .val (.int (Int32.ofNat sj)), .val (.int (Int32.ofNat ti)), .val (.int (Int32.ofNat tj)), .val (.double (FP.i2d p5)), .second, .val (.double (FP.i2d p6)), .second, .val (.ref b_121), .val (.double xx), .second, .val (.double yy), .second] [(.int (Int32.ofNat rj)), (.ref (b_121 + 1 + ri))])) _
          refine X128.daload hx (j := (Int32.ofNat rj)) (v := (.double ((own_upd (own_upd (fun _ => (0 : UInt64)) (ri + rj * mr) (FP.i2d p5)) (si + sj * mr) (FP.i2d p6)) (ri + rj * mr)))) (by rw [e128]; exact Ar159.1) (State.isArrayOf_alike hZ.alike Ar159.2.1) Ar159.2.2 in160 at161 (g := (mkF m 306 #[.val (.int p1), .val (.int p2), .val (.int p3), .val (.int p4), .val (.int p5), .val (.int p6), .val (.int (Int32.ofNat mr)), .val (.int (Int32.ofNat nc)), .val (.ref b101), .val (.int (1 : Int32)), .val (.int (Int32.ofNat ri)), .val (.int (Int32.ofNat rj)), .val (.int (Int32.ofNat si)), .val (.int (Int32.ofNat sj)), .val (.int (Int32.ofNat ti)), .val (.int (Int32.ofNat tj)), .val (.double (FP.i2d p5)), .second, .val (.double (FP.i2d p6)), .second, .val (.ref b_121), .val (.double xx), .second, .val (.double yy), .second] [(.int (Int32.ofNat rj)), (.ref (b_121 + 1 + ri))])) rfl rfl (hb hby at_306) _ ?_
          show Steps p.tables e below (T128.setTop (mkF m 307 #[.val (.int p1), .val (.int p2), .val (.int p3), .val (.int p4), .val (.int p5), .val (.int p6), .val (.int (Int32.ofNat mr)), .val (.int (Int32.ofNat nc)), .val (.ref b101), .val (.int (1 : Int32)), .val (.int (Int32.ofNat ri)), .val (.int (Int32.ofNat rj)), .val (.int (Int32.ofNat si)), .val (.int (Int32.ofNat sj)), .val (.int (Int32.ofNat ti)), .val (.int (Int32.ofNat tj)), .val (.double (FP.i2d p5)), .second, .val (.double (FP.i2d p6)), .second, .val (.ref b_121), .val (.double xx), .second, .val (.double yy), .second] [(.double ((own_upd (own_upd (fun _ => (0 : UInt64)) (ri + rj * mr) (FP.i2d p5)) (si + sj * mr) (FP.i2d p6)) (ri + rj * mr)))])) _
          refine XS.dload X128.here hx rfl (hb hby at_307) rfl ?_
          show Steps p.tables e below (T128.setTop (mkF m 309 #[.val (.int p1), .val (.int p2), .val (.int p3), .val (.int p4), .val (.int p5), .val (.int p6), .val (.int (Int32.ofNat mr)), .val (.int (Int32.ofNat nc)), .val (.ref b101), .val (.int (1 : Int32)), .val (.int (Int32.ofNat ri)), .val (.int (Int32.ofNat rj)), .val (.int (Int32.ofNat si)), .val (.int (Int32.ofNat sj)), .val (.int (Int32.ofNat ti)), .val (.int (Int32.ofNat tj)), .val (.double (FP.i2d p5)), .second, .val (.double (FP.i2d p6)), .second, .val (.ref b_121), .val (.double xx), .second, .val (.double yy), .second] [(.double yy), (.double ((own_upd (own_upd (fun _ => (0 : UInt64)) (ri + rj * mr) (FP.i2d p5)) (si + sj * mr) (FP.i2d p6)) (ri + rj * mr)))])) _
          refine XS.dcmpS X128.here hx rfl (hb hby at_309) rfl (v := (0 : Int32)) (by rw [eyy, elr]; exact dcmpV_self nnv .l) ?_
          show Steps p.tables e below (T128.setTop (mkF m 310 #[.val (.int p1), .val (.int p2), .val (.int p3), .val (.int p4), .val (.int p5), .val (.int p6), .val (.int (Int32.ofNat mr)), .val (.int (Int32.ofNat nc)), .val (.ref b101), .val (.int (1 : Int32)), .val (.int (Int32.ofNat ri)), .val (.int (Int32.ofNat rj)), .val (.int (Int32.ofNat si)), .val (.int (Int32.ofNat sj)), .val (.int (Int32.ofNat ti)), .val (.int (Int32.ofNat tj)), .val (.double (FP.i2d p5)), .second, .val (.double (FP.i2d p6)), .second, .val (.ref b_121), .val (.double xx), .second, .val (.double yy), .second] [(.int (0 : Int32))])) _
          refine XS.ifNo X128.here hx rfl (hb hby at_310) rfl ((if0 _ _).trans (teq ((by decide) : (0 : Int32) = (0 : Int32))).2) ?_
          show Steps p.tables e below (T128.setTop (mkF m 313 #[.val (.int p1), .val (.int p2), .val (.int p3), .val (.int p4), .val (.int p5), .val (.int p6), .val (.int (Int32.ofNat mr)), .val (.int (Int32.ofNat nc)), .val (.ref b101), .val (.int (1 : Int32)), .val (.int (Int32.ofNat ri)), .val (.int (Int32.ofNat rj)), .val (.int (Int32.ofNat si)), .val (.int (Int32.ofNat sj)), .val (.int (Int32.ofNat ti)), .val (.int (Int32.ofNat tj)), .val (.double (FP.i2d p5)), .second, .val (.double (FP.i2d p6)), .second, .val (.ref b_121), .val (.double xx), .second, .val (.double yy), .second] [])) _
          refine XS.aload X128.here hx rfl (hb hby at_313) rfl rfl ?_
          show Steps p.tables e below (T128.setTop (mkF m 315 #[.val (.int p1), .val (.int p2), .val (.int p3), .val (.int p4), .val (.int p5), .val (.int p6), .val (.int (Int32.ofNat mr)), .val (.int (Int32.ofNat nc)), .val (.ref b101), .val (.int (1 : Int32)), .val (.int (Int32.ofNat ri)), .val (.int (Int32.ofNat rj)), .val (.int (Int32.ofNat si)), .val (.int (Int32.ofNat sj)), .val (.int (Int32.ofNat ti)), .val (.int (Int32.ofNat tj)), .val (.double (FP.i2d p5)), .second, .val (.double (FP.i2d p6)), .second, .val (.ref b_121), .val (.double xx), .second, .val (.double yy), .second] [(.ref b_121)])) _
          refine XS.iload X128.here hx rfl (hb hby at_315) rfl ?_
          show Steps p.tables e below (T128.setTop (mkF m 317 #[.val (.int p1), .val (.int p2), .val (.int p3), .val (.int p4), .val (.int p5), .val (.int p6), .val (.int (Int32.ofNat mr)), .val (.int (Int32.ofNat nc)), .val (.ref b101), .val (.int (1 : Int32)), .val (.int (Int32.ofNat ri)), .val (.int (Int32.ofNat rj)), .val (.int (Int32.ofNat si)), .val (.int (Int32.ofNat sj)), .val (.int (Int32.ofNat ti)), .val (.int (Int32.ofNat tj)), .val (.double (FP.i2d p5)), .second, .val (.double (FP.i2d p6)), .second, .val (.ref b_121), .val (.double xx), .second, .val (.double yy), .second] [(.int (Int32.ofNat si)), (.ref b_121)])) _
          refine X128.aaload hx (j := (Int32.ofNat si)) (v := (.ref (b_121 + 1 + si))) (by rw [e128]; exact Ar162.1) (State.isArrayOf_alike hZ.alike Ar162.2.1) rfl Ar162.2.2 in163 at164 (g := (mkF m 317 #[.val (.int p1), .val (.int p2), .val (.int p3), .val (.int p4), .val (.int p5), .val (.int p6), .val (.int (Int32.ofNat mr)), .val (.int (Int32.ofNat nc)), .val (.ref b101), .val (.int (1 : Int32)), .val (.int (Int32.ofNat ri)), .val (.int (Int32.ofNat rj)), .val (.int (Int32.ofNat si)), .val (.int (Int32.ofNat sj)), .val (.int (Int32.ofNat ti)), .val (.int (Int32.ofNat tj)), .val (.double (FP.i2d p5)), .second, .val (.double (FP.i2d p6)), .second, .val (.ref b_121), .val (.double xx), .second, .val (.double yy), .second] [(.int (Int32.ofNat si)), (.ref b_121)])) rfl rfl (hb hby at_317) _ ?_
          show Steps p.tables e below (T128.setTop (mkF m 318 #[.val (.int p1), .val (.int p2), .val (.int p3), .val (.int p4), .val (.int p5), .val (.int p6), .val (.int (Int32.ofNat mr)), .val (.int (Int32.ofNat nc)), .val (.ref b101), .val (.int (1 : Int32)), .val (.int (Int32.ofNat ri)), .val (.int (Int32.ofNat rj)), .val (.int (Int32.ofNat si)), .val (.int (Int32.ofNat sj)), .val (.int (Int32.ofNat ti)), .val (.int (Int32.ofNat tj)), .val (.double (FP.i2d p5)), .second, .val (.double (FP.i2d p6)), .second, .val (.ref b_121), .val (.double xx), .second, .val (.double yy), .second] [(.ref (b_121 + 1 + si))])) _
          refine XS.iload X128.here hx rfl (hb hby at_318) rfl ?_
          show Steps p.tables e below (T128.setTop (mkF m 320 #[.val (.int p1), .val (.int p2), .val (.int p3), .val (.int p4), .val (.int p5), .val (.int p6), .val (.int (Int32.ofNat mr)), .val (.int (Int32.ofNat nc)), .val (.ref b101), .val (.int (1 : Int32)), .val (.int (Int32.ofNat ri)), .val (.int (Int32.ofNat rj)), .val (.int (Int32.ofNat si)), .val (.int (Int32.ofNat sj)), .val (.int (Int32.ofNat ti)), .val (.int (Int32.ofNat tj)), .val (.double (FP.i2d p5)), .second, .val (.double (FP.i2d p6)), .second, .val (.ref b_121), .val (.double xx), .second, .val (.double yy), .second] [(.int (Int32.ofNat sj)), (.ref (b_121 + 1 + si))])) _
          refine X128.daload hx (j := (Int32.ofNat sj)) (v := (.double ((own_upd (own_upd (fun _ => (0 : UInt64)) (ri + rj * mr) (FP.i2d p5)) (si + sj * mr) (FP.i2d p6)) (si + sj * mr)))) (by rw [e128]; exact Ar165.1) (State.isArrayOf_alike hZ.alike Ar165.2.1) Ar165.2.2 in166 at167 (g := (mkF m 320 #[.val (.int p1), .val (.int p2), .val (.int p3), .val (.int p4), .val (.int p5), .val (.int p6), .val (.int (Int32.ofNat mr)), .val (.int (Int32.ofNat nc)), .val (.ref b101), .val (.int (1 : Int32)), .val (.int (Int32.ofNat ri)), .val (.int (Int32.ofNat rj)), .val (.int (Int32.ofNat si)), .val (.int (Int32.ofNat sj)), .val (.int (Int32.ofNat ti)), .val (.int (Int32.ofNat tj)), .val (.double (FP.i2d p5)), .second, .val (.double (FP.i2d p6)), .second, .val (.ref b_121), .val (.double xx), .second, .val (.double yy), .second] [(.int (Int32.ofNat sj)), (.ref (b_121 + 1 + si))])) rfl rfl (hb hby at_320) _ ?_
          show Steps p.tables e below (T128.setTop (mkF m 321 #[.val (.int p1), .val (.int p2), .val (.int p3), .val (.int p4), .val (.int p5), .val (.int p6), .val (.int (Int32.ofNat mr)), .val (.int (Int32.ofNat nc)), .val (.ref b101), .val (.int (1 : Int32)), .val (.int (Int32.ofNat ri)), .val (.int (Int32.ofNat rj)), .val (.int (Int32.ofNat si)), .val (.int (Int32.ofNat sj)), .val (.int (Int32.ofNat ti)), .val (.int (Int32.ofNat tj)), .val (.double (FP.i2d p5)), .second, .val (.double (FP.i2d p6)), .second, .val (.ref b_121), .val (.double xx), .second, .val (.double yy), .second] [(.double ((own_upd (own_upd (fun _ => (0 : UInt64)) (ri + rj * mr) (FP.i2d p5)) (si + sj * mr) (FP.i2d p6)) (si + sj * mr)))])) _
          refine XS.dload X128.here hx rfl (hb hby at_321) rfl ?_
          show Steps p.tables e below (T128.setTop (mkF m 323 #[.val (.int p1), .val (.int p2), .val (.int p3), .val (.int p4), .val (.int p5), .val (.int p6), .val (.int (Int32.ofNat mr)), .val (.int (Int32.ofNat nc)), .val (.ref b101), .val (.int (1 : Int32)), .val (.int (Int32.ofNat ri)), .val (.int (Int32.ofNat rj)), .val (.int (Int32.ofNat si)), .val (.int (Int32.ofNat sj)), .val (.int (Int32.ofNat ti)), .val (.int (Int32.ofNat tj)), .val (.double (FP.i2d p5)), .second, .val (.double (FP.i2d p6)), .second, .val (.ref b_121), .val (.double xx), .second, .val (.double yy), .second] [(.double (FP.i2d p6)), (.double ((own_upd (own_upd (fun _ => (0 : UInt64)) (ri + rj * mr) (FP.i2d p5)) (si + sj * mr) (FP.i2d p6)) (si + sj * mr)))])) _
          refine XS.dcmpS X128.here hx rfl (hb hby at_323) rfl (v := (0 : Int32)) (by rw [els, own_bq]; exact dcmpV_self (Fl.i2d_fin p6).noNaN .l) ?_
          show Steps p.tables e below (T128.setTop (mkF m 324 #[.val (.int p1), .val (.int p2), .val (.int p3), .val (.int p4), .val (.int p5), .val (.int p6), .val (.int (Int32.ofNat mr)), .val (.int (Int32.ofNat nc)), .val (.ref b101), .val (.int (1 : Int32)), .val (.int (Int32.ofNat ri)), .val (.int (Int32.ofNat rj)), .val (.int (Int32.ofNat si)), .val (.int (Int32.ofNat sj)), .val (.int (Int32.ofNat ti)), .val (.int (Int32.ofNat tj)), .val (.double (FP.i2d p5)), .second, .val (.double (FP.i2d p6)), .second, .val (.ref b_121), .val (.double xx), .second, .val (.double yy), .second] [(.int (0 : Int32))])) _
          refine XS.ifYes X128.here hx rfl (pc0 := 324) (pc' := 329) rfl (hb hby at_324) rfl ((if0 _ _).trans (teq ((by decide) : (0 : Int32) = (0 : Int32))).1) (by decide) (by decide) ?_
          show Steps p.tables e below (T128.setTop (mkF m 329 #[.val (.int p1), .val (.int p2), .val (.int p3), .val (.int p4), .val (.int p5), .val (.int p6), .val (.int (Int32.ofNat mr)), .val (.int (Int32.ofNat nc)), .val (.ref b101), .val (.int (1 : Int32)), .val (.int (Int32.ofNat ri)), .val (.int (Int32.ofNat rj)), .val (.int (Int32.ofNat si)), .val (.int (Int32.ofNat sj)), .val (.int (Int32.ofNat ti)), .val (.int (Int32.ofNat tj)), .val (.double (FP.i2d p5)), .second, .val (.double (FP.i2d p6)), .second, .val (.ref b_121), .val (.double xx), .second, .val (.double yy), .second] [])) _
          refine XS.aload X128.here hx rfl (hb hby at_329) rfl rfl ?_
          show Steps p.tables e below (T128.setTop (mkF m 331 #[.val (.int p1), .val (.int p2), .val (.int p3), .val (.int p4), .val (.int p5), .val (.int p6), .val (.int (Int32.ofNat mr)), .val (.int (Int32.ofNat nc)), .val (.ref b101), .val (.int (1 : Int32)), .val (.int (Int32.ofNat ri)), .val (.int (Int32.ofNat rj)), .val (.int (Int32.ofNat si)), .val (.int (Int32.ofNat sj)), .val (.int (Int32.ofNat ti)), .val (.int (Int32.ofNat tj)), .val (.double (FP.i2d p5)), .second, .val (.double (FP.i2d p6)), .second, .val (.ref b_121), .val (.double xx), .second, .val (.double yy), .second] [(.ref b_121)])) _
          refine XS.iload X128.here hx rfl (hb hby at_331) rfl ?_
          show Steps p.tables e below (T128.setTop (mkF m 333 #[.val (.int p1), .val (.int p2), .val (.int p3), .val (.int p4), .val (.int p5), .val (.int p6), .val (.int (Int32.ofNat mr)), .val (.int (Int32.ofNat nc)), .val (.ref b101), .val (.int (1 : Int32)), .val (.int (Int32.ofNat ri)), .val (.int (Int32.ofNat rj)), .val (.int (Int32.ofNat si)), .val (.int (Int32.ofNat sj)), .val (.int (Int32.ofNat ti)), .val (.int (Int32.ofNat tj)), .val (.double (FP.i2d p5)), .second, .val (.double (FP.i2d p6)), .second, .val (.ref b_121), .val (.double xx), .second, .val (.double yy), .second] [(.int (Int32.ofNat ti)), (.ref b_121)])) _
          refine X128.aaload hx (j := (Int32.ofNat ti)) (v := (.ref (b_121 + 1 + ti))) (by rw [e128]; exact Ar168.1) (State.isArrayOf_alike hZ.alike Ar168.2.1) rfl Ar168.2.2 in169 at170 (g := (mkF m 333 #[.val (.int p1), .val (.int p2), .val (.int p3), .val (.int p4), .val (.int p5), .val (.int p6), .val (.int (Int32.ofNat mr)), .val (.int (Int32.ofNat nc)), .val (.ref b101), .val (.int (1 : Int32)), .val (.int (Int32.ofNat ri)), .val (.int (Int32.ofNat rj)), .val (.int (Int32.ofNat si)), .val (.int (Int32.ofNat sj)), .val (.int (Int32.ofNat ti)), .val (.int (Int32.ofNat tj)), .val (.double (FP.i2d p5)), .second, .val (.double (FP.i2d p6)), .second, .val (.ref b_121), .val (.double xx), .second, .val (.double yy), .second] [(.int (Int32.ofNat ti)), (.ref b_121)])) rfl rfl (hb hby at_333) _ ?_
          show Steps p.tables e below (T128.setTop (mkF m 334 #[.val (.int p1), .val (.int p2), .val (.int p3), .val (.int p4), .val (.int p5), .val (.int p6), .val (.int (Int32.ofNat mr)), .val (.int (Int32.ofNat nc)), .val (.ref b101), .val (.int (1 : Int32)), .val (.int (Int32.ofNat ri)), .val (.int (Int32.ofNat rj)), .val (.int (Int32.ofNat si)), .val (.int (Int32.ofNat sj)), .val (.int (Int32.ofNat ti)), .val (.int (Int32.ofNat tj)), .val (.double (FP.i2d p5)), .second, .val (.double (FP.i2d p6)), .second, .val (.ref b_121), .val (.double xx), .second, .val (.double yy), .second] [(.ref (b_121 + 1 + ti))])) _
          refine XS.iload X128.here hx rfl (hb hby at_334) rfl ?_
          show Steps p.tables e below (T128.setTop (mkF m 336 #[.val (.int p1), .val (.int p2), .val (.int p3), .val (.int p4), .val (.int p5), .val (.int p6), .val (.int (Int32.ofNat mr)), .val (.int (Int32.ofNat nc)), .val (.ref b101), .val (.int (1 : Int32)), .val (.int (Int32.ofNat ri)), .val (.int (Int32.ofNat rj)), .val (.int (Int32.ofNat si)), .val (.int (Int32.ofNat sj)), .val (.int (Int32.ofNat ti)), .val (.int (Int32.ofNat tj)), .val (.double (FP.i2d p5)), .second, .val (.double (FP.i2d p6)), .second, .val (.ref b_121), .val (.double xx), .second, .val (.double yy), .second] [(.int (Int32.ofNat tj)), (.ref (b_121 + 1 + ti))])) _
          refine XS.dload X128.here hx rfl (hb hby at_336) rfl ?_
          show Steps p.tables e below (T128.setTop (mkF m 338 #[.val (.int p1), .val (.int p2), .val (.int p3), .val (.int p4), .val (.int p5), .val (.int p6), .val (.int (Int32.ofNat mr)), .val (.int (Int32.ofNat nc)), .val (.ref b101), .val (.int (1 : Int32)), .val (.int (Int32.ofNat ri)), .val (.int (Int32.ofNat rj)), .val (.int (Int32.ofNat si)), .val (.int (Int32.ofNat sj)), .val (.int (Int32.ofNat ti)), .val (.int (Int32.ofNat tj)), .val (.double (FP.i2d p5)), .second, .val (.double (FP.i2d p6)), .second, .val (.ref b_121), .val (.double xx), .second, .val (.double yy), .second] [(.double xx), (.int (Int32.ofNat tj)), (.ref (b_121 + 1 + ti))])) _
          refine XS.dconst1 X128.here hx rfl (hb hby at_338) (v := (4607182418800017408 : UInt64)) rfl ?_
          show Steps p.tables e below (T128.setTop (mkF m 339 #[.val (.int p1), .val (.int p2), .val (.int p3), .val (.int p4), .val (.int p5), .val (.int p6), .val (.int (Int32.ofNat mr)), .val (.int (Int32.ofNat nc)), .val (.ref b101), .val (.int (1 : Int32)), .val (.int (Int32.ofNat ri)), .val (.int (Int32.ofNat rj)), .val (.int (Int32.ofNat si)), .val (.int (Int32.ofNat sj)), .val (.int (Int32.ofNat ti)), .val (.int (Int32.ofNat tj)), .val (.double (FP.i2d p5)), .second, .val (.double (FP.i2d p6)), .second, .val (.ref b_121), .val (.double xx), .second, .val (.double yy), .second] [(.double (4607182418800017408 : UInt64)), (.double xx), (.int (Int32.ofNat tj)), (.ref (b_121 + 1 + ti))])) _
          refine XS.daddS X128.here hx rfl (hb hby at_339) rfl (Fl.dadd_out (exx ▸ nnv) OwnFP.fin_one) (v := (FP.dadd xx (4607182418800017408 : UInt64))) rfl ?_
          show Steps p.tables e below (T128.setTop (mkF m 340 #[.val (.int p1), .val (.int p2), .val (.int p3), .val (.int p4), .val (.int p5), .val (.int p6), .val (.int (Int32.ofNat mr)), .val (.int (Int32.ofNat nc)), .val (.ref b101), .val (.int (1 : Int32)), .val (.int (Int32.ofNat ri)), .val (.int (Int32.ofNat rj)), .val (.int (Int32.ofNat si)), .val (.int (Int32.ofNat sj)), .val (.int (Int32.ofNat ti)), .val (.int (Int32.ofNat tj)), .val (.double (FP.i2d p5)), .second, .val (.double (FP.i2d p6)), .second, .val (.ref b_121), .val (.double xx), .second, .val (.double yy), .second] [(.double (FP.dadd xx (4607182418800017408 : UInt64))), (.int (Int32.ofNat tj)), (.ref (b_121 + 1 + ti))])) _
          refine st173 _ ?_
          show Steps p.tables e below (T173.setTop (mkF m 341 #[.val (.int p1), .val (.int p2), .val (.int p3), .val (.int p4), .val (.int p5), .val (.int p6), .val (.int (Int32.ofNat mr)), .val (.int (Int32.ofNat nc)), .val (.ref b101), .val (.int (1 : Int32)), .val (.int (Int32.ofNat ri)), .val (.int (Int32.ofNat rj)), .val (.int (Int32.ofNat si)), .val (.int (Int32.ofNat sj)), .val (.int (Int32.ofNat ti)), .val (.int (Int32.ofNat tj)), .val (.double (FP.i2d p5)), .second, .val (.double (FP.i2d p6)), .second, .val (.ref b_121), .val (.double xx), .second, .val (.double yy), .second] [])) _
          refine XS.aload X173.here hx rfl (hb hby at_341) rfl rfl ?_
          show Steps p.tables e below (T173.setTop (mkF m 343 #[.val (.int p1), .val (.int p2), .val (.int p3), .val (.int p4), .val (.int p5), .val (.int p6), .val (.int (Int32.ofNat mr)), .val (.int (Int32.ofNat nc)), .val (.ref b101), .val (.int (1 : Int32)), .val (.int (Int32.ofNat ri)), .val (.int (Int32.ofNat rj)), .val (.int (Int32.ofNat si)), .val (.int (Int32.ofNat sj)), .val (.int (Int32.ofNat ti)), .val (.int (Int32.ofNat tj)), .val (.double (FP.i2d p5)), .second, .val (.double (FP.i2d p6)), .second, .val (.ref b_121), .val (.double xx), .second, .val (.double yy), .second] [(.ref b101)])) _
          refine XS.iload X173.here hx rfl (hb hby at_343) rfl ?_
          show Steps p.tables e below (T173.setTop (mkF m 345 #[.val (.int p1), .val (.int p2), .val (.int p3), .val (.int p4), .val (.int p5), .val (.int p6), .val (.int (Int32.ofNat mr)), .val (.int (Int32.ofNat nc)), .val (.ref b101), .val (.int (1 : Int32)), .val (.int (Int32.ofNat ri)), .val (.int (Int32.ofNat rj)), .val (.int (Int32.ofNat si)), .val (.int (Int32.ofNat sj)), .val (.int (Int32.ofNat ti)), .val (.int (Int32.ofNat tj)), .val (.double (FP.i2d p5)), .second, .val (.double (FP.i2d p6)), .second, .val (.ref b_121), .val (.double xx), .second, .val (.double yy), .second] [(.int (Int32.ofNat ti)), (.ref b101)])) _
          refine XS.iload X173.here hx rfl (hb hby at_345) rfl ?_
          show Steps p.tables e below (T173.setTop (mkF m 347 #[.val (.int p1), .val (.int p2), .val (.int p3), .val (.int p4), .val (.int p5), .val (.int p6), .val (.int (Int32.ofNat mr)), .val (.int (Int32.ofNat nc)), .val (.ref b101), .val (.int (1 : Int32)), .val (.int (Int32.ofNat ri)), .val (.int (Int32.ofNat rj)), .val (.int (Int32.ofNat si)), .val (.int (Int32.ofNat sj)), .val (.int (Int32.ofNat ti)), .val (.int (Int32.ofNat tj)), .val (.double (FP.i2d p5)), .second, .val (.double (FP.i2d p6)), .second, .val (.ref b_121), .val (.double xx), .second, .val (.double yy), .second] [(.int (Int32.ofNat tj)), (.int (Int32.ofNat ti)), (.ref b101)])) _
          refine st180.trans ?_
          show Steps p.tables e below (T180.setTop (mkF m 350 #[.val (.int p1), .val (.int p2), .val (.int p3), .val (.int p4), .val (.int p5), .val (.int p6), .val (.int (Int32.ofNat mr)), .val (.int (Int32.ofNat nc)), .val (.ref b101), .val (.int (1 : Int32)), .val (.int (Int32.ofNat ri)), .val (.int (Int32.ofNat rj)), .val (.int (Int32.ofNat si)), .val (.int (Int32.ofNat sj)), .val (.int (Int32.ofNat ti)), .val (.int (Int32.ofNat tj)), .val (.double (FP.i2d p5)), .second, .val (.double (FP.i2d p6)), .second, .val (.ref b_121), .val (.double xx), .second, .val (.double yy), .second] [(.double ((own_upd (own_upd (fun _ => (0 : UInt64)) (ri + rj * mr) (FP.i2d p5)) (si + sj * mr) (FP.i2d p6)) (ti + tj * mr)))])) _
          refine XS.dload X180.here hx rfl (hb hby at_350) rfl ?_
          show Steps p.tables e below (T180.setTop (mkF m 352 #[.val (.int p1), .val (.int p2), .val (.int p3), .val (.int p4), .val (.int p5), .val (.int p6), .val (.int (Int32.ofNat mr)), .val (.int (Int32.ofNat nc)), .val (.ref b101), .val (.int (1 : Int32)), .val (.int (Int32.ofNat ri)), .val (.int (Int32.ofNat rj)), .val (.int (Int32.ofNat si)), .val (.int (Int32.ofNat sj)), .val (.int (Int32.ofNat ti)), .val (.int (Int32.ofNat tj)), .val (.double (FP.i2d p5)), .second, .val (.double (FP.i2d p6)), .second, .val (.ref b_121), .val (.double xx), .second, .val (.double yy), .second] [(.double xx), (.double ((own_upd (own_upd (fun _ => (0 : UInt64)) (ri + rj * mr) (FP.i2d p5)) (si + sj * mr) (FP.i2d p6)) (ti + tj * mr)))])) _
          refine XS.dcmpS X180.here hx rfl (hb hby at_352) rfl (v := (0 : Int32)) (by rw [exx, elt]; exact dcmpV_self nnv .l) ?_
          show Steps p.tables e below (T180.setTop (mkF m 353 #[.val (.int p1), .val (.int p2), .val (.int p3), .val (.int p4), .val (.int p5), .val (.int p6), .val (.int (Int32.ofNat mr)), .val (.int (Int32.ofNat nc)), .val (.ref b101), .val (.int (1 : Int32)), .val (.int (Int32.ofNat ri)), .val (.int (Int32.ofNat rj)), .val (.int (Int32.ofNat si)), .val (.int (Int32.ofNat sj)), .val (.int (Int32.ofNat ti)), .val (.int (Int32.ofNat tj)), .val (.double (FP.i2d p5)), .second, .val (.double (FP.i2d p6)), .second, .val (.ref b_121), .val (.double xx), .second, .val (.double yy), .second] [(.int (0 : Int32))])) _
          refine XS.ifNo X180.here hx rfl (hb hby at_353) rfl ((if0 _ _).trans (teq ((by decide) : (0 : Int32) = (0 : Int32))).2) ?_
          show Steps p.tables e below (T180.setTop (mkF m 356 #[.val (.int p1), .val (.int p2), .val (.int p3), .val (.int p4), .val (.int p5), .val (.int p6), .val (.int (Int32.ofNat mr)), .val (.int (Int32.ofNat nc)), .val (.ref b101), .val (.int (1 : Int32)), .val (.int (Int32.ofNat ri)), .val (.int (Int32.ofNat rj)), .val (.int (Int32.ofNat si)), .val (.int (Int32.ofNat sj)), .val (.int (Int32.ofNat ti)), .val (.int (Int32.ofNat tj)), .val (.double (FP.i2d p5)), .second, .val (.double (FP.i2d p6)), .second, .val (.ref b_121), .val (.double xx), .second, .val (.double yy), .second] [])) _
          refine XS.iconst X180.here hx rfl (hb hby at_356) ?_
          show Steps p.tables e below (T180.setTop (mkF m 357 #[.val (.int p1), .val (.int p2), .val (.int p3), .val (.int p4), .val (.int p5), .val (.int p6), .val (.int (Int32.ofNat mr)), .val (.int (Int32.ofNat nc)), .val (.ref b101), .val (.int (1 : Int32)), .val (.int (Int32.ofNat ri)), .val (.int (Int32.ofNat rj)), .val (.int (Int32.ofNat si)), .val (.int (Int32.ofNat sj)), .val (.int (Int32.ofNat ti)), .val (.int (Int32.ofNat tj)), .val (.double (FP.i2d p5)), .second, .val (.double (FP.i2d p6)), .second, .val (.ref b_121), .val (.double xx), .second, .val (.double yy), .second] [(.int (1 : Int32))])) _
          refine XS.goto X180.here hx rfl (pc0 := 357) (pc' := 361) rfl (hb hby at_357) (by decide) (by decide) ?_
          exact kt)
      obtain ⟨fs, hr, hrun, hended, hW, hsame⟩ := X180.leave (v := some (.int (1 : Int32))) (fun h => by rw [Bd.returns] at h; cases h)
      refine ⟨_, _, pre181 _ ?_, hrun, hended, _, _, rfl, ?_, ⟨_, rfl⟩, hW, hsame.mono (by decide) (by decide)⟩
      · show Steps p.tables e below (T180.setTop (mkF m 361 #[.val (.int p1), .val (.int p2), .val (.int p3), .val (.int p4), .val (.int p5), .val (.int p6), .val (.int (Int32.ofNat mr)), .val (.int (Int32.ofNat nc)), .val (.ref b101), .val (.int (1 : Int32)), .val (.int (Int32.ofNat ri)), .val (.int (Int32.ofNat rj)), .val (.int (Int32.ofNat si)), .val (.int (Int32.ofNat sj)), .val (.int (Int32.ofNat ti)), .val (.int (Int32.ofNat tj)), .val (.double (FP.i2d p5)), .second, .val (.double (FP.i2d p6)), .second, .val (.ref b_121), .val (.double xx), .second, .val (.double yy), .second] [(.int (1 : Int32))])) _
        exact retN X180 hx (t := .boolean) Bd.returns (by simp) (hb hby at_361) hr
      · show Q0 Z p1 p2 p3 p4 p5 p6 h0 n0 _ T180.heap _
        rw [e180]
        exact ⟨rfl, N180⟩
    · skip
      have f182 : Exa Z T103.heap b101 "com/example/orthoform/kernel/DenseMatrix" := (A101.keep K103)
      obtain ⟨cq183, kq183, q183a, q183b, q183c⟩ := isOf hZ rfl f182
      obtain ⟨_, _, ⟨T183, L183, kk183, nn183⟩, -, X183, ⟨Lc183, hQ183, l183, y183, z183⟩, st183⟩ := X103.virtualBack hx (y := (⟨"com/example/orthoform/kernel/DenseMatrix", "toArray", "()[[D"⟩ : MethodName)) (z := (⟨"com/example/orthoform/kernel/DenseMatrix", "toArray", "()[[D"⟩ : MethodName)) hown (mvT hZ (hw _ (List.mem_of_getElem? (i := 17) rfl))) (mvT hZ (hw _ (List.mem_of_getElem? (i := 18) rfl))) (notFace_of_selects (args := #[]) (mvT hZ (hw _ (List.mem_of_getElem? (i := 20) rfl)))) (mvT hZ (hw _ (List.mem_of_getElem? (i := 20) rfl))) (mvT hZ (hw _ (List.mem_of_getElem? (i := 19) rfl))) (by decide) (backOf (W := 0) (rmtoA l Z a0 hw [] b101 mr nc b_103 kb_103 (fun _ => (0 : UInt64)) T103.heap n0 z105 f182 x103_1 x103_2 x103_3 x103_4 (hm) (hn)) hZ (hw _ (List.mem_of_getElem? (i := 21) rfl)) (hw _ (List.mem_of_getElem? (i := 2) rfl)) (by decide) (by decide)) q183a q183c (g := (mkF m 153 #[.val (.int p1), .val (.int p2), .val (.int p3), .val (.int p4), .val (.int p5), .val (.int p6), .val (.int (Int32.ofNat mr)), .val (.int (Int32.ofNat nc)), .val (.ref b101), .val (.int (0 : Int32)), .val (.int (0 : Int32)), .val (.int (0 : Int32)), .val (.int (0 : Int32)), .val (.int (0 : Int32)), .val (.int (0 : Int32)), .val (.int (0 : Int32)), .val (.double (FP.i2d p5)), .second, .val (.double (FP.i2d p6)), .second, .unset, .unset, .unset, .unset, .unset] [(.ref b101)])) rfl (by rw [hml]; rfl) (Steps.refl _) (argsL := []) (rest := []) (lenOf pd__28_29_5b_5bD rfl) rfl (by show 2 * 0 + _ ≤ _; exact Nat.le_of_eq rfl) (hb hby at_153) (fun _ _ => ⟨rfl, rfl, (by decide : 2 + 4 ≤ _), (by decide : 12 + 12 ≤ _)⟩)
      dsimp only [Pt.U, Pt.locs, Pt.cells, Pt.slots] at X183 l183 y183 z183 st183 hQ183
      subst l183 y183 z183
      obtain ⟨b_183, kA_183, kr_183, rfl, N183q, K183, x183_0, x183_1, x183_2⟩ := hQ183
      have N183 := Fr.app N103 N183q
      have ne184 : b101 ≠ b_183 := Nat.ne_of_lt (Nat.lt_of_lt_of_le f182.lt x183_0)
      have ne185 : b_103 ≠ b_183 := Nat.ne_of_lt (Nat.lt_of_lt_of_le x103_4.lt x183_0)
      have g_b_183 : n0 ≤ b_183 := Nat.le_trans z105 x183_0
      have z186 : n0 ≤ T183.heap.size := Nat.le_trans z105 K183.1
      obtain ⟨cl187, Ar187, Q187, S187, M187, H187, G187⟩ := id x183_1
      obtain ⟨_, _, ⟨T188, L188, kk188, nn188⟩, -, X188, ⟨Lc188, hQ188, l188, y188, z188⟩, st188⟩ := Jvm.LawKit.callS X183 hx (y := (⟨"com/example/orthoform/kernel/DenseMatrixToArrayPinLaw", "rowOk", "([[DII)Z"⟩ : MethodName)) hown (mvT hZ (hw _ (List.mem_of_getElem? (i := 24) rfl))) (mvT hZ (hw _ (List.mem_of_getElem? (i := 25) rfl))) (mvT hZ (hw _ (List.mem_of_getElem? (i := 26) rfl))) (mvT hZ (hw _ (List.mem_of_getElem? (i := 27) rfl))) (by decide) (backOf (W := 0) (rmrok0 l Z a0 hw [] b_183 mr nc kA_183 kr_183 (fun _ => (0 : UInt64)) T183.heap n0 z186 x183_1 (hm) (hn) (x183_2)) hZ (hw _ (List.mem_of_getElem? (i := 27) rfl)) (hw _ (List.mem_of_getElem? (i := 26) rfl)) (by decide) (by decide)) (g := (mkF m 178 #[.val (.int p1), .val (.int p2), .val (.int p3), .val (.int p4), .val (.int p5), .val (.int p6), .val (.int (Int32.ofNat mr)), .val (.int (Int32.ofNat nc)), .val (.ref b101), .val (.int (0 : Int32)), .val (.int (0 : Int32)), .val (.int (0 : Int32)), .val (.int (0 : Int32)), .val (.int (0 : Int32)), .val (.int (0 : Int32)), .val (.int (0 : Int32)), .val (.double (FP.i2d p5)), .second, .val (.double (FP.i2d p6)), .second, .val (.ref b_183), .unset, .unset, .unset, .unset] [(.int (Int32.ofNat nc)), (.int (0 : Int32)), (.ref b_183)])) rfl (by rw [hml]; rfl) (argsL := [(.ref b_183), (.int (0 : Int32)), (.int (Int32.ofNat nc))]) (rest := []) (lenOf pd__28_5b_5bDII_29Z rfl) rfl (by show 2 * 0 + _ ≤ _; exact Nat.le_of_eq rfl) (hb hby at_178) (fun _ _ => ⟨rfl, rfl, (by decide : 6 + 0 ≤ _), (by decide : 24 + 0 ≤ _)⟩)
      dsimp only [Pt.U, Pt.locs, Pt.cells, Pt.slots] at X188 l188 y188 z188 st188 hQ188
      subst l188 y188 z188
      obtain ⟨rfl, N188q, e188⟩ := hQ188
      have N188 := Fr.app N183 N188q
      obtain ⟨_, _, ⟨T189, L189, kk189, nn189⟩, -, X189, ⟨Lc189, hQ189, l189, y189, z189⟩, st189⟩ := Jvm.LawKit.callS X188 hx (y := (⟨"com/example/orthoform/kernel/DenseMatrixToArrayPinLaw", "rowOk", "([[DII)Z"⟩ : MethodName)) hown (mvT hZ (hw _ (List.mem_of_getElem? (i := 24) rfl))) (mvT hZ (hw _ (List.mem_of_getElem? (i := 25) rfl))) (mvT hZ (hw _ (List.mem_of_getElem? (i := 26) rfl))) (mvT hZ (hw _ (List.mem_of_getElem? (i := 27) rfl))) (by decide) (backOf (W := 0) (rmrok1 l Z a0 hw [] b_183 mr nc kA_183 kr_183 (fun _ => (0 : UInt64)) T183.heap n0 z186 x183_1 (hm) (hn) (x183_2)) hZ (hw _ (List.mem_of_getElem? (i := 27) rfl)) (hw _ (List.mem_of_getElem? (i := 26) rfl)) (by decide) (by decide)) (g := (mkF m 189 #[.val (.int p1), .val (.int p2), .val (.int p3), .val (.int p4), .val (.int p5), .val (.int p6), .val (.int (Int32.ofNat mr)), .val (.int (Int32.ofNat nc)), .val (.ref b101), .val (.int (0 : Int32)), .val (.int (0 : Int32)), .val (.int (0 : Int32)), .val (.int (0 : Int32)), .val (.int (0 : Int32)), .val (.int (0 : Int32)), .val (.int (0 : Int32)), .val (.double (FP.i2d p5)), .second, .val (.double (FP.i2d p6)), .second, .val (.ref b_183), .unset, .unset, .unset, .unset] [(.int (Int32.ofNat nc)), (.int (1 : Int32)), (.ref b_183)])) rfl (by rw [hml]; rfl) (argsL := [(.ref b_183), (.int (1 : Int32)), (.int (Int32.ofNat nc))]) (rest := []) (lenOf pd__28_5b_5bDII_29Z rfl) rfl (by show 2 * 0 + _ ≤ _; exact Nat.le_of_eq rfl) (hb hby at_189) (fun _ _ => ⟨rfl, e188, (by decide : 6 + 0 ≤ _), (by decide : 24 + 0 ≤ _)⟩)
      dsimp only [Pt.U, Pt.locs, Pt.cells, Pt.slots] at X189 l189 y189 z189 st189 hQ189
      subst l189 y189 z189
      obtain ⟨rfl, N189q, e189⟩ := hQ189
      have N189 := Fr.app N188 N189q
      obtain ⟨_, _, ⟨T190, L190, kk190, nn190⟩, -, X190, ⟨Lc190, hQ190, l190, y190, z190⟩, st190⟩ := Jvm.LawKit.callS X189 hx (y := (⟨"com/example/orthoform/kernel/DenseMatrixToArrayPinLaw", "rowOk", "([[DII)Z"⟩ : MethodName)) hown (mvT hZ (hw _ (List.mem_of_getElem? (i := 24) rfl))) (mvT hZ (hw _ (List.mem_of_getElem? (i := 25) rfl))) (mvT hZ (hw _ (List.mem_of_getElem? (i := 26) rfl))) (mvT hZ (hw _ (List.mem_of_getElem? (i := 27) rfl))) (by decide) (backOf (W := 0) (rmrok2 l Z a0 hw [] b_183 mr nc kA_183 kr_183 (fun _ => (0 : UInt64)) T183.heap n0 z186 x183_1 (hm) (hn) (x183_2)) hZ (hw _ (List.mem_of_getElem? (i := 27) rfl)) (hw _ (List.mem_of_getElem? (i := 26) rfl)) (by decide) (by decide)) (g := (mkF m 200 #[.val (.int p1), .val (.int p2), .val (.int p3), .val (.int p4), .val (.int p5), .val (.int p6), .val (.int (Int32.ofNat mr)), .val (.int (Int32.ofNat nc)), .val (.ref b101), .val (.int (0 : Int32)), .val (.int (0 : Int32)), .val (.int (0 : Int32)), .val (.int (0 : Int32)), .val (.int (0 : Int32)), .val (.int (0 : Int32)), .val (.int (0 : Int32)), .val (.double (FP.i2d p5)), .second, .val (.double (FP.i2d p6)), .second, .val (.ref b_183), .unset, .unset, .unset, .unset] [(.int (Int32.ofNat nc)), (.int (2 : Int32)), (.ref b_183)])) rfl (by rw [hml]; rfl) (argsL := [(.ref b_183), (.int (2 : Int32)), (.int (Int32.ofNat nc))]) (rest := []) (lenOf pd__28_5b_5bDII_29Z rfl) rfl (by show 2 * 0 + _ ≤ _; exact Nat.le_of_eq rfl) (hb hby at_200) (fun _ _ => ⟨rfl, e189, (by decide : 6 + 0 ≤ _), (by decide : 24 + 0 ≤ _)⟩)
      dsimp only [Pt.U, Pt.locs, Pt.cells, Pt.slots] at X190 l190 y190 z190 st190 hQ190
      subst l190 y190 z190
      obtain ⟨rfl, N190q, e190⟩ := hQ190
      have N190 := Fr.app N189 N190q
      have pre191 : ∀ t_, Steps p.tables e below (T190.setTop (mkF m 214 #[.val (.int p1), .val (.int p2), .val (.int p3), .val (.int p4), .val (.int p5), .val (.int p6), .val (.int (Int32.ofNat mr)), .val (.int (Int32.ofNat nc)), .val (.ref b101), .val (.int (0 : Int32)), .val (.int (0 : Int32)), .val (.int (0 : Int32)), .val (.int (0 : Int32)), .val (.int (0 : Int32)), .val (.int (0 : Int32)), .val (.int (0 : Int32)), .val (.double (FP.i2d p5)), .second, .val (.double (FP.i2d p6)), .second, .val (.ref b_183), .unset, .unset, .unset, .unset] [(.int (1 : Int32))])) t_ → Steps p.tables e below (s₁.setTop (entryFrame m #[(.int p1), (.int p2), (.int p3), (.int p4), (.int p5), (.int p6)] maxLocals)) t_ := fun t_ kt => pre107 t_ (by
          show Steps p.tables e below (T103.setTop (mkF m 32 #[.val (.int p1), .val (.int p2), .val (.int p3), .val (.int p4), .val (.int p5), .val (.int p6), .val (.int (Int32.ofNat mr)), .val (.int (Int32.ofNat nc)), .val (.ref b101), .unset, .unset, .unset, .unset, .unset, .unset, .unset, .unset, .unset, .unset, .unset, .unset, .unset, .unset, .unset, .unset] [(.int (Int32.ofNat nc))])) _
          refine XS.ifYes X103.here hx rfl (pc0 := 32) (pc' := 39) rfl (hb hby at_32) rfl ((if0 _ _).trans (flt (hB : ¬ ((0 : Int32) < (Int32.ofNat nc)))).2.2.2) (by decide) (by decide) ?_
          show Steps p.tables e below (T103.setTop (mkF m 39 #[.val (.int p1), .val (.int p2), .val (.int p3), .val (.int p4), .val (.int p5), .val (.int p6), .val (.int (Int32.ofNat mr)), .val (.int (Int32.ofNat nc)), .val (.ref b101), .unset, .unset, .unset, .unset, .unset, .unset, .unset, .unset, .unset, .unset, .unset, .unset, .unset, .unset, .unset, .unset] [])) _
          refine XS.iconst X103.here hx rfl (hb hby at_39) ?_
          show Steps p.tables e below (T103.setTop (mkF m 40 #[.val (.int p1), .val (.int p2), .val (.int p3), .val (.int p4), .val (.int p5), .val (.int p6), .val (.int (Int32.ofNat mr)), .val (.int (Int32.ofNat nc)), .val (.ref b101), .unset, .unset, .unset, .unset, .unset, .unset, .unset, .unset, .unset, .unset, .unset, .unset, .unset, .unset, .unset, .unset] [(.int (0 : Int32))])) _
          refine XS.istore X103.here hx rfl (hb hby at_40) rfl (l' := #[.val (.int p1), .val (.int p2), .val (.int p3), .val (.int p4), .val (.int p5), .val (.int p6), .val (.int (Int32.ofNat mr)), .val (.int (Int32.ofNat nc)), .val (.ref b101), .val (.int (0 : Int32)), .unset, .unset, .unset, .unset, .unset, .unset, .unset, .unset, .unset, .unset, .unset, .unset, .unset, .unset, .unset]) rfl ?_
          show Steps p.tables e below (T103.setTop (mkF m 42 #[.val (.int p1), .val (.int p2), .val (.int p3), .val (.int p4), .val (.int p5), .val (.int p6), .val (.int (Int32.ofNat mr)), .val (.int (Int32.ofNat nc)), .val (.ref b101), .val (.int (0 : Int32)), .unset, .unset, .unset, .unset, .unset, .unset, .unset, .unset, .unset, .unset, .unset, .unset, .unset, .unset, .unset] [])) _
          refine XS.iconst X103.here hx rfl (hb hby at_42) ?_
          show Steps p.tables e below (T103.setTop (mkF m 43 #[.val (.int p1), .val (.int p2), .val (.int p3), .val (.int p4), .val (.int p5), .val (.int p6), .val (.int (Int32.ofNat mr)), .val (.int (Int32.ofNat nc)), .val (.ref b101), .val (.int (0 : Int32)), .unset, .unset, .unset, .unset, .unset, .unset, .unset, .unset, .unset, .unset, .unset, .unset, .unset, .unset, .unset] [(.int (0 : Int32))])) _
          refine XS.istore X103.here hx rfl (hb hby at_43) rfl (l' := #[.val (.int p1), .val (.int p2), .val (.int p3), .val (.int p4), .val (.int p5), .val (.int p6), .val (.int (Int32.ofNat mr)), .val (.int (Int32.ofNat nc)), .val (.ref b101), .val (.int (0 : Int32)), .val (.int (0 : Int32)), .unset, .unset, .unset, .unset, .unset, .unset, .unset, .unset, .unset, .unset, .unset, .unset, .unset, .unset]) rfl ?_
          show Steps p.tables e below (T103.setTop (mkF m 45 #[.val (.int p1), .val (.int p2), .val (.int p3), .val (.int p4), .val (.int p5), .val (.int p6), .val (.int (Int32.ofNat mr)), .val (.int (Int32.ofNat nc)), .val (.ref b101), .val (.int (0 : Int32)), .val (.int (0 : Int32)), .unset, .unset, .unset, .unset, .unset, .unset, .unset, .unset, .unset, .unset, .unset, .unset, .unset, .unset] [])) _
          refine XS.iconst X103.here hx rfl (hb hby at_45) ?_
          show Steps p.tables e below (T103.setTop (mkF m 46 #[.val (.int p1), .val (.int p2), .val (.int p3), .val (.int p4), .val (.int p5), .val (.int p6), .val (.int (Int32.ofNat mr)), .val (.int (Int32.ofNat nc)), .val (.ref b101), .val (.int (0 : Int32)), .val (.int (0 : Int32)), .unset, .unset, .unset, .unset, .unset, .unset, .unset, .unset, .unset, .unset, .unset, .unset, .unset, .unset] [(.int (0 : Int32))])) _
          refine XS.istore X103.here hx rfl (hb hby at_46) rfl (l' := #[.val (.int p1), .val (.int p2), .val (.int p3), .val (.int p4), .val (.int p5), .val (.int p6), .val (.int (Int32.ofNat mr)), .val (.int (Int32.ofNat nc)), .val (.ref b101), .val (.int (0 : Int32)), .val (.int (0 : Int32)), .val (.int (0 : Int32)), .unset, .unset, .unset, .unset, .unset, .unset, .unset, .unset, .unset, .unset, .unset, .unset, .unset]) rfl ?_
          show Steps p.tables e below (T103.setTop (mkF m 48 #[.val (.int p1), .val (.int p2), .val (.int p3), .val (.int p4), .val (.int p5), .val (.int p6), .val (.int (Int32.ofNat mr)), .val (.int (Int32.ofNat nc)), .val (.ref b101), .val (.int (0 : Int32)), .val (.int (0 : Int32)), .val (.int (0 : Int32)), .unset, .unset, .unset, .unset, .unset, .unset, .unset, .unset, .unset, .unset, .unset, .unset, .unset] [])) _
          refine XS.iconst X103.here hx rfl (hb hby at_48) ?_
          show Steps p.tables e below (T103.setTop (mkF m 49 #[.val (.int p1), .val (.int p2), .val (.int p3), .val (.int p4), .val (.int p5), .val (.int p6), .val (.int (Int32.ofNat mr)), .val (.int (Int32.ofNat nc)), .val (.ref b101), .val (.int (0 : Int32)), .val (.int (0 : Int32)), .val (.int (0 : Int32)), .unset, .unset, .unset, .unset, .unset, .unset, .unset, .unset, .unset, .unset, .unset, .unset, .unset] [(.int (0 : Int32))])) _
          refine XS.istore X103.here hx rfl (hb hby at_49) rfl (l' := #[.val (.int p1), .val (.int p2), .val (.int p3), .val (.int p4), .val (.int p5), .val (.int p6), .val (.int (Int32.ofNat mr)), .val (.int (Int32.ofNat nc)), .val (.ref b101), .val (.int (0 : Int32)), .val (.int (0 : Int32)), .val (.int (0 : Int32)), .val (.int (0 : Int32)), .unset, .unset, .unset, .unset, .unset, .unset, .unset, .unset, .unset, .unset, .unset, .unset]) rfl ?_
          show Steps p.tables e below (T103.setTop (mkF m 51 #[.val (.int p1), .val (.int p2), .val (.int p3), .val (.int p4), .val (.int p5), .val (.int p6), .val (.int (Int32.ofNat mr)), .val (.int (Int32.ofNat nc)), .val (.ref b101), .val (.int (0 : Int32)), .val (.int (0 : Int32)), .val (.int (0 : Int32)), .val (.int (0 : Int32)), .unset, .unset, .unset, .unset, .unset, .unset, .unset, .unset, .unset, .unset, .unset, .unset] [])) _
          refine XS.iconst X103.here hx rfl (hb hby at_51) ?_
          show Steps p.tables e below (T103.setTop (mkF m 52 #[.val (.int p1), .val (.int p2), .val (.int p3), .val (.int p4), .val (.int p5), .val (.int p6), .val (.int (Int32.ofNat mr)), .val (.int (Int32.ofNat nc)), .val (.ref b101), .val (.int (0 : Int32)), .val (.int (0 : Int32)), .val (.int (0 : Int32)), .val (.int (0 : Int32)), .unset, .unset, .unset, .unset, .unset, .unset, .unset, .unset, .unset, .unset, .unset, .unset] [(.int (0 : Int32))])) _
          refine XS.istore X103.here hx rfl (hb hby at_52) rfl (l' := #[.val (.int p1), .val (.int p2), .val (.int p3), .val (.int p4), .val (.int p5), .val (.int p6), .val (.int (Int32.ofNat mr)), .val (.int (Int32.ofNat nc)), .val (.ref b101), .val (.int (0 : Int32)), .val (.int (0 : Int32)), .val (.int (0 : Int32)), .val (.int (0 : Int32)), .val (.int (0 : Int32)), .unset, .unset, .unset, .unset, .unset, .unset, .unset, .unset, .unset, .unset, .unset]) rfl ?_
          show Steps p.tables e below (T103.setTop (mkF m 54 #[.val (.int p1), .val (.int p2), .val (.int p3), .val (.int p4), .val (.int p5), .val (.int p6), .val (.int (Int32.ofNat mr)), .val (.int (Int32.ofNat nc)), .val (.ref b101), .val (.int (0 : Int32)), .val (.int (0 : Int32)), .val (.int (0 : Int32)), .val (.int (0 : Int32)), .val (.int (0 : Int32)), .unset, .unset, .unset, .unset, .unset, .unset, .unset, .unset, .unset, .unset, .unset] [])) _
          refine XS.iconst X103.here hx rfl (hb hby at_54) ?_
          show Steps p.tables e below (T103.setTop (mkF m 55 #[.val (.int p1), .val (.int p2), .val (.int p3), .val (.int p4), .val (.int p5), .val (.int p6), .val (.int (Int32.ofNat mr)), .val (.int (Int32.ofNat nc)), .val (.ref b101), .val (.int (0 : Int32)), .val (.int (0 : Int32)), .val (.int (0 : Int32)), .val (.int (0 : Int32)), .val (.int (0 : Int32)), .unset, .unset, .unset, .unset, .unset, .unset, .unset, .unset, .unset, .unset, .unset] [(.int (0 : Int32))])) _
          refine XS.istore X103.here hx rfl (hb hby at_55) rfl (l' := #[.val (.int p1), .val (.int p2), .val (.int p3), .val (.int p4), .val (.int p5), .val (.int p6), .val (.int (Int32.ofNat mr)), .val (.int (Int32.ofNat nc)), .val (.ref b101), .val (.int (0 : Int32)), .val (.int (0 : Int32)), .val (.int (0 : Int32)), .val (.int (0 : Int32)), .val (.int (0 : Int32)), .val (.int (0 : Int32)), .unset, .unset, .unset, .unset, .unset, .unset, .unset, .unset, .unset, .unset]) rfl ?_
          show Steps p.tables e below (T103.setTop (mkF m 57 #[.val (.int p1), .val (.int p2), .val (.int p3), .val (.int p4), .val (.int p5), .val (.int p6), .val (.int (Int32.ofNat mr)), .val (.int (Int32.ofNat nc)), .val (.ref b101), .val (.int (0 : Int32)), .val (.int (0 : Int32)), .val (.int (0 : Int32)), .val (.int (0 : Int32)), .val (.int (0 : Int32)), .val (.int (0 : Int32)), .unset, .unset, .unset, .unset, .unset, .unset, .unset, .unset, .unset, .unset] [])) _
          refine XS.iconst X103.here hx rfl (hb hby at_57) ?_
          show Steps p.tables e below (T103.setTop (mkF m 58 #[.val (.int p1), .val (.int p2), .val (.int p3), .val (.int p4), .val (.int p5), .val (.int p6), .val (.int (Int32.ofNat mr)), .val (.int (Int32.ofNat nc)), .val (.ref b101), .val (.int (0 : Int32)), .val (.int (0 : Int32)), .val (.int (0 : Int32)), .val (.int (0 : Int32)), .val (.int (0 : Int32)), .val (.int (0 : Int32)), .unset, .unset, .unset, .unset, .unset, .unset, .unset, .unset, .unset, .unset] [(.int (0 : Int32))])) _
          refine XS.istore X103.here hx rfl (hb hby at_58) rfl (l' := #[.val (.int p1), .val (.int p2), .val (.int p3), .val (.int p4), .val (.int p5), .val (.int p6), .val (.int (Int32.ofNat mr)), .val (.int (Int32.ofNat nc)), .val (.ref b101), .val (.int (0 : Int32)), .val (.int (0 : Int32)), .val (.int (0 : Int32)), .val (.int (0 : Int32)), .val (.int (0 : Int32)), .val (.int (0 : Int32)), .val (.int (0 : Int32)), .unset, .unset, .unset, .unset, .unset, .unset, .unset, .unset, .unset]) rfl ?_
          show Steps p.tables e below (T103.setTop (mkF m 60 #[.val (.int p1), .val (.int p2), .val (.int p3), .val (.int p4), .val (.int p5), .val (.int p6), .val (.int (Int32.ofNat mr)), .val (.int (Int32.ofNat nc)), .val (.ref b101), .val (.int (0 : Int32)), .val (.int (0 : Int32)), .val (.int (0 : Int32)), .val (.int (0 : Int32)), .val (.int (0 : Int32)), .val (.int (0 : Int32)), .val (.int (0 : Int32)), .unset, .unset, .unset, .unset, .unset, .unset, .unset, .unset, .unset] [])) _
          refine XS.iload X103.here hx rfl (hb hby at_60) rfl ?_
          show Steps p.tables e below (T103.setTop (mkF m 62 #[.val (.int p1), .val (.int p2), .val (.int p3), .val (.int p4), .val (.int p5), .val (.int p6), .val (.int (Int32.ofNat mr)), .val (.int (Int32.ofNat nc)), .val (.ref b101), .val (.int (0 : Int32)), .val (.int (0 : Int32)), .val (.int (0 : Int32)), .val (.int (0 : Int32)), .val (.int (0 : Int32)), .val (.int (0 : Int32)), .val (.int (0 : Int32)), .unset, .unset, .unset, .unset, .unset, .unset, .unset, .unset, .unset] [(.int p5)])) _
          refine XS.i2dS X103.here hx rfl (hb hby at_62) rfl (v := (FP.i2d p5)) rfl ?_
          show Steps p.tables e below (T103.setTop (mkF m 63 #[.val (.int p1), .val (.int p2), .val (.int p3), .val (.int p4), .val (.int p5), .val (.int p6), .val (.int (Int32.ofNat mr)), .val (.int (Int32.ofNat nc)), .val (.ref b101), .val (.int (0 : Int32)), .val (.int (0 : Int32)), .val (.int (0 : Int32)), .val (.int (0 : Int32)), .val (.int (0 : Int32)), .val (.int (0 : Int32)), .val (.int (0 : Int32)), .unset, .unset, .unset, .unset, .unset, .unset, .unset, .unset, .unset] [(.double (FP.i2d p5))])) _
          refine XS.dstore X103.here hx rfl (hb hby at_63) rfl (l' := #[.val (.int p1), .val (.int p2), .val (.int p3), .val (.int p4), .val (.int p5), .val (.int p6), .val (.int (Int32.ofNat mr)), .val (.int (Int32.ofNat nc)), .val (.ref b101), .val (.int (0 : Int32)), .val (.int (0 : Int32)), .val (.int (0 : Int32)), .val (.int (0 : Int32)), .val (.int (0 : Int32)), .val (.int (0 : Int32)), .val (.int (0 : Int32)), .val (.double (FP.i2d p5)), .second, .unset, .unset, .unset, .unset, .unset, .unset, .unset]) rfl ?_
          show Steps p.tables e below (T103.setTop (mkF m 65 #[.val (.int p1), .val (.int p2), .val (.int p3), .val (.int p4), .val (.int p5), .val (.int p6), .val (.int (Int32.ofNat mr)), .val (.int (Int32.ofNat nc)), .val (.ref b101), .val (.int (0 : Int32)), .val (.int (0 : Int32)), .val (.int (0 : Int32)), .val (.int (0 : Int32)), .val (.int (0 : Int32)), .val (.int (0 : Int32)), .val (.int (0 : Int32)), .val (.double (FP.i2d p5)), .second, .unset, .unset, .unset, .unset, .unset, .unset, .unset] [])) _
          refine XS.iload X103.here hx rfl (hb hby at_65) rfl ?_
          show Steps p.tables e below (T103.setTop (mkF m 67 #[.val (.int p1), .val (.int p2), .val (.int p3), .val (.int p4), .val (.int p5), .val (.int p6), .val (.int (Int32.ofNat mr)), .val (.int (Int32.ofNat nc)), .val (.ref b101), .val (.int (0 : Int32)), .val (.int (0 : Int32)), .val (.int (0 : Int32)), .val (.int (0 : Int32)), .val (.int (0 : Int32)), .val (.int (0 : Int32)), .val (.int (0 : Int32)), .val (.double (FP.i2d p5)), .second, .unset, .unset, .unset, .unset, .unset, .unset, .unset] [(.int p6)])) _
          refine XS.i2dS X103.here hx rfl (hb hby at_67) rfl (v := (FP.i2d p6)) rfl ?_
          show Steps p.tables e below (T103.setTop (mkF m 68 #[.val (.int p1), .val (.int p2), .val (.int p3), .val (.int p4), .val (.int p5), .val (.int p6), .val (.int (Int32.ofNat mr)), .val (.int (Int32.ofNat nc)), .val (.ref b101), .val (.int (0 : Int32)), .val (.int (0 : Int32)), .val (.int (0 : Int32)), .val (.int (0 : Int32)), .val (.int (0 : Int32)), .val (.int (0 : Int32)), .val (.int (0 : Int32)), .val (.double (FP.i2d p5)), .second, .unset, .unset, .unset, .unset, .unset, .unset, .unset] [(.double (FP.i2d p6))])) _
          refine XS.dstore X103.here hx rfl (hb hby at_68) rfl (l' := #[.val (.int p1), .val (.int p2), .val (.int p3), .val (.int p4), .val (.int p5), .val (.int p6), .val (.int (Int32.ofNat mr)), .val (.int (Int32.ofNat nc)), .val (.ref b101), .val (.int (0 : Int32)), .val (.int (0 : Int32)), .val (.int (0 : Int32)), .val (.int (0 : Int32)), .val (.int (0 : Int32)), .val (.int (0 : Int32)), .val (.int (0 : Int32)), .val (.double (FP.i2d p5)), .second, .val (.double (FP.i2d p6)), .second, .unset, .unset, .unset, .unset, .unset]) rfl ?_
          show Steps p.tables e below (T103.setTop (mkF m 70 #[.val (.int p1), .val (.int p2), .val (.int p3), .val (.int p4), .val (.int p5), .val (.int p6), .val (.int (Int32.ofNat mr)), .val (.int (Int32.ofNat nc)), .val (.ref b101), .val (.int (0 : Int32)), .val (.int (0 : Int32)), .val (.int (0 : Int32)), .val (.int (0 : Int32)), .val (.int (0 : Int32)), .val (.int (0 : Int32)), .val (.int (0 : Int32)), .val (.double (FP.i2d p5)), .second, .val (.double (FP.i2d p6)), .second, .unset, .unset, .unset, .unset, .unset] [])) _
          refine XS.iload X103.here hx rfl (hb hby at_70) rfl ?_
          show Steps p.tables e below (T103.setTop (mkF m 72 #[.val (.int p1), .val (.int p2), .val (.int p3), .val (.int p4), .val (.int p5), .val (.int p6), .val (.int (Int32.ofNat mr)), .val (.int (Int32.ofNat nc)), .val (.ref b101), .val (.int (0 : Int32)), .val (.int (0 : Int32)), .val (.int (0 : Int32)), .val (.int (0 : Int32)), .val (.int (0 : Int32)), .val (.int (0 : Int32)), .val (.int (0 : Int32)), .val (.double (FP.i2d p5)), .second, .val (.double (FP.i2d p6)), .second, .unset, .unset, .unset, .unset, .unset] [(.int (0 : Int32))])) _
          refine XS.ifYes X103.here hx rfl (pc0 := 72) (pc' := 151) rfl (hb hby at_72) rfl ((if0 _ _).trans (teq ((by decide) : (0 : Int32) = (0 : Int32))).1) (by decide) (by decide) ?_
          show Steps p.tables e below (T103.setTop (mkF m 151 #[.val (.int p1), .val (.int p2), .val (.int p3), .val (.int p4), .val (.int p5), .val (.int p6), .val (.int (Int32.ofNat mr)), .val (.int (Int32.ofNat nc)), .val (.ref b101), .val (.int (0 : Int32)), .val (.int (0 : Int32)), .val (.int (0 : Int32)), .val (.int (0 : Int32)), .val (.int (0 : Int32)), .val (.int (0 : Int32)), .val (.int (0 : Int32)), .val (.double (FP.i2d p5)), .second, .val (.double (FP.i2d p6)), .second, .unset, .unset, .unset, .unset, .unset] [])) _
          refine XS.aload X103.here hx rfl (hb hby at_151) rfl rfl ?_
          show Steps p.tables e below (T103.setTop (mkF m 153 #[.val (.int p1), .val (.int p2), .val (.int p3), .val (.int p4), .val (.int p5), .val (.int p6), .val (.int (Int32.ofNat mr)), .val (.int (Int32.ofNat nc)), .val (.ref b101), .val (.int (0 : Int32)), .val (.int (0 : Int32)), .val (.int (0 : Int32)), .val (.int (0 : Int32)), .val (.int (0 : Int32)), .val (.int (0 : Int32)), .val (.int (0 : Int32)), .val (.double (FP.i2d p5)), .second, .val (.double (FP.i2d p6)), .second, .unset, .unset, .unset, .unset, .unset] [(.ref b101)])) _
          refine st183.trans ?_
          show Steps p.tables e below (T183.setTop (mkF m 156 #[.val (.int p1), .val (.int p2), .val (.int p3), .val (.int p4), .val (.int p5), .val (.int p6), .val (.int (Int32.ofNat mr)), .val (.int (Int32.ofNat nc)), .val (.ref b101), .val (.int (0 : Int32)), .val (.int (0 : Int32)), .val (.int (0 : Int32)), .val (.int (0 : Int32)), .val (.int (0 : Int32)), .val (.int (0 : Int32)), .val (.int (0 : Int32)), .val (.double (FP.i2d p5)), .second, .val (.double (FP.i2d p6)), .second, .unset, .unset, .unset, .unset, .unset] [(.ref b_183)])) _
          refine XS.astore X183.here hx rfl (hb hby at_156) rfl rfl (l' := #[.val (.int p1), .val (.int p2), .val (.int p3), .val (.int p4), .val (.int p5), .val (.int p6), .val (.int (Int32.ofNat mr)), .val (.int (Int32.ofNat nc)), .val (.ref b101), .val (.int (0 : Int32)), .val (.int (0 : Int32)), .val (.int (0 : Int32)), .val (.int (0 : Int32)), .val (.int (0 : Int32)), .val (.int (0 : Int32)), .val (.int (0 : Int32)), .val (.double (FP.i2d p5)), .second, .val (.double (FP.i2d p6)), .second, .val (.ref b_183), .unset, .unset, .unset, .unset]) rfl ?_
          show Steps p.tables e below (T183.setTop (mkF m 158 #[.val (.int p1), .val (.int p2), .val (.int p3), .val (.int p4), .val (.int p5), .val (.int p6), .val (.int (Int32.ofNat mr)), .val (.int (Int32.ofNat nc)), .val (.ref b101), .val (.int (0 : Int32)), .val (.int (0 : Int32)), .val (.int (0 : Int32)), .val (.int (0 : Int32)), .val (.int (0 : Int32)), .val (.int (0 : Int32)), .val (.int (0 : Int32)), .val (.double (FP.i2d p5)), .second, .val (.double (FP.i2d p6)), .second, .val (.ref b_183), .unset, .unset, .unset, .unset] [])) _
          refine XS.aload X183.here hx rfl (hb hby at_158) rfl rfl ?_
          show Steps p.tables e below (T183.setTop (mkF m 160 #[.val (.int p1), .val (.int p2), .val (.int p3), .val (.int p4), .val (.int p5), .val (.int p6), .val (.int (Int32.ofNat mr)), .val (.int (Int32.ofNat nc)), .val (.ref b101), .val (.int (0 : Int32)), .val (.int (0 : Int32)), .val (.int (0 : Int32)), .val (.int (0 : Int32)), .val (.int (0 : Int32)), .val (.int (0 : Int32)), .val (.int (0 : Int32)), .val (.double (FP.i2d p5)), .second, .val (.double (FP.i2d p6)), .second, .val (.ref b_183), .unset, .unset, .unset, .unset] [(.ref b_183)])) _
          refine XS.ifnullNo X183.here hx rfl (hb hby at_160) rfl ?_
          show Steps p.tables e below (T183.setTop (mkF m 163 #[.val (.int p1), .val (.int p2), .val (.int p3), .val (.int p4), .val (.int p5), .val (.int p6), .val (.int (Int32.ofNat mr)), .val (.int (Int32.ofNat nc)), .val (.ref b101), .val (.int (0 : Int32)), .val (.int (0 : Int32)), .val (.int (0 : Int32)), .val (.int (0 : Int32)), .val (.int (0 : Int32)), .val (.int (0 : Int32)), .val (.int (0 : Int32)), .val (.double (FP.i2d p5)), .second, .val (.double (FP.i2d p6)), .second, .val (.ref b_183), .unset, .unset, .unset, .unset] [])) _
          refine XS.aload X183.here hx rfl (hb hby at_163) rfl rfl ?_
          show Steps p.tables e below (T183.setTop (mkF m 165 #[.val (.int p1), .val (.int p2), .val (.int p3), .val (.int p4), .val (.int p5), .val (.int p6), .val (.int (Int32.ofNat mr)), .val (.int (Int32.ofNat nc)), .val (.ref b101), .val (.int (0 : Int32)), .val (.int (0 : Int32)), .val (.int (0 : Int32)), .val (.int (0 : Int32)), .val (.int (0 : Int32)), .val (.int (0 : Int32)), .val (.int (0 : Int32)), .val (.double (FP.i2d p5)), .second, .val (.double (FP.i2d p6)), .second, .val (.ref b_183), .unset, .unset, .unset, .unset] [(.ref b_183)])) _
          refine X183.arraylength hx (cell := cl187) Ar187.1 (State.isArrayOf_alike hZ.alike Ar187.2.1) (g := (mkF m 165 #[.val (.int p1), .val (.int p2), .val (.int p3), .val (.int p4), .val (.int p5), .val (.int p6), .val (.int (Int32.ofNat mr)), .val (.int (Int32.ofNat nc)), .val (.ref b101), .val (.int (0 : Int32)), .val (.int (0 : Int32)), .val (.int (0 : Int32)), .val (.int (0 : Int32)), .val (.int (0 : Int32)), .val (.int (0 : Int32)), .val (.int (0 : Int32)), .val (.double (FP.i2d p5)), .second, .val (.double (FP.i2d p6)), .second, .val (.ref b_183), .unset, .unset, .unset, .unset] [(.ref b_183)])) rfl rfl (hb hby at_165) _ ?_
          rw [len_of S187 M187]
          show Steps p.tables e below (T183.setTop (mkF m 166 #[.val (.int p1), .val (.int p2), .val (.int p3), .val (.int p4), .val (.int p5), .val (.int p6), .val (.int (Int32.ofNat mr)), .val (.int (Int32.ofNat nc)), .val (.ref b101), .val (.int (0 : Int32)), .val (.int (0 : Int32)), .val (.int (0 : Int32)), .val (.int (0 : Int32)), .val (.int (0 : Int32)), .val (.int (0 : Int32)), .val (.int (0 : Int32)), .val (.double (FP.i2d p5)), .second, .val (.double (FP.i2d p6)), .second, .val (.ref b_183), .unset, .unset, .unset, .unset] [(.int (Int32.ofNat mr))])) _
          refine XS.iload X183.here hx rfl (hb hby at_166) rfl ?_
          show Steps p.tables e below (T183.setTop (mkF m 168 #[.val (.int p1), .val (.int p2), .val (.int p3), .val (.int p4), .val (.int p5), .val (.int p6), .val (.int (Int32.ofNat mr)), .val (.int (Int32.ofNat nc)), .val (.ref b101), .val (.int (0 : Int32)), .val (.int (0 : Int32)), .val (.int (0 : Int32)), .val (.int (0 : Int32)), .val (.int (0 : Int32)), .val (.int (0 : Int32)), .val (.int (0 : Int32)), .val (.double (FP.i2d p5)), .second, .val (.double (FP.i2d p6)), .second, .val (.ref b_183), .unset, .unset, .unset, .unset] [(.int (Int32.ofNat mr)), (.int (Int32.ofNat mr))])) _
          refine XS.icmpYes X183.here hx rfl (pc0 := 168) (pc' := 173) rfl (hb hby at_168) rfl (teq (rfl : (Int32.ofNat mr) = (Int32.ofNat mr))).1 (by decide) (by decide) ?_
          show Steps p.tables e below (T183.setTop (mkF m 173 #[.val (.int p1), .val (.int p2), .val (.int p3), .val (.int p4), .val (.int p5), .val (.int p6), .val (.int (Int32.ofNat mr)), .val (.int (Int32.ofNat nc)), .val (.ref b101), .val (.int (0 : Int32)), .val (.int (0 : Int32)), .val (.int (0 : Int32)), .val (.int (0 : Int32)), .val (.int (0 : Int32)), .val (.int (0 : Int32)), .val (.int (0 : Int32)), .val (.double (FP.i2d p5)), .second, .val (.double (FP.i2d p6)), .second, .val (.ref b_183), .unset, .unset, .unset, .unset] [])) _
          refine XS.aload X183.here hx rfl (hb hby at_173) rfl rfl ?_
          show Steps p.tables e below (T183.setTop (mkF m 175 #[.val (.int p1), .val (.int p2), .val (.int p3), .val (.int p4), .val (.int p5), .val (.int p6), .val (.int (Int32.ofNat mr)), .val (.int (Int32.ofNat nc)), .val (.ref b101), .val (.int (0 : Int32)), .val (.int (0 : Int32)), .val (.int (0 : Int32)), .val (.int (0 : Int32)), .val (.int (0 : Int32)), .val (.int (0 : Int32)), .val (.int (0 : Int32)), .val (.double (FP.i2d p5)), .second, .val (.double (FP.i2d p6)), .second, .val (.ref b_183), .unset, .unset, .unset, .unset] [(.ref b_183)])) _
          refine XS.iconst X183.here hx rfl (hb hby at_175) ?_
          show Steps p.tables e below (T183.setTop (mkF m 176 #[.val (.int p1), .val (.int p2), .val (.int p3), .val (.int p4), .val (.int p5), .val (.int p6), .val (.int (Int32.ofNat mr)), .val (.int (Int32.ofNat nc)), .val (.ref b101), .val (.int (0 : Int32)), .val (.int (0 : Int32)), .val (.int (0 : Int32)), .val (.int (0 : Int32)), .val (.int (0 : Int32)), .val (.int (0 : Int32)), .val (.int (0 : Int32)), .val (.double (FP.i2d p5)), .second, .val (.double (FP.i2d p6)), .second, .val (.ref b_183), .unset, .unset, .unset, .unset] [(.int (0 : Int32)), (.ref b_183)])) _
          refine XS.iload X183.here hx rfl (hb hby at_176) rfl ?_
          show Steps p.tables e below (T183.setTop (mkF m 178 #[.val (.int p1), .val (.int p2), .val (.int p3), .val (.int p4), .val (.int p5), .val (.int p6), .val (.int (Int32.ofNat mr)), .val (.int (Int32.ofNat nc)), .val (.ref b101), .val (.int (0 : Int32)), .val (.int (0 : Int32)), .val (.int (0 : Int32)), .val (.int (0 : Int32)), .val (.int (0 : Int32)), .val (.int (0 : Int32)), .val (.int (0 : Int32)), .val (.double (FP.i2d p5)), .second, .val (.double (FP.i2d p6)), .second, .val (.ref b_183), .unset, .unset, .unset, .unset] [(.int (Int32.ofNat nc)), (.int (0 : Int32)), (.ref b_183)])) _
          refine st188 _ ?_
          show Steps p.tables e below (T188.setTop (mkF m 181 #[.val (.int p1), .val (.int p2), .val (.int p3), .val (.int p4), .val (.int p5), .val (.int p6), .val (.int (Int32.ofNat mr)), .val (.int (Int32.ofNat nc)), .val (.ref b101), .val (.int (0 : Int32)), .val (.int (0 : Int32)), .val (.int (0 : Int32)), .val (.int (0 : Int32)), .val (.int (0 : Int32)), .val (.int (0 : Int32)), .val (.int (0 : Int32)), .val (.double (FP.i2d p5)), .second, .val (.double (FP.i2d p6)), .second, .val (.ref b_183), .unset, .unset, .unset, .unset] [(.int (1 : Int32))])) _
          refine XS.ifNo X188.here hx rfl (hb hby at_181) rfl ((if0 _ _).trans (feq ((by decide) : ¬ ((1 : Int32) = (0 : Int32)))).1) ?_
          show Steps p.tables e below (T188.setTop (mkF m 184 #[.val (.int p1), .val (.int p2), .val (.int p3), .val (.int p4), .val (.int p5), .val (.int p6), .val (.int (Int32.ofNat mr)), .val (.int (Int32.ofNat nc)), .val (.ref b101), .val (.int (0 : Int32)), .val (.int (0 : Int32)), .val (.int (0 : Int32)), .val (.int (0 : Int32)), .val (.int (0 : Int32)), .val (.int (0 : Int32)), .val (.int (0 : Int32)), .val (.double (FP.i2d p5)), .second, .val (.double (FP.i2d p6)), .second, .val (.ref b_183), .unset, .unset, .unset, .unset] [])) _
          refine XS.aload X188.here hx rfl (hb hby at_184) rfl rfl ?_
          show Steps p.tables e below (T188.setTop (mkF m 186 #[.val (.int p1), .val (.int p2), .val (.int p3), .val (.int p4), .val (.int p5), .val (.int p6), .val (.int (Int32.ofNat mr)), .val (.int (Int32.ofNat nc)), .val (.ref b101), .val (.int (0 : Int32)), .val (.int (0 : Int32)), .val (.int (0 : Int32)), .val (.int (0 : Int32)), .val (.int (0 : Int32)), .val (.int (0 : Int32)), .val (.int (0 : Int32)), .val (.double (FP.i2d p5)), .second, .val (.double (FP.i2d p6)), .second, .val (.ref b_183), .unset, .unset, .unset, .unset] [(.ref b_183)])) _
          refine XS.iconst X188.here hx rfl (hb hby at_186) ?_
          show Steps p.tables e below (T188.setTop (mkF m 187 #[.val (.int p1), .val (.int p2), .val (.int p3), .val (.int p4), .val (.int p5), .val (.int p6), .val (.int (Int32.ofNat mr)), .val (.int (Int32.ofNat nc)), .val (.ref b101), .val (.int (0 : Int32)), .val (.int (0 : Int32)), .val (.int (0 : Int32)), .val (.int (0 : Int32)), .val (.int (0 : Int32)), .val (.int (0 : Int32)), .val (.int (0 : Int32)), .val (.double (FP.i2d p5)), .second, .val (.double (FP.i2d p6)), .second, .val (.ref b_183), .unset, .unset, .unset, .unset] [(.int (1 : Int32)), (.ref b_183)])) _
          refine XS.iload X188.here hx rfl (hb hby at_187) rfl ?_
          show Steps p.tables e below (T188.setTop (mkF m 189 #[.val (.int p1), .val (.int p2), .val (.int p3), .val (.int p4), .val (.int p5), .val (.int p6), .val (.int (Int32.ofNat mr)), .val (.int (Int32.ofNat nc)), .val (.ref b101), .val (.int (0 : Int32)), .val (.int (0 : Int32)), .val (.int (0 : Int32)), .val (.int (0 : Int32)), .val (.int (0 : Int32)), .val (.int (0 : Int32)), .val (.int (0 : Int32)), .val (.double (FP.i2d p5)), .second, .val (.double (FP.i2d p6)), .second, .val (.ref b_183), .unset, .unset, .unset, .unset] [(.int (Int32.ofNat nc)), (.int (1 : Int32)), (.ref b_183)])) _
          refine st189 _ ?_
          show Steps p.tables e below (T189.setTop (mkF m 192 #[.val (.int p1), .val (.int p2), .val (.int p3), .val (.int p4), .val (.int p5), .val (.int p6), .val (.int (Int32.ofNat mr)), .val (.int (Int32.ofNat nc)), .val (.ref b101), .val (.int (0 : Int32)), .val (.int (0 : Int32)), .val (.int (0 : Int32)), .val (.int (0 : Int32)), .val (.int (0 : Int32)), .val (.int (0 : Int32)), .val (.int (0 : Int32)), .val (.double (FP.i2d p5)), .second, .val (.double (FP.i2d p6)), .second, .val (.ref b_183), .unset, .unset, .unset, .unset] [(.int (1 : Int32))])) _
          refine XS.ifNo X189.here hx rfl (hb hby at_192) rfl ((if0 _ _).trans (feq ((by decide) : ¬ ((1 : Int32) = (0 : Int32)))).1) ?_
          show Steps p.tables e below (T189.setTop (mkF m 195 #[.val (.int p1), .val (.int p2), .val (.int p3), .val (.int p4), .val (.int p5), .val (.int p6), .val (.int (Int32.ofNat mr)), .val (.int (Int32.ofNat nc)), .val (.ref b101), .val (.int (0 : Int32)), .val (.int (0 : Int32)), .val (.int (0 : Int32)), .val (.int (0 : Int32)), .val (.int (0 : Int32)), .val (.int (0 : Int32)), .val (.int (0 : Int32)), .val (.double (FP.i2d p5)), .second, .val (.double (FP.i2d p6)), .second, .val (.ref b_183), .unset, .unset, .unset, .unset] [])) _
          refine XS.aload X189.here hx rfl (hb hby at_195) rfl rfl ?_
          show Steps p.tables e below (T189.setTop (mkF m 197 #[.val (.int p1), .val (.int p2), .val (.int p3), .val (.int p4), .val (.int p5), .val (.int p6), .val (.int (Int32.ofNat mr)), .val (.int (Int32.ofNat nc)), .val (.ref b101), .val (.int (0 : Int32)), .val (.int (0 : Int32)), .val (.int (0 : Int32)), .val (.int (0 : Int32)), .val (.int (0 : Int32)), .val (.int (0 : Int32)), .val (.int (0 : Int32)), .val (.double (FP.i2d p5)), .second, .val (.double (FP.i2d p6)), .second, .val (.ref b_183), .unset, .unset, .unset, .unset] [(.ref b_183)])) _
          refine XS.iconst X189.here hx rfl (hb hby at_197) ?_
          show Steps p.tables e below (T189.setTop (mkF m 198 #[.val (.int p1), .val (.int p2), .val (.int p3), .val (.int p4), .val (.int p5), .val (.int p6), .val (.int (Int32.ofNat mr)), .val (.int (Int32.ofNat nc)), .val (.ref b101), .val (.int (0 : Int32)), .val (.int (0 : Int32)), .val (.int (0 : Int32)), .val (.int (0 : Int32)), .val (.int (0 : Int32)), .val (.int (0 : Int32)), .val (.int (0 : Int32)), .val (.double (FP.i2d p5)), .second, .val (.double (FP.i2d p6)), .second, .val (.ref b_183), .unset, .unset, .unset, .unset] [(.int (2 : Int32)), (.ref b_183)])) _
          refine XS.iload X189.here hx rfl (hb hby at_198) rfl ?_
          show Steps p.tables e below (T189.setTop (mkF m 200 #[.val (.int p1), .val (.int p2), .val (.int p3), .val (.int p4), .val (.int p5), .val (.int p6), .val (.int (Int32.ofNat mr)), .val (.int (Int32.ofNat nc)), .val (.ref b101), .val (.int (0 : Int32)), .val (.int (0 : Int32)), .val (.int (0 : Int32)), .val (.int (0 : Int32)), .val (.int (0 : Int32)), .val (.int (0 : Int32)), .val (.int (0 : Int32)), .val (.double (FP.i2d p5)), .second, .val (.double (FP.i2d p6)), .second, .val (.ref b_183), .unset, .unset, .unset, .unset] [(.int (Int32.ofNat nc)), (.int (2 : Int32)), (.ref b_183)])) _
          refine st190 _ ?_
          show Steps p.tables e below (T190.setTop (mkF m 203 #[.val (.int p1), .val (.int p2), .val (.int p3), .val (.int p4), .val (.int p5), .val (.int p6), .val (.int (Int32.ofNat mr)), .val (.int (Int32.ofNat nc)), .val (.ref b101), .val (.int (0 : Int32)), .val (.int (0 : Int32)), .val (.int (0 : Int32)), .val (.int (0 : Int32)), .val (.int (0 : Int32)), .val (.int (0 : Int32)), .val (.int (0 : Int32)), .val (.double (FP.i2d p5)), .second, .val (.double (FP.i2d p6)), .second, .val (.ref b_183), .unset, .unset, .unset, .unset] [(.int (1 : Int32))])) _
          refine XS.ifYes X190.here hx rfl (pc0 := 203) (pc' := 208) rfl (hb hby at_203) rfl ((if0 _ _).trans (feq ((by decide) : ¬ ((1 : Int32) = (0 : Int32)))).2) (by decide) (by decide) ?_
          show Steps p.tables e below (T190.setTop (mkF m 208 #[.val (.int p1), .val (.int p2), .val (.int p3), .val (.int p4), .val (.int p5), .val (.int p6), .val (.int (Int32.ofNat mr)), .val (.int (Int32.ofNat nc)), .val (.ref b101), .val (.int (0 : Int32)), .val (.int (0 : Int32)), .val (.int (0 : Int32)), .val (.int (0 : Int32)), .val (.int (0 : Int32)), .val (.int (0 : Int32)), .val (.int (0 : Int32)), .val (.double (FP.i2d p5)), .second, .val (.double (FP.i2d p6)), .second, .val (.ref b_183), .unset, .unset, .unset, .unset] [])) _
          refine XS.iload X190.here hx rfl (hb hby at_208) rfl ?_
          show Steps p.tables e below (T190.setTop (mkF m 210 #[.val (.int p1), .val (.int p2), .val (.int p3), .val (.int p4), .val (.int p5), .val (.int p6), .val (.int (Int32.ofNat mr)), .val (.int (Int32.ofNat nc)), .val (.ref b101), .val (.int (0 : Int32)), .val (.int (0 : Int32)), .val (.int (0 : Int32)), .val (.int (0 : Int32)), .val (.int (0 : Int32)), .val (.int (0 : Int32)), .val (.int (0 : Int32)), .val (.double (FP.i2d p5)), .second, .val (.double (FP.i2d p6)), .second, .val (.ref b_183), .unset, .unset, .unset, .unset] [(.int (0 : Int32))])) _
          refine XS.ifNo X190.here hx rfl (hb hby at_210) rfl ((if0 _ _).trans (teq ((by decide) : (0 : Int32) = (0 : Int32))).2) ?_
          show Steps p.tables e below (T190.setTop (mkF m 213 #[.val (.int p1), .val (.int p2), .val (.int p3), .val (.int p4), .val (.int p5), .val (.int p6), .val (.int (Int32.ofNat mr)), .val (.int (Int32.ofNat nc)), .val (.ref b101), .val (.int (0 : Int32)), .val (.int (0 : Int32)), .val (.int (0 : Int32)), .val (.int (0 : Int32)), .val (.int (0 : Int32)), .val (.int (0 : Int32)), .val (.int (0 : Int32)), .val (.double (FP.i2d p5)), .second, .val (.double (FP.i2d p6)), .second, .val (.ref b_183), .unset, .unset, .unset, .unset] [])) _
          refine XS.iconst X190.here hx rfl (hb hby at_213) ?_
          exact kt)
      obtain ⟨fs, hr, hrun, hended, hW, hsame⟩ := X190.leave (v := some (.int (1 : Int32))) (fun h => by rw [Bd.returns] at h; cases h)
      refine ⟨_, _, pre191 _ ?_, hrun, hended, _, _, rfl, ?_, ⟨_, rfl⟩, hW, hsame.mono (by decide) (by decide)⟩
      · show Steps p.tables e below (T190.setTop (mkF m 214 #[.val (.int p1), .val (.int p2), .val (.int p3), .val (.int p4), .val (.int p5), .val (.int p6), .val (.int (Int32.ofNat mr)), .val (.int (Int32.ofNat nc)), .val (.ref b101), .val (.int (0 : Int32)), .val (.int (0 : Int32)), .val (.int (0 : Int32)), .val (.int (0 : Int32)), .val (.int (0 : Int32)), .val (.int (0 : Int32)), .val (.int (0 : Int32)), .val (.double (FP.i2d p5)), .second, .val (.double (FP.i2d p6)), .second, .val (.ref b_183), .unset, .unset, .unset, .unset] [(.int (1 : Int32))])) _
        exact retN X190 hx (t := .boolean) Bd.returns (by simp) (hb hby at_214) hr
      · show Q0 Z p1 p2 p3 p4 p5 p6 h0 n0 _ T190.heap _
        rw [e190]
        exact ⟨rfl, N190⟩
  · skip
    have f192 : Exa Z T103.heap b101 "com/example/orthoform/kernel/DenseMatrix" := (A101.keep K103)
    obtain ⟨cq193, kq193, q193a, q193b, q193c⟩ := isOf hZ rfl f192
    obtain ⟨_, _, ⟨T193, L193, kk193, nn193⟩, -, X193, ⟨Lc193, hQ193, l193, y193, z193⟩, st193⟩ := X103.virtualBack hx (y := (⟨"com/example/orthoform/kernel/DenseMatrix", "toArray", "()[[D"⟩ : MethodName)) (z := (⟨"com/example/orthoform/kernel/DenseMatrix", "toArray", "()[[D"⟩ : MethodName)) hown (mvT hZ (hw _ (List.mem_of_getElem? (i := 17) rfl))) (mvT hZ (hw _ (List.mem_of_getElem? (i := 18) rfl))) (notFace_of_selects (args := #[]) (mvT hZ (hw _ (List.mem_of_getElem? (i := 20) rfl)))) (mvT hZ (hw _ (List.mem_of_getElem? (i := 20) rfl))) (mvT hZ (hw _ (List.mem_of_getElem? (i := 19) rfl))) (by decide) (backOf (W := 0) (rmtoA l Z a0 hw [] b101 mr nc b_103 kb_103 (fun _ => (0 : UInt64)) T103.heap n0 z105 f192 x103_1 x103_2 x103_3 x103_4 (hm) (hn)) hZ (hw _ (List.mem_of_getElem? (i := 21) rfl)) (hw _ (List.mem_of_getElem? (i := 2) rfl)) (by decide) (by decide)) q193a q193c (g := (mkF m 153 #[.val (.int p1), .val (.int p2), .val (.int p3), .val (.int p4), .val (.int p5), .val (.int p6), .val (.int (Int32.ofNat mr)), .val (.int (Int32.ofNat nc)), .val (.ref b101), .val (.int (0 : Int32)), .val (.int (0 : Int32)), .val (.int (0 : Int32)), .val (.int (0 : Int32)), .val (.int (0 : Int32)), .val (.int (0 : Int32)), .val (.int (0 : Int32)), .val (.double (FP.i2d p5)), .second, .val (.double (FP.i2d p6)), .second, .unset, .unset, .unset, .unset, .unset] [(.ref b101)])) rfl (by rw [hml]; rfl) (Steps.refl _) (argsL := []) (rest := []) (lenOf pd__28_29_5b_5bD rfl) rfl (by show 2 * 0 + _ ≤ _; exact Nat.le_of_eq rfl) (hb hby at_153) (fun _ _ => ⟨rfl, rfl, (by decide : 2 + 4 ≤ _), (by decide : 12 + 12 ≤ _)⟩)
    dsimp only [Pt.U, Pt.locs, Pt.cells, Pt.slots] at X193 l193 y193 z193 st193 hQ193
    subst l193 y193 z193
    obtain ⟨b_193, kA_193, kr_193, rfl, N193q, K193, x193_0, x193_1, x193_2⟩ := hQ193
    have N193 := Fr.app N103 N193q
    have ne194 : b101 ≠ b_193 := Nat.ne_of_lt (Nat.lt_of_lt_of_le f192.lt x193_0)
    have ne195 : b_103 ≠ b_193 := Nat.ne_of_lt (Nat.lt_of_lt_of_le x103_4.lt x193_0)
    have g_b_193 : n0 ≤ b_193 := Nat.le_trans z105 x193_0
    have z196 : n0 ≤ T193.heap.size := Nat.le_trans z105 K193.1
    obtain ⟨cl197, Ar197, Q197, S197, M197, H197, G197⟩ := id x193_1
    obtain ⟨_, _, ⟨T198, L198, kk198, nn198⟩, -, X198, ⟨Lc198, hQ198, l198, y198, z198⟩, st198⟩ := Jvm.LawKit.callS X193 hx (y := (⟨"com/example/orthoform/kernel/DenseMatrixToArrayPinLaw", "rowOk", "([[DII)Z"⟩ : MethodName)) hown (mvT hZ (hw _ (List.mem_of_getElem? (i := 24) rfl))) (mvT hZ (hw _ (List.mem_of_getElem? (i := 25) rfl))) (mvT hZ (hw _ (List.mem_of_getElem? (i := 26) rfl))) (mvT hZ (hw _ (List.mem_of_getElem? (i := 27) rfl))) (by decide) (backOf (W := 0) (rmrok0 l Z a0 hw [] b_193 mr nc kA_193 kr_193 (fun _ => (0 : UInt64)) T193.heap n0 z196 x193_1 (hm) (hn) (x193_2)) hZ (hw _ (List.mem_of_getElem? (i := 27) rfl)) (hw _ (List.mem_of_getElem? (i := 26) rfl)) (by decide) (by decide)) (g := (mkF m 178 #[.val (.int p1), .val (.int p2), .val (.int p3), .val (.int p4), .val (.int p5), .val (.int p6), .val (.int (Int32.ofNat mr)), .val (.int (Int32.ofNat nc)), .val (.ref b101), .val (.int (0 : Int32)), .val (.int (0 : Int32)), .val (.int (0 : Int32)), .val (.int (0 : Int32)), .val (.int (0 : Int32)), .val (.int (0 : Int32)), .val (.int (0 : Int32)), .val (.double (FP.i2d p5)), .second, .val (.double (FP.i2d p6)), .second, .val (.ref b_193), .unset, .unset, .unset, .unset] [(.int (Int32.ofNat nc)), (.int (0 : Int32)), (.ref b_193)])) rfl (by rw [hml]; rfl) (argsL := [(.ref b_193), (.int (0 : Int32)), (.int (Int32.ofNat nc))]) (rest := []) (lenOf pd__28_5b_5bDII_29Z rfl) rfl (by show 2 * 0 + _ ≤ _; exact Nat.le_of_eq rfl) (hb hby at_178) (fun _ _ => ⟨rfl, rfl, (by decide : 6 + 0 ≤ _), (by decide : 24 + 0 ≤ _)⟩)
    dsimp only [Pt.U, Pt.locs, Pt.cells, Pt.slots] at X198 l198 y198 z198 st198 hQ198
    subst l198 y198 z198
    obtain ⟨rfl, N198q, e198⟩ := hQ198
    have N198 := Fr.app N193 N198q
    obtain ⟨_, _, ⟨T199, L199, kk199, nn199⟩, -, X199, ⟨Lc199, hQ199, l199, y199, z199⟩, st199⟩ := Jvm.LawKit.callS X198 hx (y := (⟨"com/example/orthoform/kernel/DenseMatrixToArrayPinLaw", "rowOk", "([[DII)Z"⟩ : MethodName)) hown (mvT hZ (hw _ (List.mem_of_getElem? (i := 24) rfl))) (mvT hZ (hw _ (List.mem_of_getElem? (i := 25) rfl))) (mvT hZ (hw _ (List.mem_of_getElem? (i := 26) rfl))) (mvT hZ (hw _ (List.mem_of_getElem? (i := 27) rfl))) (by decide) (backOf (W := 0) (rmrok1 l Z a0 hw [] b_193 mr nc kA_193 kr_193 (fun _ => (0 : UInt64)) T193.heap n0 z196 x193_1 (hm) (hn) (x193_2)) hZ (hw _ (List.mem_of_getElem? (i := 27) rfl)) (hw _ (List.mem_of_getElem? (i := 26) rfl)) (by decide) (by decide)) (g := (mkF m 189 #[.val (.int p1), .val (.int p2), .val (.int p3), .val (.int p4), .val (.int p5), .val (.int p6), .val (.int (Int32.ofNat mr)), .val (.int (Int32.ofNat nc)), .val (.ref b101), .val (.int (0 : Int32)), .val (.int (0 : Int32)), .val (.int (0 : Int32)), .val (.int (0 : Int32)), .val (.int (0 : Int32)), .val (.int (0 : Int32)), .val (.int (0 : Int32)), .val (.double (FP.i2d p5)), .second, .val (.double (FP.i2d p6)), .second, .val (.ref b_193), .unset, .unset, .unset, .unset] [(.int (Int32.ofNat nc)), (.int (1 : Int32)), (.ref b_193)])) rfl (by rw [hml]; rfl) (argsL := [(.ref b_193), (.int (1 : Int32)), (.int (Int32.ofNat nc))]) (rest := []) (lenOf pd__28_5b_5bDII_29Z rfl) rfl (by show 2 * 0 + _ ≤ _; exact Nat.le_of_eq rfl) (hb hby at_189) (fun _ _ => ⟨rfl, e198, (by decide : 6 + 0 ≤ _), (by decide : 24 + 0 ≤ _)⟩)
    dsimp only [Pt.U, Pt.locs, Pt.cells, Pt.slots] at X199 l199 y199 z199 st199 hQ199
    subst l199 y199 z199
    obtain ⟨rfl, N199q, e199⟩ := hQ199
    have N199 := Fr.app N198 N199q
    obtain ⟨_, _, ⟨T200, L200, kk200, nn200⟩, -, X200, ⟨Lc200, hQ200, l200, y200, z200⟩, st200⟩ := Jvm.LawKit.callS X199 hx (y := (⟨"com/example/orthoform/kernel/DenseMatrixToArrayPinLaw", "rowOk", "([[DII)Z"⟩ : MethodName)) hown (mvT hZ (hw _ (List.mem_of_getElem? (i := 24) rfl))) (mvT hZ (hw _ (List.mem_of_getElem? (i := 25) rfl))) (mvT hZ (hw _ (List.mem_of_getElem? (i := 26) rfl))) (mvT hZ (hw _ (List.mem_of_getElem? (i := 27) rfl))) (by decide) (backOf (W := 0) (rmrok2 l Z a0 hw [] b_193 mr nc kA_193 kr_193 (fun _ => (0 : UInt64)) T193.heap n0 z196 x193_1 (hm) (hn) (x193_2)) hZ (hw _ (List.mem_of_getElem? (i := 27) rfl)) (hw _ (List.mem_of_getElem? (i := 26) rfl)) (by decide) (by decide)) (g := (mkF m 200 #[.val (.int p1), .val (.int p2), .val (.int p3), .val (.int p4), .val (.int p5), .val (.int p6), .val (.int (Int32.ofNat mr)), .val (.int (Int32.ofNat nc)), .val (.ref b101), .val (.int (0 : Int32)), .val (.int (0 : Int32)), .val (.int (0 : Int32)), .val (.int (0 : Int32)), .val (.int (0 : Int32)), .val (.int (0 : Int32)), .val (.int (0 : Int32)), .val (.double (FP.i2d p5)), .second, .val (.double (FP.i2d p6)), .second, .val (.ref b_193), .unset, .unset, .unset, .unset] [(.int (Int32.ofNat nc)), (.int (2 : Int32)), (.ref b_193)])) rfl (by rw [hml]; rfl) (argsL := [(.ref b_193), (.int (2 : Int32)), (.int (Int32.ofNat nc))]) (rest := []) (lenOf pd__28_5b_5bDII_29Z rfl) rfl (by show 2 * 0 + _ ≤ _; exact Nat.le_of_eq rfl) (hb hby at_200) (fun _ _ => ⟨rfl, e199, (by decide : 6 + 0 ≤ _), (by decide : 24 + 0 ≤ _)⟩)
    dsimp only [Pt.U, Pt.locs, Pt.cells, Pt.slots] at X200 l200 y200 z200 st200 hQ200
    subst l200 y200 z200
    obtain ⟨rfl, N200q, e200⟩ := hQ200
    have N200 := Fr.app N199 N200q
    have pre201 : ∀ t_, Steps p.tables e below (T200.setTop (mkF m 214 #[.val (.int p1), .val (.int p2), .val (.int p3), .val (.int p4), .val (.int p5), .val (.int p6), .val (.int (Int32.ofNat mr)), .val (.int (Int32.ofNat nc)), .val (.ref b101), .val (.int (0 : Int32)), .val (.int (0 : Int32)), .val (.int (0 : Int32)), .val (.int (0 : Int32)), .val (.int (0 : Int32)), .val (.int (0 : Int32)), .val (.int (0 : Int32)), .val (.double (FP.i2d p5)), .second, .val (.double (FP.i2d p6)), .second, .val (.ref b_193), .unset, .unset, .unset, .unset] [(.int (1 : Int32))])) t_ → Steps p.tables e below (s₁.setTop (entryFrame m #[(.int p1), (.int p2), (.int p3), (.int p4), (.int p5), (.int p6)] maxLocals)) t_ := fun t_ kt => pre106 t_ (by
        show Steps p.tables e below (T103.setTop (mkF m 27 #[.val (.int p1), .val (.int p2), .val (.int p3), .val (.int p4), .val (.int p5), .val (.int p6), .val (.int (Int32.ofNat mr)), .val (.int (Int32.ofNat nc)), .val (.ref b101), .unset, .unset, .unset, .unset, .unset, .unset, .unset, .unset, .unset, .unset, .unset, .unset, .unset, .unset, .unset, .unset] [(.int (Int32.ofNat mr))])) _
        refine XS.ifYes X103.here hx rfl (pc0 := 27) (pc' := 39) rfl (hb hby at_27) rfl ((if0 _ _).trans (flt (hA : ¬ ((0 : Int32) < (Int32.ofNat mr)))).2.2.2) (by decide) (by decide) ?_
        show Steps p.tables e below (T103.setTop (mkF m 39 #[.val (.int p1), .val (.int p2), .val (.int p3), .val (.int p4), .val (.int p5), .val (.int p6), .val (.int (Int32.ofNat mr)), .val (.int (Int32.ofNat nc)), .val (.ref b101), .unset, .unset, .unset, .unset, .unset, .unset, .unset, .unset, .unset, .unset, .unset, .unset, .unset, .unset, .unset, .unset] [])) _
        refine XS.iconst X103.here hx rfl (hb hby at_39) ?_
        show Steps p.tables e below (T103.setTop (mkF m 40 #[.val (.int p1), .val (.int p2), .val (.int p3), .val (.int p4), .val (.int p5), .val (.int p6), .val (.int (Int32.ofNat mr)), .val (.int (Int32.ofNat nc)), .val (.ref b101), .unset, .unset, .unset, .unset, .unset, .unset, .unset, .unset, .unset, .unset, .unset, .unset, .unset, .unset, .unset, .unset] [(.int (0 : Int32))])) _
        refine XS.istore X103.here hx rfl (hb hby at_40) rfl (l' := #[.val (.int p1), .val (.int p2), .val (.int p3), .val (.int p4), .val (.int p5), .val (.int p6), .val (.int (Int32.ofNat mr)), .val (.int (Int32.ofNat nc)), .val (.ref b101), .val (.int (0 : Int32)), .unset, .unset, .unset, .unset, .unset, .unset, .unset, .unset, .unset, .unset, .unset, .unset, .unset, .unset, .unset]) rfl ?_
        show Steps p.tables e below (T103.setTop (mkF m 42 #[.val (.int p1), .val (.int p2), .val (.int p3), .val (.int p4), .val (.int p5), .val (.int p6), .val (.int (Int32.ofNat mr)), .val (.int (Int32.ofNat nc)), .val (.ref b101), .val (.int (0 : Int32)), .unset, .unset, .unset, .unset, .unset, .unset, .unset, .unset, .unset, .unset, .unset, .unset, .unset, .unset, .unset] [])) _
        refine XS.iconst X103.here hx rfl (hb hby at_42) ?_
        show Steps p.tables e below (T103.setTop (mkF m 43 #[.val (.int p1), .val (.int p2), .val (.int p3), .val (.int p4), .val (.int p5), .val (.int p6), .val (.int (Int32.ofNat mr)), .val (.int (Int32.ofNat nc)), .val (.ref b101), .val (.int (0 : Int32)), .unset, .unset, .unset, .unset, .unset, .unset, .unset, .unset, .unset, .unset, .unset, .unset, .unset, .unset, .unset] [(.int (0 : Int32))])) _
        refine XS.istore X103.here hx rfl (hb hby at_43) rfl (l' := #[.val (.int p1), .val (.int p2), .val (.int p3), .val (.int p4), .val (.int p5), .val (.int p6), .val (.int (Int32.ofNat mr)), .val (.int (Int32.ofNat nc)), .val (.ref b101), .val (.int (0 : Int32)), .val (.int (0 : Int32)), .unset, .unset, .unset, .unset, .unset, .unset, .unset, .unset, .unset, .unset, .unset, .unset, .unset, .unset]) rfl ?_
        show Steps p.tables e below (T103.setTop (mkF m 45 #[.val (.int p1), .val (.int p2), .val (.int p3), .val (.int p4), .val (.int p5), .val (.int p6), .val (.int (Int32.ofNat mr)), .val (.int (Int32.ofNat nc)), .val (.ref b101), .val (.int (0 : Int32)), .val (.int (0 : Int32)), .unset, .unset, .unset, .unset, .unset, .unset, .unset, .unset, .unset, .unset, .unset, .unset, .unset, .unset] [])) _
        refine XS.iconst X103.here hx rfl (hb hby at_45) ?_
        show Steps p.tables e below (T103.setTop (mkF m 46 #[.val (.int p1), .val (.int p2), .val (.int p3), .val (.int p4), .val (.int p5), .val (.int p6), .val (.int (Int32.ofNat mr)), .val (.int (Int32.ofNat nc)), .val (.ref b101), .val (.int (0 : Int32)), .val (.int (0 : Int32)), .unset, .unset, .unset, .unset, .unset, .unset, .unset, .unset, .unset, .unset, .unset, .unset, .unset, .unset] [(.int (0 : Int32))])) _
        refine XS.istore X103.here hx rfl (hb hby at_46) rfl (l' := #[.val (.int p1), .val (.int p2), .val (.int p3), .val (.int p4), .val (.int p5), .val (.int p6), .val (.int (Int32.ofNat mr)), .val (.int (Int32.ofNat nc)), .val (.ref b101), .val (.int (0 : Int32)), .val (.int (0 : Int32)), .val (.int (0 : Int32)), .unset, .unset, .unset, .unset, .unset, .unset, .unset, .unset, .unset, .unset, .unset, .unset, .unset]) rfl ?_
        show Steps p.tables e below (T103.setTop (mkF m 48 #[.val (.int p1), .val (.int p2), .val (.int p3), .val (.int p4), .val (.int p5), .val (.int p6), .val (.int (Int32.ofNat mr)), .val (.int (Int32.ofNat nc)), .val (.ref b101), .val (.int (0 : Int32)), .val (.int (0 : Int32)), .val (.int (0 : Int32)), .unset, .unset, .unset, .unset, .unset, .unset, .unset, .unset, .unset, .unset, .unset, .unset, .unset] [])) _
        refine XS.iconst X103.here hx rfl (hb hby at_48) ?_
        show Steps p.tables e below (T103.setTop (mkF m 49 #[.val (.int p1), .val (.int p2), .val (.int p3), .val (.int p4), .val (.int p5), .val (.int p6), .val (.int (Int32.ofNat mr)), .val (.int (Int32.ofNat nc)), .val (.ref b101), .val (.int (0 : Int32)), .val (.int (0 : Int32)), .val (.int (0 : Int32)), .unset, .unset, .unset, .unset, .unset, .unset, .unset, .unset, .unset, .unset, .unset, .unset, .unset] [(.int (0 : Int32))])) _
        refine XS.istore X103.here hx rfl (hb hby at_49) rfl (l' := #[.val (.int p1), .val (.int p2), .val (.int p3), .val (.int p4), .val (.int p5), .val (.int p6), .val (.int (Int32.ofNat mr)), .val (.int (Int32.ofNat nc)), .val (.ref b101), .val (.int (0 : Int32)), .val (.int (0 : Int32)), .val (.int (0 : Int32)), .val (.int (0 : Int32)), .unset, .unset, .unset, .unset, .unset, .unset, .unset, .unset, .unset, .unset, .unset, .unset]) rfl ?_
        show Steps p.tables e below (T103.setTop (mkF m 51 #[.val (.int p1), .val (.int p2), .val (.int p3), .val (.int p4), .val (.int p5), .val (.int p6), .val (.int (Int32.ofNat mr)), .val (.int (Int32.ofNat nc)), .val (.ref b101), .val (.int (0 : Int32)), .val (.int (0 : Int32)), .val (.int (0 : Int32)), .val (.int (0 : Int32)), .unset, .unset, .unset, .unset, .unset, .unset, .unset, .unset, .unset, .unset, .unset, .unset] [])) _
        refine XS.iconst X103.here hx rfl (hb hby at_51) ?_
        show Steps p.tables e below (T103.setTop (mkF m 52 #[.val (.int p1), .val (.int p2), .val (.int p3), .val (.int p4), .val (.int p5), .val (.int p6), .val (.int (Int32.ofNat mr)), .val (.int (Int32.ofNat nc)), .val (.ref b101), .val (.int (0 : Int32)), .val (.int (0 : Int32)), .val (.int (0 : Int32)), .val (.int (0 : Int32)), .unset, .unset, .unset, .unset, .unset, .unset, .unset, .unset, .unset, .unset, .unset, .unset] [(.int (0 : Int32))])) _
        refine XS.istore X103.here hx rfl (hb hby at_52) rfl (l' := #[.val (.int p1), .val (.int p2), .val (.int p3), .val (.int p4), .val (.int p5), .val (.int p6), .val (.int (Int32.ofNat mr)), .val (.int (Int32.ofNat nc)), .val (.ref b101), .val (.int (0 : Int32)), .val (.int (0 : Int32)), .val (.int (0 : Int32)), .val (.int (0 : Int32)), .val (.int (0 : Int32)), .unset, .unset, .unset, .unset, .unset, .unset, .unset, .unset, .unset, .unset, .unset]) rfl ?_
        show Steps p.tables e below (T103.setTop (mkF m 54 #[.val (.int p1), .val (.int p2), .val (.int p3), .val (.int p4), .val (.int p5), .val (.int p6), .val (.int (Int32.ofNat mr)), .val (.int (Int32.ofNat nc)), .val (.ref b101), .val (.int (0 : Int32)), .val (.int (0 : Int32)), .val (.int (0 : Int32)), .val (.int (0 : Int32)), .val (.int (0 : Int32)), .unset, .unset, .unset, .unset, .unset, .unset, .unset, .unset, .unset, .unset, .unset] [])) _
        refine XS.iconst X103.here hx rfl (hb hby at_54) ?_
        show Steps p.tables e below (T103.setTop (mkF m 55 #[.val (.int p1), .val (.int p2), .val (.int p3), .val (.int p4), .val (.int p5), .val (.int p6), .val (.int (Int32.ofNat mr)), .val (.int (Int32.ofNat nc)), .val (.ref b101), .val (.int (0 : Int32)), .val (.int (0 : Int32)), .val (.int (0 : Int32)), .val (.int (0 : Int32)), .val (.int (0 : Int32)), .unset, .unset, .unset, .unset, .unset, .unset, .unset, .unset, .unset, .unset, .unset] [(.int (0 : Int32))])) _
        refine XS.istore X103.here hx rfl (hb hby at_55) rfl (l' := #[.val (.int p1), .val (.int p2), .val (.int p3), .val (.int p4), .val (.int p5), .val (.int p6), .val (.int (Int32.ofNat mr)), .val (.int (Int32.ofNat nc)), .val (.ref b101), .val (.int (0 : Int32)), .val (.int (0 : Int32)), .val (.int (0 : Int32)), .val (.int (0 : Int32)), .val (.int (0 : Int32)), .val (.int (0 : Int32)), .unset, .unset, .unset, .unset, .unset, .unset, .unset, .unset, .unset, .unset]) rfl ?_
        show Steps p.tables e below (T103.setTop (mkF m 57 #[.val (.int p1), .val (.int p2), .val (.int p3), .val (.int p4), .val (.int p5), .val (.int p6), .val (.int (Int32.ofNat mr)), .val (.int (Int32.ofNat nc)), .val (.ref b101), .val (.int (0 : Int32)), .val (.int (0 : Int32)), .val (.int (0 : Int32)), .val (.int (0 : Int32)), .val (.int (0 : Int32)), .val (.int (0 : Int32)), .unset, .unset, .unset, .unset, .unset, .unset, .unset, .unset, .unset, .unset] [])) _
        refine XS.iconst X103.here hx rfl (hb hby at_57) ?_
        show Steps p.tables e below (T103.setTop (mkF m 58 #[.val (.int p1), .val (.int p2), .val (.int p3), .val (.int p4), .val (.int p5), .val (.int p6), .val (.int (Int32.ofNat mr)), .val (.int (Int32.ofNat nc)), .val (.ref b101), .val (.int (0 : Int32)), .val (.int (0 : Int32)), .val (.int (0 : Int32)), .val (.int (0 : Int32)), .val (.int (0 : Int32)), .val (.int (0 : Int32)), .unset, .unset, .unset, .unset, .unset, .unset, .unset, .unset, .unset, .unset] [(.int (0 : Int32))])) _
        refine XS.istore X103.here hx rfl (hb hby at_58) rfl (l' := #[.val (.int p1), .val (.int p2), .val (.int p3), .val (.int p4), .val (.int p5), .val (.int p6), .val (.int (Int32.ofNat mr)), .val (.int (Int32.ofNat nc)), .val (.ref b101), .val (.int (0 : Int32)), .val (.int (0 : Int32)), .val (.int (0 : Int32)), .val (.int (0 : Int32)), .val (.int (0 : Int32)), .val (.int (0 : Int32)), .val (.int (0 : Int32)), .unset, .unset, .unset, .unset, .unset, .unset, .unset, .unset, .unset]) rfl ?_
        show Steps p.tables e below (T103.setTop (mkF m 60 #[.val (.int p1), .val (.int p2), .val (.int p3), .val (.int p4), .val (.int p5), .val (.int p6), .val (.int (Int32.ofNat mr)), .val (.int (Int32.ofNat nc)), .val (.ref b101), .val (.int (0 : Int32)), .val (.int (0 : Int32)), .val (.int (0 : Int32)), .val (.int (0 : Int32)), .val (.int (0 : Int32)), .val (.int (0 : Int32)), .val (.int (0 : Int32)), .unset, .unset, .unset, .unset, .unset, .unset, .unset, .unset, .unset] [])) _
        refine XS.iload X103.here hx rfl (hb hby at_60) rfl ?_
        show Steps p.tables e below (T103.setTop (mkF m 62 #[.val (.int p1), .val (.int p2), .val (.int p3), .val (.int p4), .val (.int p5), .val (.int p6), .val (.int (Int32.ofNat mr)), .val (.int (Int32.ofNat nc)), .val (.ref b101), .val (.int (0 : Int32)), .val (.int (0 : Int32)), .val (.int (0 : Int32)), .val (.int (0 : Int32)), .val (.int (0 : Int32)), .val (.int (0 : Int32)), .val (.int (0 : Int32)), .unset, .unset, .unset, .unset, .unset, .unset, .unset, .unset, .unset] [(.int p5)])) _
        refine XS.i2dS X103.here hx rfl (hb hby at_62) rfl (v := (FP.i2d p5)) rfl ?_
        show Steps p.tables e below (T103.setTop (mkF m 63 #[.val (.int p1), .val (.int p2), .val (.int p3), .val (.int p4), .val (.int p5), .val (.int p6), .val (.int (Int32.ofNat mr)), .val (.int (Int32.ofNat nc)), .val (.ref b101), .val (.int (0 : Int32)), .val (.int (0 : Int32)), .val (.int (0 : Int32)), .val (.int (0 : Int32)), .val (.int (0 : Int32)), .val (.int (0 : Int32)), .val (.int (0 : Int32)), .unset, .unset, .unset, .unset, .unset, .unset, .unset, .unset, .unset] [(.double (FP.i2d p5))])) _
        refine XS.dstore X103.here hx rfl (hb hby at_63) rfl (l' := #[.val (.int p1), .val (.int p2), .val (.int p3), .val (.int p4), .val (.int p5), .val (.int p6), .val (.int (Int32.ofNat mr)), .val (.int (Int32.ofNat nc)), .val (.ref b101), .val (.int (0 : Int32)), .val (.int (0 : Int32)), .val (.int (0 : Int32)), .val (.int (0 : Int32)), .val (.int (0 : Int32)), .val (.int (0 : Int32)), .val (.int (0 : Int32)), .val (.double (FP.i2d p5)), .second, .unset, .unset, .unset, .unset, .unset, .unset, .unset]) rfl ?_
        show Steps p.tables e below (T103.setTop (mkF m 65 #[.val (.int p1), .val (.int p2), .val (.int p3), .val (.int p4), .val (.int p5), .val (.int p6), .val (.int (Int32.ofNat mr)), .val (.int (Int32.ofNat nc)), .val (.ref b101), .val (.int (0 : Int32)), .val (.int (0 : Int32)), .val (.int (0 : Int32)), .val (.int (0 : Int32)), .val (.int (0 : Int32)), .val (.int (0 : Int32)), .val (.int (0 : Int32)), .val (.double (FP.i2d p5)), .second, .unset, .unset, .unset, .unset, .unset, .unset, .unset] [])) _
        refine XS.iload X103.here hx rfl (hb hby at_65) rfl ?_
        show Steps p.tables e below (T103.setTop (mkF m 67 #[.val (.int p1), .val (.int p2), .val (.int p3), .val (.int p4), .val (.int p5), .val (.int p6), .val (.int (Int32.ofNat mr)), .val (.int (Int32.ofNat nc)), .val (.ref b101), .val (.int (0 : Int32)), .val (.int (0 : Int32)), .val (.int (0 : Int32)), .val (.int (0 : Int32)), .val (.int (0 : Int32)), .val (.int (0 : Int32)), .val (.int (0 : Int32)), .val (.double (FP.i2d p5)), .second, .unset, .unset, .unset, .unset, .unset, .unset, .unset] [(.int p6)])) _
        refine XS.i2dS X103.here hx rfl (hb hby at_67) rfl (v := (FP.i2d p6)) rfl ?_
        show Steps p.tables e below (T103.setTop (mkF m 68 #[.val (.int p1), .val (.int p2), .val (.int p3), .val (.int p4), .val (.int p5), .val (.int p6), .val (.int (Int32.ofNat mr)), .val (.int (Int32.ofNat nc)), .val (.ref b101), .val (.int (0 : Int32)), .val (.int (0 : Int32)), .val (.int (0 : Int32)), .val (.int (0 : Int32)), .val (.int (0 : Int32)), .val (.int (0 : Int32)), .val (.int (0 : Int32)), .val (.double (FP.i2d p5)), .second, .unset, .unset, .unset, .unset, .unset, .unset, .unset] [(.double (FP.i2d p6))])) _
        refine XS.dstore X103.here hx rfl (hb hby at_68) rfl (l' := #[.val (.int p1), .val (.int p2), .val (.int p3), .val (.int p4), .val (.int p5), .val (.int p6), .val (.int (Int32.ofNat mr)), .val (.int (Int32.ofNat nc)), .val (.ref b101), .val (.int (0 : Int32)), .val (.int (0 : Int32)), .val (.int (0 : Int32)), .val (.int (0 : Int32)), .val (.int (0 : Int32)), .val (.int (0 : Int32)), .val (.int (0 : Int32)), .val (.double (FP.i2d p5)), .second, .val (.double (FP.i2d p6)), .second, .unset, .unset, .unset, .unset, .unset]) rfl ?_
        show Steps p.tables e below (T103.setTop (mkF m 70 #[.val (.int p1), .val (.int p2), .val (.int p3), .val (.int p4), .val (.int p5), .val (.int p6), .val (.int (Int32.ofNat mr)), .val (.int (Int32.ofNat nc)), .val (.ref b101), .val (.int (0 : Int32)), .val (.int (0 : Int32)), .val (.int (0 : Int32)), .val (.int (0 : Int32)), .val (.int (0 : Int32)), .val (.int (0 : Int32)), .val (.int (0 : Int32)), .val (.double (FP.i2d p5)), .second, .val (.double (FP.i2d p6)), .second, .unset, .unset, .unset, .unset, .unset] [])) _
        refine XS.iload X103.here hx rfl (hb hby at_70) rfl ?_
        show Steps p.tables e below (T103.setTop (mkF m 72 #[.val (.int p1), .val (.int p2), .val (.int p3), .val (.int p4), .val (.int p5), .val (.int p6), .val (.int (Int32.ofNat mr)), .val (.int (Int32.ofNat nc)), .val (.ref b101), .val (.int (0 : Int32)), .val (.int (0 : Int32)), .val (.int (0 : Int32)), .val (.int (0 : Int32)), .val (.int (0 : Int32)), .val (.int (0 : Int32)), .val (.int (0 : Int32)), .val (.double (FP.i2d p5)), .second, .val (.double (FP.i2d p6)), .second, .unset, .unset, .unset, .unset, .unset] [(.int (0 : Int32))])) _
        refine XS.ifYes X103.here hx rfl (pc0 := 72) (pc' := 151) rfl (hb hby at_72) rfl ((if0 _ _).trans (teq ((by decide) : (0 : Int32) = (0 : Int32))).1) (by decide) (by decide) ?_
        show Steps p.tables e below (T103.setTop (mkF m 151 #[.val (.int p1), .val (.int p2), .val (.int p3), .val (.int p4), .val (.int p5), .val (.int p6), .val (.int (Int32.ofNat mr)), .val (.int (Int32.ofNat nc)), .val (.ref b101), .val (.int (0 : Int32)), .val (.int (0 : Int32)), .val (.int (0 : Int32)), .val (.int (0 : Int32)), .val (.int (0 : Int32)), .val (.int (0 : Int32)), .val (.int (0 : Int32)), .val (.double (FP.i2d p5)), .second, .val (.double (FP.i2d p6)), .second, .unset, .unset, .unset, .unset, .unset] [])) _
        refine XS.aload X103.here hx rfl (hb hby at_151) rfl rfl ?_
        show Steps p.tables e below (T103.setTop (mkF m 153 #[.val (.int p1), .val (.int p2), .val (.int p3), .val (.int p4), .val (.int p5), .val (.int p6), .val (.int (Int32.ofNat mr)), .val (.int (Int32.ofNat nc)), .val (.ref b101), .val (.int (0 : Int32)), .val (.int (0 : Int32)), .val (.int (0 : Int32)), .val (.int (0 : Int32)), .val (.int (0 : Int32)), .val (.int (0 : Int32)), .val (.int (0 : Int32)), .val (.double (FP.i2d p5)), .second, .val (.double (FP.i2d p6)), .second, .unset, .unset, .unset, .unset, .unset] [(.ref b101)])) _
        refine st193.trans ?_
        show Steps p.tables e below (T193.setTop (mkF m 156 #[.val (.int p1), .val (.int p2), .val (.int p3), .val (.int p4), .val (.int p5), .val (.int p6), .val (.int (Int32.ofNat mr)), .val (.int (Int32.ofNat nc)), .val (.ref b101), .val (.int (0 : Int32)), .val (.int (0 : Int32)), .val (.int (0 : Int32)), .val (.int (0 : Int32)), .val (.int (0 : Int32)), .val (.int (0 : Int32)), .val (.int (0 : Int32)), .val (.double (FP.i2d p5)), .second, .val (.double (FP.i2d p6)), .second, .unset, .unset, .unset, .unset, .unset] [(.ref b_193)])) _
        refine XS.astore X193.here hx rfl (hb hby at_156) rfl rfl (l' := #[.val (.int p1), .val (.int p2), .val (.int p3), .val (.int p4), .val (.int p5), .val (.int p6), .val (.int (Int32.ofNat mr)), .val (.int (Int32.ofNat nc)), .val (.ref b101), .val (.int (0 : Int32)), .val (.int (0 : Int32)), .val (.int (0 : Int32)), .val (.int (0 : Int32)), .val (.int (0 : Int32)), .val (.int (0 : Int32)), .val (.int (0 : Int32)), .val (.double (FP.i2d p5)), .second, .val (.double (FP.i2d p6)), .second, .val (.ref b_193), .unset, .unset, .unset, .unset]) rfl ?_
        show Steps p.tables e below (T193.setTop (mkF m 158 #[.val (.int p1), .val (.int p2), .val (.int p3), .val (.int p4), .val (.int p5), .val (.int p6), .val (.int (Int32.ofNat mr)), .val (.int (Int32.ofNat nc)), .val (.ref b101), .val (.int (0 : Int32)), .val (.int (0 : Int32)), .val (.int (0 : Int32)), .val (.int (0 : Int32)), .val (.int (0 : Int32)), .val (.int (0 : Int32)), .val (.int (0 : Int32)), .val (.double (FP.i2d p5)), .second, .val (.double (FP.i2d p6)), .second, .val (.ref b_193), .unset, .unset, .unset, .unset] [])) _
        refine XS.aload X193.here hx rfl (hb hby at_158) rfl rfl ?_
        show Steps p.tables e below (T193.setTop (mkF m 160 #[.val (.int p1), .val (.int p2), .val (.int p3), .val (.int p4), .val (.int p5), .val (.int p6), .val (.int (Int32.ofNat mr)), .val (.int (Int32.ofNat nc)), .val (.ref b101), .val (.int (0 : Int32)), .val (.int (0 : Int32)), .val (.int (0 : Int32)), .val (.int (0 : Int32)), .val (.int (0 : Int32)), .val (.int (0 : Int32)), .val (.int (0 : Int32)), .val (.double (FP.i2d p5)), .second, .val (.double (FP.i2d p6)), .second, .val (.ref b_193), .unset, .unset, .unset, .unset] [(.ref b_193)])) _
        refine XS.ifnullNo X193.here hx rfl (hb hby at_160) rfl ?_
        show Steps p.tables e below (T193.setTop (mkF m 163 #[.val (.int p1), .val (.int p2), .val (.int p3), .val (.int p4), .val (.int p5), .val (.int p6), .val (.int (Int32.ofNat mr)), .val (.int (Int32.ofNat nc)), .val (.ref b101), .val (.int (0 : Int32)), .val (.int (0 : Int32)), .val (.int (0 : Int32)), .val (.int (0 : Int32)), .val (.int (0 : Int32)), .val (.int (0 : Int32)), .val (.int (0 : Int32)), .val (.double (FP.i2d p5)), .second, .val (.double (FP.i2d p6)), .second, .val (.ref b_193), .unset, .unset, .unset, .unset] [])) _
        refine XS.aload X193.here hx rfl (hb hby at_163) rfl rfl ?_
        show Steps p.tables e below (T193.setTop (mkF m 165 #[.val (.int p1), .val (.int p2), .val (.int p3), .val (.int p4), .val (.int p5), .val (.int p6), .val (.int (Int32.ofNat mr)), .val (.int (Int32.ofNat nc)), .val (.ref b101), .val (.int (0 : Int32)), .val (.int (0 : Int32)), .val (.int (0 : Int32)), .val (.int (0 : Int32)), .val (.int (0 : Int32)), .val (.int (0 : Int32)), .val (.int (0 : Int32)), .val (.double (FP.i2d p5)), .second, .val (.double (FP.i2d p6)), .second, .val (.ref b_193), .unset, .unset, .unset, .unset] [(.ref b_193)])) _
        refine X193.arraylength hx (cell := cl197) Ar197.1 (State.isArrayOf_alike hZ.alike Ar197.2.1) (g := (mkF m 165 #[.val (.int p1), .val (.int p2), .val (.int p3), .val (.int p4), .val (.int p5), .val (.int p6), .val (.int (Int32.ofNat mr)), .val (.int (Int32.ofNat nc)), .val (.ref b101), .val (.int (0 : Int32)), .val (.int (0 : Int32)), .val (.int (0 : Int32)), .val (.int (0 : Int32)), .val (.int (0 : Int32)), .val (.int (0 : Int32)), .val (.int (0 : Int32)), .val (.double (FP.i2d p5)), .second, .val (.double (FP.i2d p6)), .second, .val (.ref b_193), .unset, .unset, .unset, .unset] [(.ref b_193)])) rfl rfl (hb hby at_165) _ ?_
        rw [len_of S197 M197]
        show Steps p.tables e below (T193.setTop (mkF m 166 #[.val (.int p1), .val (.int p2), .val (.int p3), .val (.int p4), .val (.int p5), .val (.int p6), .val (.int (Int32.ofNat mr)), .val (.int (Int32.ofNat nc)), .val (.ref b101), .val (.int (0 : Int32)), .val (.int (0 : Int32)), .val (.int (0 : Int32)), .val (.int (0 : Int32)), .val (.int (0 : Int32)), .val (.int (0 : Int32)), .val (.int (0 : Int32)), .val (.double (FP.i2d p5)), .second, .val (.double (FP.i2d p6)), .second, .val (.ref b_193), .unset, .unset, .unset, .unset] [(.int (Int32.ofNat mr))])) _
        refine XS.iload X193.here hx rfl (hb hby at_166) rfl ?_
        show Steps p.tables e below (T193.setTop (mkF m 168 #[.val (.int p1), .val (.int p2), .val (.int p3), .val (.int p4), .val (.int p5), .val (.int p6), .val (.int (Int32.ofNat mr)), .val (.int (Int32.ofNat nc)), .val (.ref b101), .val (.int (0 : Int32)), .val (.int (0 : Int32)), .val (.int (0 : Int32)), .val (.int (0 : Int32)), .val (.int (0 : Int32)), .val (.int (0 : Int32)), .val (.int (0 : Int32)), .val (.double (FP.i2d p5)), .second, .val (.double (FP.i2d p6)), .second, .val (.ref b_193), .unset, .unset, .unset, .unset] [(.int (Int32.ofNat mr)), (.int (Int32.ofNat mr))])) _
        refine XS.icmpYes X193.here hx rfl (pc0 := 168) (pc' := 173) rfl (hb hby at_168) rfl (teq (rfl : (Int32.ofNat mr) = (Int32.ofNat mr))).1 (by decide) (by decide) ?_
        show Steps p.tables e below (T193.setTop (mkF m 173 #[.val (.int p1), .val (.int p2), .val (.int p3), .val (.int p4), .val (.int p5), .val (.int p6), .val (.int (Int32.ofNat mr)), .val (.int (Int32.ofNat nc)), .val (.ref b101), .val (.int (0 : Int32)), .val (.int (0 : Int32)), .val (.int (0 : Int32)), .val (.int (0 : Int32)), .val (.int (0 : Int32)), .val (.int (0 : Int32)), .val (.int (0 : Int32)), .val (.double (FP.i2d p5)), .second, .val (.double (FP.i2d p6)), .second, .val (.ref b_193), .unset, .unset, .unset, .unset] [])) _
        refine XS.aload X193.here hx rfl (hb hby at_173) rfl rfl ?_
        show Steps p.tables e below (T193.setTop (mkF m 175 #[.val (.int p1), .val (.int p2), .val (.int p3), .val (.int p4), .val (.int p5), .val (.int p6), .val (.int (Int32.ofNat mr)), .val (.int (Int32.ofNat nc)), .val (.ref b101), .val (.int (0 : Int32)), .val (.int (0 : Int32)), .val (.int (0 : Int32)), .val (.int (0 : Int32)), .val (.int (0 : Int32)), .val (.int (0 : Int32)), .val (.int (0 : Int32)), .val (.double (FP.i2d p5)), .second, .val (.double (FP.i2d p6)), .second, .val (.ref b_193), .unset, .unset, .unset, .unset] [(.ref b_193)])) _
        refine XS.iconst X193.here hx rfl (hb hby at_175) ?_
        show Steps p.tables e below (T193.setTop (mkF m 176 #[.val (.int p1), .val (.int p2), .val (.int p3), .val (.int p4), .val (.int p5), .val (.int p6), .val (.int (Int32.ofNat mr)), .val (.int (Int32.ofNat nc)), .val (.ref b101), .val (.int (0 : Int32)), .val (.int (0 : Int32)), .val (.int (0 : Int32)), .val (.int (0 : Int32)), .val (.int (0 : Int32)), .val (.int (0 : Int32)), .val (.int (0 : Int32)), .val (.double (FP.i2d p5)), .second, .val (.double (FP.i2d p6)), .second, .val (.ref b_193), .unset, .unset, .unset, .unset] [(.int (0 : Int32)), (.ref b_193)])) _
        refine XS.iload X193.here hx rfl (hb hby at_176) rfl ?_
        show Steps p.tables e below (T193.setTop (mkF m 178 #[.val (.int p1), .val (.int p2), .val (.int p3), .val (.int p4), .val (.int p5), .val (.int p6), .val (.int (Int32.ofNat mr)), .val (.int (Int32.ofNat nc)), .val (.ref b101), .val (.int (0 : Int32)), .val (.int (0 : Int32)), .val (.int (0 : Int32)), .val (.int (0 : Int32)), .val (.int (0 : Int32)), .val (.int (0 : Int32)), .val (.int (0 : Int32)), .val (.double (FP.i2d p5)), .second, .val (.double (FP.i2d p6)), .second, .val (.ref b_193), .unset, .unset, .unset, .unset] [(.int (Int32.ofNat nc)), (.int (0 : Int32)), (.ref b_193)])) _
        refine st198 _ ?_
        show Steps p.tables e below (T198.setTop (mkF m 181 #[.val (.int p1), .val (.int p2), .val (.int p3), .val (.int p4), .val (.int p5), .val (.int p6), .val (.int (Int32.ofNat mr)), .val (.int (Int32.ofNat nc)), .val (.ref b101), .val (.int (0 : Int32)), .val (.int (0 : Int32)), .val (.int (0 : Int32)), .val (.int (0 : Int32)), .val (.int (0 : Int32)), .val (.int (0 : Int32)), .val (.int (0 : Int32)), .val (.double (FP.i2d p5)), .second, .val (.double (FP.i2d p6)), .second, .val (.ref b_193), .unset, .unset, .unset, .unset] [(.int (1 : Int32))])) _
        refine XS.ifNo X198.here hx rfl (hb hby at_181) rfl ((if0 _ _).trans (feq ((by decide) : ¬ ((1 : Int32) = (0 : Int32)))).1) ?_
        show Steps p.tables e below (T198.setTop (mkF m 184 #[.val (.int p1), .val (.int p2), .val (.int p3), .val (.int p4), .val (.int p5), .val (.int p6), .val (.int (Int32.ofNat mr)), .val (.int (Int32.ofNat nc)), .val (.ref b101), .val (.int (0 : Int32)), .val (.int (0 : Int32)), .val (.int (0 : Int32)), .val (.int (0 : Int32)), .val (.int (0 : Int32)), .val (.int (0 : Int32)), .val (.int (0 : Int32)), .val (.double (FP.i2d p5)), .second, .val (.double (FP.i2d p6)), .second, .val (.ref b_193), .unset, .unset, .unset, .unset] [])) _
        refine XS.aload X198.here hx rfl (hb hby at_184) rfl rfl ?_
        show Steps p.tables e below (T198.setTop (mkF m 186 #[.val (.int p1), .val (.int p2), .val (.int p3), .val (.int p4), .val (.int p5), .val (.int p6), .val (.int (Int32.ofNat mr)), .val (.int (Int32.ofNat nc)), .val (.ref b101), .val (.int (0 : Int32)), .val (.int (0 : Int32)), .val (.int (0 : Int32)), .val (.int (0 : Int32)), .val (.int (0 : Int32)), .val (.int (0 : Int32)), .val (.int (0 : Int32)), .val (.double (FP.i2d p5)), .second, .val (.double (FP.i2d p6)), .second, .val (.ref b_193), .unset, .unset, .unset, .unset] [(.ref b_193)])) _
        refine XS.iconst X198.here hx rfl (hb hby at_186) ?_
        show Steps p.tables e below (T198.setTop (mkF m 187 #[.val (.int p1), .val (.int p2), .val (.int p3), .val (.int p4), .val (.int p5), .val (.int p6), .val (.int (Int32.ofNat mr)), .val (.int (Int32.ofNat nc)), .val (.ref b101), .val (.int (0 : Int32)), .val (.int (0 : Int32)), .val (.int (0 : Int32)), .val (.int (0 : Int32)), .val (.int (0 : Int32)), .val (.int (0 : Int32)), .val (.int (0 : Int32)), .val (.double (FP.i2d p5)), .second, .val (.double (FP.i2d p6)), .second, .val (.ref b_193), .unset, .unset, .unset, .unset] [(.int (1 : Int32)), (.ref b_193)])) _
        refine XS.iload X198.here hx rfl (hb hby at_187) rfl ?_
        show Steps p.tables e below (T198.setTop (mkF m 189 #[.val (.int p1), .val (.int p2), .val (.int p3), .val (.int p4), .val (.int p5), .val (.int p6), .val (.int (Int32.ofNat mr)), .val (.int (Int32.ofNat nc)), .val (.ref b101), .val (.int (0 : Int32)), .val (.int (0 : Int32)), .val (.int (0 : Int32)), .val (.int (0 : Int32)), .val (.int (0 : Int32)), .val (.int (0 : Int32)), .val (.int (0 : Int32)), .val (.double (FP.i2d p5)), .second, .val (.double (FP.i2d p6)), .second, .val (.ref b_193), .unset, .unset, .unset, .unset] [(.int (Int32.ofNat nc)), (.int (1 : Int32)), (.ref b_193)])) _
        refine st199 _ ?_
        show Steps p.tables e below (T199.setTop (mkF m 192 #[.val (.int p1), .val (.int p2), .val (.int p3), .val (.int p4), .val (.int p5), .val (.int p6), .val (.int (Int32.ofNat mr)), .val (.int (Int32.ofNat nc)), .val (.ref b101), .val (.int (0 : Int32)), .val (.int (0 : Int32)), .val (.int (0 : Int32)), .val (.int (0 : Int32)), .val (.int (0 : Int32)), .val (.int (0 : Int32)), .val (.int (0 : Int32)), .val (.double (FP.i2d p5)), .second, .val (.double (FP.i2d p6)), .second, .val (.ref b_193), .unset, .unset, .unset, .unset] [(.int (1 : Int32))])) _
        refine XS.ifNo X199.here hx rfl (hb hby at_192) rfl ((if0 _ _).trans (feq ((by decide) : ¬ ((1 : Int32) = (0 : Int32)))).1) ?_
        show Steps p.tables e below (T199.setTop (mkF m 195 #[.val (.int p1), .val (.int p2), .val (.int p3), .val (.int p4), .val (.int p5), .val (.int p6), .val (.int (Int32.ofNat mr)), .val (.int (Int32.ofNat nc)), .val (.ref b101), .val (.int (0 : Int32)), .val (.int (0 : Int32)), .val (.int (0 : Int32)), .val (.int (0 : Int32)), .val (.int (0 : Int32)), .val (.int (0 : Int32)), .val (.int (0 : Int32)), .val (.double (FP.i2d p5)), .second, .val (.double (FP.i2d p6)), .second, .val (.ref b_193), .unset, .unset, .unset, .unset] [])) _
        refine XS.aload X199.here hx rfl (hb hby at_195) rfl rfl ?_
        show Steps p.tables e below (T199.setTop (mkF m 197 #[.val (.int p1), .val (.int p2), .val (.int p3), .val (.int p4), .val (.int p5), .val (.int p6), .val (.int (Int32.ofNat mr)), .val (.int (Int32.ofNat nc)), .val (.ref b101), .val (.int (0 : Int32)), .val (.int (0 : Int32)), .val (.int (0 : Int32)), .val (.int (0 : Int32)), .val (.int (0 : Int32)), .val (.int (0 : Int32)), .val (.int (0 : Int32)), .val (.double (FP.i2d p5)), .second, .val (.double (FP.i2d p6)), .second, .val (.ref b_193), .unset, .unset, .unset, .unset] [(.ref b_193)])) _
        refine XS.iconst X199.here hx rfl (hb hby at_197) ?_
        show Steps p.tables e below (T199.setTop (mkF m 198 #[.val (.int p1), .val (.int p2), .val (.int p3), .val (.int p4), .val (.int p5), .val (.int p6), .val (.int (Int32.ofNat mr)), .val (.int (Int32.ofNat nc)), .val (.ref b101), .val (.int (0 : Int32)), .val (.int (0 : Int32)), .val (.int (0 : Int32)), .val (.int (0 : Int32)), .val (.int (0 : Int32)), .val (.int (0 : Int32)), .val (.int (0 : Int32)), .val (.double (FP.i2d p5)), .second, .val (.double (FP.i2d p6)), .second, .val (.ref b_193), .unset, .unset, .unset, .unset] [(.int (2 : Int32)), (.ref b_193)])) _
        refine XS.iload X199.here hx rfl (hb hby at_198) rfl ?_
        show Steps p.tables e below (T199.setTop (mkF m 200 #[.val (.int p1), .val (.int p2), .val (.int p3), .val (.int p4), .val (.int p5), .val (.int p6), .val (.int (Int32.ofNat mr)), .val (.int (Int32.ofNat nc)), .val (.ref b101), .val (.int (0 : Int32)), .val (.int (0 : Int32)), .val (.int (0 : Int32)), .val (.int (0 : Int32)), .val (.int (0 : Int32)), .val (.int (0 : Int32)), .val (.int (0 : Int32)), .val (.double (FP.i2d p5)), .second, .val (.double (FP.i2d p6)), .second, .val (.ref b_193), .unset, .unset, .unset, .unset] [(.int (Int32.ofNat nc)), (.int (2 : Int32)), (.ref b_193)])) _
        refine st200 _ ?_
        show Steps p.tables e below (T200.setTop (mkF m 203 #[.val (.int p1), .val (.int p2), .val (.int p3), .val (.int p4), .val (.int p5), .val (.int p6), .val (.int (Int32.ofNat mr)), .val (.int (Int32.ofNat nc)), .val (.ref b101), .val (.int (0 : Int32)), .val (.int (0 : Int32)), .val (.int (0 : Int32)), .val (.int (0 : Int32)), .val (.int (0 : Int32)), .val (.int (0 : Int32)), .val (.int (0 : Int32)), .val (.double (FP.i2d p5)), .second, .val (.double (FP.i2d p6)), .second, .val (.ref b_193), .unset, .unset, .unset, .unset] [(.int (1 : Int32))])) _
        refine XS.ifYes X200.here hx rfl (pc0 := 203) (pc' := 208) rfl (hb hby at_203) rfl ((if0 _ _).trans (feq ((by decide) : ¬ ((1 : Int32) = (0 : Int32)))).2) (by decide) (by decide) ?_
        show Steps p.tables e below (T200.setTop (mkF m 208 #[.val (.int p1), .val (.int p2), .val (.int p3), .val (.int p4), .val (.int p5), .val (.int p6), .val (.int (Int32.ofNat mr)), .val (.int (Int32.ofNat nc)), .val (.ref b101), .val (.int (0 : Int32)), .val (.int (0 : Int32)), .val (.int (0 : Int32)), .val (.int (0 : Int32)), .val (.int (0 : Int32)), .val (.int (0 : Int32)), .val (.int (0 : Int32)), .val (.double (FP.i2d p5)), .second, .val (.double (FP.i2d p6)), .second, .val (.ref b_193), .unset, .unset, .unset, .unset] [])) _
        refine XS.iload X200.here hx rfl (hb hby at_208) rfl ?_
        show Steps p.tables e below (T200.setTop (mkF m 210 #[.val (.int p1), .val (.int p2), .val (.int p3), .val (.int p4), .val (.int p5), .val (.int p6), .val (.int (Int32.ofNat mr)), .val (.int (Int32.ofNat nc)), .val (.ref b101), .val (.int (0 : Int32)), .val (.int (0 : Int32)), .val (.int (0 : Int32)), .val (.int (0 : Int32)), .val (.int (0 : Int32)), .val (.int (0 : Int32)), .val (.int (0 : Int32)), .val (.double (FP.i2d p5)), .second, .val (.double (FP.i2d p6)), .second, .val (.ref b_193), .unset, .unset, .unset, .unset] [(.int (0 : Int32))])) _
        refine XS.ifNo X200.here hx rfl (hb hby at_210) rfl ((if0 _ _).trans (teq ((by decide) : (0 : Int32) = (0 : Int32))).2) ?_
        show Steps p.tables e below (T200.setTop (mkF m 213 #[.val (.int p1), .val (.int p2), .val (.int p3), .val (.int p4), .val (.int p5), .val (.int p6), .val (.int (Int32.ofNat mr)), .val (.int (Int32.ofNat nc)), .val (.ref b101), .val (.int (0 : Int32)), .val (.int (0 : Int32)), .val (.int (0 : Int32)), .val (.int (0 : Int32)), .val (.int (0 : Int32)), .val (.int (0 : Int32)), .val (.int (0 : Int32)), .val (.double (FP.i2d p5)), .second, .val (.double (FP.i2d p6)), .second, .val (.ref b_193), .unset, .unset, .unset, .unset] [])) _
        refine XS.iconst X200.here hx rfl (hb hby at_213) ?_
        exact kt)
    obtain ⟨fs, hr, hrun, hended, hW, hsame⟩ := X200.leave (v := some (.int (1 : Int32))) (fun h => by rw [Bd.returns] at h; cases h)
    refine ⟨_, _, pre201 _ ?_, hrun, hended, _, _, rfl, ?_, ⟨_, rfl⟩, hW, hsame.mono (by decide) (by decide)⟩
    · show Steps p.tables e below (T200.setTop (mkF m 214 #[.val (.int p1), .val (.int p2), .val (.int p3), .val (.int p4), .val (.int p5), .val (.int p6), .val (.int (Int32.ofNat mr)), .val (.int (Int32.ofNat nc)), .val (.ref b101), .val (.int (0 : Int32)), .val (.int (0 : Int32)), .val (.int (0 : Int32)), .val (.int (0 : Int32)), .val (.int (0 : Int32)), .val (.int (0 : Int32)), .val (.int (0 : Int32)), .val (.double (FP.i2d p5)), .second, .val (.double (FP.i2d p6)), .second, .val (.ref b_193), .unset, .unset, .unset, .unset] [(.int (1 : Int32))])) _
      exact retN X200 hx (t := .boolean) Bd.returns (by simp) (hb hby at_214) hr
    · show Q0 Z p1 p2 p3 p4 p5 p6 h0 n0 _ T200.heap _
      rw [e200]
      exact ⟨rfl, N200⟩
set_option maxRecDepth 65536 in
set_option maxHeartbeats 40000000 in
theorem comes_1 {Post : Tables → Env → Array Value → State → Outcome → State → Prop} (hpost : ∀ tb e args s v u, (limb_1_1.after args s (.returned v) u = true ∧ limb_1_2.after args s (.returned v) u = true ∧ True) → FrameEnd s (.returned v) u (Jvm.fieldLocs frame_1_writes args s ++ Jvm.arrayLocs frame_1_arrays args s ++ Jvm.staticLocs frame_1_statics s) 24 128 → Post tb e args s (.returned v) u) :
    ArmFor flags0 classFile x code maxLocals ret World_1 tables_1 room_1 Calls_1 rest_1 Pre_1 Post := by
  intro l hfl _ _ p e ha hc hk s m args below hf hA hF happ hP
  obtain ⟨hcalls, hrest, hpre⟩ := hP
  obtain ⟨-, -, -, hnamed, -, -, -, hat⟩ := (Spec.applies_iff hf).mp happ
  obtain ⟨hg, hn⟩ := and_e (Cond.before_iff.mp (show (Jvm.Cond.and given_1 narrow_1).before args s = true from hpre))
  obtain ⟨g1, g2⟩ := and_e hg
  obtain ⟨g3, g4⟩ := and_e g2
  obtain ⟨g5, g6⟩ := and_e g4
  obtain ⟨g7, g8⟩ := and_e g6
  obtain ⟨g9, g10⟩ := and_e g8
  obtain ⟨g11, g12⟩ := and_e g10
  obtain ⟨w0, w1, w2, w3, w4, w5, rfl⟩ : ∃ w0 w1 w2 w3 w4 w5 : Value, args = #[w0, w1, w2, w3, w4, w5] := by
    have hs : args.size = 6 := by simpa [Cond.value, given_1] using g1
    obtain ⟨L⟩ := args
    match L, hs with
    | [w0, w1, w2, w3, w4, w5], _ => exact ⟨w0, w1, w2, w3, w4, w5, rfl⟩
  have hw := fun d (hd : d ∈ tables_1) => atoms_spec (ws := Jvm.Cond.code x code maxLocals ret :: tables_1) hat d (List.mem_cons_of_mem _ hd)
  have hfit : Fit s := fun {y c} hc i hi => by
    obtain ⟨ha, rfl⟩ := Array.getElem?_eq_some_iff.mp hc
    have q := List.all_eq_true.mp ((Array.all_eq_true_iff_forall_mem.mp hF) _ (Array.getElem_mem ha)) i (List.mem_range.mpr hi)
    simpa [Array.getElem?_eq_getElem hi] using q
  obtain ⟨i0, ei0⟩ := is_v g3
  obtain rfl : w0 = (.int i0) := Option.some.inj ei0
  obtain ⟨i1, ei1⟩ := is_v g5
  obtain rfl : w1 = (.int i1) := Option.some.inj ei1
  obtain ⟨i2, ei2⟩ := is_v g7
  obtain rfl : w2 = (.int i2) := Option.some.inj ei2
  obtain ⟨i3, ei3⟩ := is_v g9
  obtain rfl : w3 = (.int i3) := Option.some.inj ei3
  obtain ⟨i4, ei4⟩ := is_v g11
  obtain rfl : w4 = (.int i4) := Option.some.inj ei4
  obtain ⟨i5, ei5⟩ := is_v g12
  obtain rfl : w5 = (.int i5) := Option.some.inj ei5
  obtain ⟨n, o, h1, h2, h3, _, L, rfl, ⟨rfl, N⟩, hq⟩ := rm0 l s _ hw tables_1 i0 i1 i2 i3 i4 i5 s.heap s.heap.size (Nat.le_refl _)  p e ha hc hk s m _ below hf ((Spec.applies_iff_loose hf).mp happ).1 ⟨rfl, State.Warmed39.refl s, rfl⟩ trivial
  refine ⟨n, _, h1, h2, h3, hpost _ _ _ _ _ _ ⟨Cond.after_iff.mpr rfl, Cond.after_iff.mpr (eq_i res_at (Term.int_eval (1)) rfl), trivial⟩ ⟨hq.1, hq.2.1, (hq.2.2.sift fun y hy => Or.inr (N y hy)).mono (by decide) (by decide)⟩⟩
theorem main_1_1 : Claimed_1_1 := comes_1 fun _ _ _ _ _ _ h hF => ⟨h.1, hF⟩
theorem main_1_2 : Claimed_1_2 := comes_1 fun _ _ _ _ _ _ h hF => ⟨h.2.1, hF⟩
end Jvm.Pilot.@@N@@
namespace Jvm.Pilot.@@N@@
open Jvm Jvm.ClassFile Sem Op Lib Jvm.Free Jvm.Stand Jvm.Pilot.@@N@@.Jvm.D
/-! MADE BY PROGRAM (witnessworld.py) out of the Statement's table words and the real class files: 11 classes; the members and pool entries that the words name. The judged class is class 1, her method 1. -/
namespace start1
open Jvm.ClassFile
def u (s : String) : CpInfo := .utf8 (stringToUtf16 s)
/-- a pool by its gaps: so many unusable entries, then the entry; so many at the end -/
def gap : Nat → List CpInfo → List CpInfo
  | 0, r => r
  | n + 1, r => .unusable :: gap n r
def poolList (es : List (Nat × CpInfo)) (last : Nat) : List CpInfo := es.foldr (fun e r => gap e.1 (e.2 :: r)) (gap last [])
def pool (es : List (Nat × CpInfo)) (last : Nat) : Array CpInfo := ⟨poolList es last⟩
def fileOf (pool : Array CpInfo) (this : Nat) (attrs : Array Attribute := #[]) (ms : Array MethodInfo := #[]) (fl : Nat := 33) (sup : Nat := 0) (ifs : Array Nat := #[]) (fds : Array FieldInfo := #[]) : ClassFile where
  minorVersion := 0
  majorVersion := 65
  constantPool := pool
  accessFlags := fl
  thisClass := this
  superClass := sup
  interfaces := ifs
  fields := fds
  methods := ms
  attributes := attrs
def plain (name : String) (sup : Option ClassId) : Class where
  name := name
  kind := .ordinary
  loader := none
  accessFlags := 33
  super := sup
  interfaces := #[]
  cf := none
  fields := #[]
  methods := #[]
  instanceTypes := #[]
  staticTypes := #[]
  resolved := #[]
  callSites := []
  init := .initialized
  statics := none
  mirror := none

def pool0 : Array CpInfo := pool [(5, u "<init>"), (0, u "()V"), (1, .class_ 10), (1, u "java/lang/Object")] 113

def k0c0 : Code := { maxStack := 0, maxLocals := 1, code := object_method_1_code, exceptionTable := #[], attributes := #[] }
def k0m0 : Method := { name := "<init>", desc := "()V", sig := { parameters := [], returnType := none }, accessFlags := 1, code := some k0c0 }
/-- java/lang/Object -/
def k0 : Class := { plain "java/lang/Object" none with
  accessFlags := 33
  interfaces := #[]
  cf := some (fileOf pool0 8 #[] #[{ accessFlags := 1, nameIndex := 5, descriptorIndex := 6, attributes := #[] }] 33 0 #[] #[])
  fields := #[]
  methods := #[k0m0]
  instanceTypes := #[]
  staticTypes := #[]
  resolved := Array.replicate 124 none
  statics := none }

def pool1 : Array CpInfo := pool [(2, .class_ 4), (1, u "java/lang/Object"), (0, u "<init>"), (0, u "()V"), (0, .class_ 8), (0, u "com/example/orthoform/kernel/DenseMatrix"), (0, .methodref 7 10), (0, .nameAndType 5 11), (0, u "(II)V"), (0, .integer 65535), (0, .methodref 7 14), (0, .nameAndType 15 16), (0, u "set"), (0, u "(IID)V"), (0, .methodref 7 18), (0, .nameAndType 19 20), (0, u "toArray"), (0, u "()[[D"), (0, .methodref 22 23), (0, .class_ 24), (0, .nameAndType 25 26), (0, u "com/example/orthoform/kernel/DenseMatrixToArrayPinLaw"), (0, u "rowOk"), (0, u "([[DII)Z"), (0, .methodref 7 28), (0, .nameAndType 29 30), (0, u "get"), (0, u "(II)D"), (2, u "law"), (0, u "(IIIIII)Z")] 5

def k1m0 : Method := { name := "<init>", desc := "()V", sig := { parameters := [], returnType := none }, accessFlags := 1, code := none }
def k1c1 : Code := { maxStack := 6, maxLocals := 25, code := code, exceptionTable := #[], attributes := #[] }
def k1m1 : Method := { name := "law", desc := "(IIIIII)Z", sig := { parameters := [.int, .int, .int, .int, .int, .int], returnType := some .boolean }, accessFlags := 9, code := some k1c1 }
def k1c2 : Code := { maxStack := 2, maxLocals := 3, code := method_3_code, exceptionTable := #[], attributes := #[] }
def k1m2 : Method := { name := "rowOk", desc := "([[DII)Z", sig := { parameters := [(.array (.array .double)), .int, .int], returnType := some .boolean }, accessFlags := 10, code := some k1c2 }
/-- com/example/orthoform/kernel/DenseMatrixToArrayPinLaw -/
def k1 : Class := { plain "com/example/orthoform/kernel/DenseMatrixToArrayPinLaw" (some 0) with
  accessFlags := 49
  interfaces := #[]
  cf := some (fileOf pool1 22 #[] #[{ accessFlags := 1, nameIndex := 5, descriptorIndex := 6, attributes := #[] }, { accessFlags := 9, nameIndex := 33, descriptorIndex := 34, attributes := #[] }, { accessFlags := 10, nameIndex := 25, descriptorIndex := 26, attributes := #[] }] 49 2 #[] #[])
  fields := #[]
  methods := #[k1m0, k1m1, k1m2]
  instanceTypes := #[]
  staticTypes := #[]
  resolved := Array.replicate 40 none
  statics := none }

def pool2 : Array CpInfo := pool [(1, .methodref 2 3), (0, .class_ 4), (0, .nameAndType 5 6), (0, u "java/lang/Object"), (0, u "<init>"), (0, u "()V"), (11, .long 2147483639), (2, .fieldref 22 23), (0, .class_ 24), (0, .nameAndType 25 26), (0, u "com/example/orthoform/kernel/DenseMatrix"), (0, u "rows"), (0, u "I"), (0, .fieldref 22 28), (0, .nameAndType 29 26), (0, u "columns"), (0, .fieldref 22 31), (0, .nameAndType 32 33), (0, u "entries"), (0, u "[D"), (10, u "(II)V"), (62, .methodref 22 108), (0, .nameAndType 109 110), (0, u "indexOf"), (0, u "(II)I"), (57, .class_ 169), (0, u "[[D"), (7, u "TILE_ROWS"), (2, u "TILE_COLUMNS"), (1, u "MIN_POWER_OF_TWO"), (18, u "get"), (0, u "(II)D"), (0, u "set"), (0, u "(IID)V"), (14, u "()[[D"), (7, u "toArray")] 59

def k2c0 : Code := { maxStack := 4, maxLocals := 3, code := prog_4_method_1_code, exceptionTable := #[], attributes := #[] }
def k2m0 : Method := { name := "<init>", desc := "(II)V", sig := { parameters := [.int, .int], returnType := none }, accessFlags := 1, code := some k2c0 }
def k2c1 : Code := { maxStack := 4, maxLocals := 3, code := prog_4_method_9_code, exceptionTable := #[], attributes := #[] }
def k2m1 : Method := { name := "get", desc := "(II)D", sig := { parameters := [.int, .int], returnType := some .double }, accessFlags := 1, code := some k2c1 }
def k2c2 : Code := { maxStack := 4, maxLocals := 5, code := prog_4_method_10_code, exceptionTable := #[], attributes := #[] }
def k2m2 : Method := { name := "set", desc := "(IID)V", sig := { parameters := [.int, .int, .double], returnType := none }, accessFlags := 1, code := some k2c2 }
def k2c3 : Code := { maxStack := 6, maxLocals := 3, code := prog_4_method_11_code, exceptionTable := #[], attributes := #[] }
def k2m3 : Method := { name := "indexOf", desc := "(II)I", sig := { parameters := [.int, .int], returnType := some .int }, accessFlags := 2, code := some k2c3 }
def k2c4 : Code := { maxStack := 6, maxLocals := 4, code := prog_4_method_34_code, exceptionTable := #[], attributes := #[] }
def k2m4 : Method := { name := "toArray", desc := "()[[D", sig := { parameters := [], returnType := some (.array (.array .double)) }, accessFlags := 1, code := some k2c4 }
/-- com/example/orthoform/kernel/DenseMatrix -/
def k2 : Class := { plain "com/example/orthoform/kernel/DenseMatrix" (some 0) with
  accessFlags := 49
  interfaces := #[]
  cf := some (fileOf pool2 22 #[] #[{ accessFlags := 1, nameIndex := 5, descriptorIndex := 44, attributes := #[] }, { accessFlags := 1, nameIndex := 201, descriptorIndex := 202, attributes := #[] }, { accessFlags := 1, nameIndex := 203, descriptorIndex := 204, attributes := #[] }, { accessFlags := 2, nameIndex := 109, descriptorIndex := 110, attributes := #[] }, { accessFlags := 1, nameIndex := 227, descriptorIndex := 219, attributes := #[] }] 49 2 #[] #[{ accessFlags := 26, nameIndex := 177, descriptorIndex := 26, attributes := #[] }, { accessFlags := 26, nameIndex := 180, descriptorIndex := 26, attributes := #[] }, { accessFlags := 26, nameIndex := 182, descriptorIndex := 26, attributes := #[] }, { accessFlags := 18, nameIndex := 25, descriptorIndex := 26, attributes := #[] }, { accessFlags := 18, nameIndex := 29, descriptorIndex := 26, attributes := #[] }, { accessFlags := 18, nameIndex := 32, descriptorIndex := 33, attributes := #[] }])
  fields := #[{ name := "TILE_ROWS", type := .int, accessFlags := 26, slot := 0, constantValue := 0 }, { name := "TILE_COLUMNS", type := .int, accessFlags := 26, slot := 1, constantValue := 0 }, { name := "MIN_POWER_OF_TWO", type := .int, accessFlags := 26, slot := 2, constantValue := 0 }, { name := "rows", type := .int, accessFlags := 18, slot := 0, constantValue := 0 }, { name := "columns", type := .int, accessFlags := 18, slot := 1, constantValue := 0 }, { name := "entries", type := (.array .double), accessFlags := 18, slot := 2, constantValue := 0 }]
  methods := #[k2m0, k2m1, k2m2, k2m3, k2m4]
  instanceTypes := #[.int, .int, (.array .double)]
  staticTypes := #[.int, .int, .int]
  resolved := Array.replicate 287 none
  statics := none }

def pool3 : Array CpInfo := pool [(1, u "java/lang/Cloneable"), (0, .class_ 1), (0, u "java/lang/Object"), (0, .class_ 3)] 3

/-- java/lang/Cloneable -/
def k3 : Class := { plain "java/lang/Cloneable" (some 0) with
  accessFlags := 1537
  interfaces := #[]
  cf := some (fileOf pool3 2 #[] #[] 1537 4 #[] #[])
  fields := #[]
  methods := #[]
  instanceTypes := #[]
  staticTypes := #[]
  resolved := Array.replicate 8 none
  statics := none }

def pool4 : Array CpInfo := pool [(1, u "java/io/Serializable"), (0, .class_ 1), (0, u "java/lang/Object"), (0, .class_ 3)] 3

/-- java/io/Serializable -/
def k4 : Class := { plain "java/io/Serializable" (some 0) with
  accessFlags := 1537
  interfaces := #[]
  cf := some (fileOf pool4 2 #[] #[] 1537 4 #[] #[])
  fields := #[]
  methods := #[]
  instanceTypes := #[]
  staticTypes := #[]
  resolved := Array.replicate 8 none
  statics := none }

/-- the primitive byte -/
def k5 : Class := { plain "byte" none with kind := .primitive 'B', accessFlags := 0x411 }
/-- [B -/
def k6 : Class := { plain "[B" (some 0) with kind := .array 5 .byte, interfaces := #[3, 4], accessFlags := 1041 }

/-- the primitive double -/
def k7 : Class := { plain "double" none with kind := .primitive 'D', accessFlags := 0x411 }
/-- [D -/
def k8 : Class := { plain "[D" (some 0) with kind := .array 7 .double, interfaces := #[3, 4], accessFlags := 1041 }

/-- the primitive int -/
def k9 : Class := { plain "int" none with kind := .primitive 'I', accessFlags := 0x411 }
/-- [I -/
def k10 : Class := { plain "[I" (some 0) with kind := .array 9 .int, interfaces := #[3, 4], accessFlags := 1041 }

/-- [[D -/
def k11 : Class := { plain "[[D" (some 0) with kind := .array 8 (.array .double), interfaces := #[3, 4], accessFlags := 1041 }

def heap : Heap := #[]
def classes : Array Class := #[k0, k1, k2, k3, k4, k5, k6, k7, k8, k9, k10, k11]
def interned : List (Array UInt16 × Addr) := []
def slotsUsed : Nat := 0
def theMethod : MethodId := ⟨1, 1⟩
def args0 : Array Value := #[.int 5, .int 5, .int 5, .int 5, .int 5, .int 5]
def aboutOver (below : List Frame) : State where
  vm := { classes := classes, interned := interned.toArray }
  heap := heap
  slotsUsed := slotsUsed
  threads := #[{ frames := .invoking theMethod args0 :: below }]
def below0 : List Frame := [.native { method := ⟨0, 0⟩, args := #[] }]
def about1 : State := aboutOver below0
def p0 : Program := .bare "" "" ""
def e0 : Env := launch0.env 0 0 0
theorem w_frames : about1.frames = Frame.invoking theMethod args0 :: below0 := rfl
set_option maxRecDepth 65536 in
theorem w_args : argsFit about1.vm theMethod args0 = true := by decide +kernel
set_option maxRecDepth 65536 in
theorem w_heap : heapFits about1 = true := by decide +kernel
set_option maxRecDepth 65536 in
theorem w_runnable : about1.curStatus? = some .runnable := by decide +kernel
set_option maxRecDepth 65536 in
theorem w_alone : about1.alone = true := by decide +kernel
set_option maxRecDepth 65536 in
theorem w_named : about1.methodNamed? x = some theMethod := by decide +kernel
set_option maxRecDepth 65536 in
theorem w_hears : about1.hears theMethod below0 = true := by decide +kernel
set_option maxRecDepth 65536 in
theorem w_ripe : about1.ripe theMethod args0 below0 = true := by decide +kernel
theorem w_running : about1.status = .running := rfl
set_option maxRecDepth 65536 in
theorem w_room : about1.hasRoom e0.platform room_1 = true :=
  launch0.hasRoom_least _ room_1 (by decide +kernel) (by decide +kernel) (by decide +kernel) (by decide +kernel) (by decide +kernel) (by decide +kernel)
theorem allAtoms_all (ts : List Jvm.Cond) (a : Array Jvm.Value) (st : Jvm.State) : (allAtoms ts).before a st = ts.all (fun c => c.before a st) := by
  induction ts with
  | nil => rfl
  | cons c t ih =>
    show (Jvm.Cond.and c (allAtoms t)).before a st = _
    rw [Jvm.Cond.before_and, ih, List.all_cons]
def words1 : List Jvm.Cond := Jvm.Cond.code x code maxLocals ret :: tables_1
/-- a 'code' word, met by the world's own term for the bytes: nothing is compared byte by byte -/
theorem code_word {y : MethodName} {bytes : ByteArray} {mx : Nat} {rt : Option FieldType} {a : Array Value} {s : State} {m : MethodId} {meth : Method} {c : Code} (h1 : s.methodNamed? y = some m) (h2 : s.vm.method? m = some meth) (h3 : meth.code = some c) (h4 : c.code = bytes)
    (h5 : (c.maxLocals == mx && c.exceptionTable.isEmpty && decide (c.maxStack ≤ mostOperands) && decide (meth.sig.returnType = rt) && !meth.locks && decide (parseMethodDescriptor y.desc = some meth.sig)) = true) : (Jvm.Cond.code y bytes mx rt).before a s = true := by
  simp only [Bool.and_eq_true, beq_iff_eq, Bool.not_eq_true', decide_eq_true_eq] at h5
  obtain ⟨⟨⟨⟨⟨g1, g2⟩, g3⟩, g4⟩, g5⟩, g6⟩ := h5
  simp [Cond.before, Cond.holds, Cond.value, h1, h2, h3, h4, g1, g2, g3, g4, g5, g6]
def isCode : Jvm.Cond → Bool
  | .code _ _ _ _ => true
  | _ => false
theorem all_split {L : List Jvm.Cond} {P : Jvm.Cond → Bool} (h1 : L.all (fun c => isCode c || P c) = true) (h2 : ∀ c ∈ L.filter isCode, P c = true) : L.all P = true := by
  refine List.all_eq_true.mpr fun c hc => ?_
  have h := List.all_eq_true.mp h1 c hc
  rcases Bool.eq_false_or_eq_true (isCode c) with hi | hi
  · exact h2 c (List.mem_filter.mpr ⟨hc, hi⟩)
  · simpa [hi] using h
set_option maxRecDepth 65536 in
theorem w_c0 : (Jvm.Cond.code x code maxLocals ret).before args0 about1 = true := code_word (m := ⟨1, 1⟩) (meth := k1m1) (c := k1c1) (by decide +kernel) rfl rfl rfl (by decide +kernel)
set_option maxRecDepth 65536 in
theorem w_c1 : (Jvm.Cond.code ({ cls := "com/example/orthoform/kernel/DenseMatrix", name := "<init>", desc := "(II)V" } : Jvm.MethodName) prog_4_method_1_code (3 : Nat) (Option.none : Option Jvm.ClassFile.FieldType)).before args0 about1 = true := code_word (m := ⟨2, 0⟩) (meth := k2m0) (c := k2c0) (by decide +kernel) rfl rfl rfl (by decide +kernel)
set_option maxRecDepth 65536 in
theorem w_c2 : (Jvm.Cond.code ({ cls := "java/lang/Object", name := "<init>", desc := "()V" } : Jvm.MethodName) object_method_1_code (1 : Nat) (Option.none : Option Jvm.ClassFile.FieldType)).before args0 about1 = true := code_word (m := ⟨0, 0⟩) (meth := k0m0) (c := k0c0) (by decide +kernel) rfl rfl rfl (by decide +kernel)
set_option maxRecDepth 65536 in
theorem w_c3 : (Jvm.Cond.code ({ cls := "com/example/orthoform/kernel/DenseMatrix", name := "toArray", desc := "()[[D" } : Jvm.MethodName) prog_4_method_34_code (4 : Nat) (Option.some (Jvm.ClassFile.FieldType.array (Jvm.ClassFile.FieldType.array Jvm.ClassFile.FieldType.double)))).before args0 about1 = true := code_word (m := ⟨2, 4⟩) (meth := k2m4) (c := k2c4) (by decide +kernel) rfl rfl rfl (by decide +kernel)
set_option maxRecDepth 65536 in
theorem w_c4 : (Jvm.Cond.code ({ cls := "com/example/orthoform/kernel/DenseMatrixToArrayPinLaw", name := "rowOk", desc := "([[DII)Z" } : Jvm.MethodName) method_3_code (3 : Nat) (Option.some Jvm.ClassFile.FieldType.boolean)).before args0 about1 = true := code_word (m := ⟨1, 2⟩) (meth := k1m2) (c := k1c2) (by decide +kernel) rfl rfl rfl (by decide +kernel)
set_option maxRecDepth 65536 in
theorem w_c5 : (Jvm.Cond.code ({ cls := "com/example/orthoform/kernel/DenseMatrix", name := "set", desc := "(IID)V" } : Jvm.MethodName) prog_4_method_10_code (5 : Nat) (Option.none : Option Jvm.ClassFile.FieldType)).before args0 about1 = true := code_word (m := ⟨2, 2⟩) (meth := k2m2) (c := k2c2) (by decide +kernel) rfl rfl rfl (by decide +kernel)
set_option maxRecDepth 65536 in
theorem w_c6 : (Jvm.Cond.code ({ cls := "com/example/orthoform/kernel/DenseMatrix", name := "indexOf", desc := "(II)I" } : Jvm.MethodName) prog_4_method_11_code (3 : Nat) (Option.some Jvm.ClassFile.FieldType.int)).before args0 about1 = true := code_word (m := ⟨2, 3⟩) (meth := k2m3) (c := k2c3) (by decide +kernel) rfl rfl rfl (by decide +kernel)
set_option maxRecDepth 65536 in
theorem w_c7 : (Jvm.Cond.code ({ cls := "com/example/orthoform/kernel/DenseMatrix", name := "get", desc := "(II)D" } : Jvm.MethodName) prog_4_method_9_code (3 : Nat) (Option.some Jvm.ClassFile.FieldType.double)).before args0 about1 = true := code_word (m := ⟨2, 1⟩) (meth := k2m1) (c := k2c1) (by decide +kernel) rfl rfl rfl (by decide +kernel)
def codes1 : List Jvm.Cond := [Jvm.Cond.code x code maxLocals ret, Jvm.Cond.code ({ cls := "com/example/orthoform/kernel/DenseMatrix", name := "<init>", desc := "(II)V" } : Jvm.MethodName) prog_4_method_1_code (3 : Nat) (Option.none : Option Jvm.ClassFile.FieldType), Jvm.Cond.code ({ cls := "java/lang/Object", name := "<init>", desc := "()V" } : Jvm.MethodName) object_method_1_code (1 : Nat) (Option.none : Option Jvm.ClassFile.FieldType), Jvm.Cond.code ({ cls := "com/example/orthoform/kernel/DenseMatrix", name := "toArray", desc := "()[[D" } : Jvm.MethodName) prog_4_method_34_code (4 : Nat) (Option.some (Jvm.ClassFile.FieldType.array (Jvm.ClassFile.FieldType.array Jvm.ClassFile.FieldType.double))), Jvm.Cond.code ({ cls := "com/example/orthoform/kernel/DenseMatrixToArrayPinLaw", name := "rowOk", desc := "([[DII)Z" } : Jvm.MethodName) method_3_code (3 : Nat) (Option.some Jvm.ClassFile.FieldType.boolean), Jvm.Cond.code ({ cls := "com/example/orthoform/kernel/DenseMatrix", name := "set", desc := "(IID)V" } : Jvm.MethodName) prog_4_method_10_code (5 : Nat) (Option.none : Option Jvm.ClassFile.FieldType), Jvm.Cond.code ({ cls := "com/example/orthoform/kernel/DenseMatrix", name := "indexOf", desc := "(II)I" } : Jvm.MethodName) prog_4_method_11_code (3 : Nat) (Option.some Jvm.ClassFile.FieldType.int), Jvm.Cond.code ({ cls := "com/example/orthoform/kernel/DenseMatrix", name := "get", desc := "(II)D" } : Jvm.MethodName) prog_4_method_9_code (3 : Nat) (Option.some Jvm.ClassFile.FieldType.double)]
set_option maxRecDepth 65536 in
theorem codes_eq : words1.filter isCode = codes1 := rfl
theorem w_codes : ∀ c ∈ words1.filter isCode, c.before args0 about1 = true := by
  rw [codes_eq]
  intro c hc
  simp only [codes1, List.mem_cons, List.not_mem_nil, or_false] at hc
  rcases hc with rfl | rfl | rfl | rfl | rfl | rfl | rfl | rfl
  · exact w_c0
  · exact w_c1
  · exact w_c2
  · exact w_c3
  · exact w_c4
  · exact w_c5
  · exact w_c6
  · exact w_c7
set_option maxRecDepth 65536 in
theorem w_t1 : (words1.take 24).all (fun c => isCode c || c.before args0 about1) = true := by decide +kernel
set_option maxRecDepth 65536 in
theorem w_t2 : (words1.drop 24).all (fun c => isCode c || c.before args0 about1) = true := by decide +kernel
theorem w_tables : (allAtoms (Jvm.Cond.code x code maxLocals ret :: tables_1)).before args0 about1 = true := by
  rw [allAtoms_all]
  show words1.all (fun c => c.before args0 about1) = true
  refine all_split ?_ w_codes
  rw [← List.take_append_drop 24 words1, List.all_append, w_t1, w_t2]
  rfl
set_option maxRecDepth 65536 in
theorem w_case : (Jvm.Cond.and given_1 narrow_1).before args0 about1 = true := by decide +kernel
theorem w_applies : (headSpec (Jvm.Cond.code x code maxLocals ret :: tables_1) room_1).applies x e0.platform about1 = true :=
  (Spec.applies_iff w_frames).mpr ⟨w_running, w_runnable, w_alone, w_named, w_hears, w_ripe, w_room, w_tables⟩
theorem atStart : AtStart classFile x code maxLocals ret World_1 tables_1 room_1 Calls_1 rest_1 Pre_1 launch0 p0 e0 about1 theMethod args0 below0 :=
  ⟨lists_1, trivial, launch0.admits_env _ _ _, launch0.least_env, fairChoices_fair.cas, fairChoices_fair.clock, w_frames, w_args, w_heap, w_applies, trivial, trivial, w_case⟩
end start1
theorem witness_1 : WitnessClaimed_1 := ⟨start1.p0, start1.e0, start1.about1, start1.theMethod, start1.args0, start1.below0, start1.atStart⟩
end Jvm.Pilot.@@N@@
