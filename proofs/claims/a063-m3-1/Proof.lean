import JvmDerived
import JvmDerived.Pilot.@@N@@Statement
import JvmDerived.Pilot.@@N@@Code
set_option linter.unusedVariables false
set_option linter.unusedSimpArgs false
namespace Jvm.RoadKit
open Sem ClassFile Op Lib Jvm.Stand Jvm.Free Jvm.LawKit
section New
variable {p : Program} {l : Launch} {e : Env} {R : Room} {s : State} {m : MethodId} {args : Array Value} {below : List Frame} {meth : Method} {c : Code} {T : State} {locs : List Loc} {cells slots : Nat}
theorem retI (X : Stand p l e R s m args below meth c T locs cells slots) (hx : p.tables.exec = Jvm.exec) {pc : Nat} {Ls : Array Slot} {z : Int32} {rest : List Value} (hret : meth.sig.returnType = some .int) (hd : decode c.code pc = .ok (.ireturn, 1)) {fs : List Frame}
    (hl : ∀ (f : JFrame) (acts : List Action), f.method = m → f.locked = none → f.entered = [] → (doReturn e (T.setTop f) acts (some (.int z))).1 = T.setFrames fs) : Steps p.tables e below (T.setTop (mkF m pc Ls (.int z :: rest))) (T.setFrames fs) := by
  have hm' : T.vm.method? m = some meth := X.method'
  have hn : narrow .int (.int z) = .int z := rfl
  show Steps p.tables e below (T.setTop { method := m, pc := pc, locals := Ls, stack := _ :: rest, locked := none }) _
  jvm_step X.here [X.here.top, hx, hd, hm', hret, hn]
  first | (intro acts; rw [hl _ acts rfl rfl rfl]) | rw [hl _ _ rfl rfl rfl]
  exact Steps.refl _
theorem own_retJ (X : Stand p l e R s m args below meth c T locs cells slots) (hx : p.tables.exec = Jvm.exec) {pc : Nat} {Ls : Array Slot} {z : Int64} {rest : List Value} (hret : meth.sig.returnType = some .long) (hd : decode c.code pc = .ok (.lreturn, 1)) {fs : List Frame}
    (hl : ∀ (f : JFrame) (acts : List Action), f.method = m → f.locked = none → f.entered = [] → (doReturn e (T.setTop f) acts (some (.long z))).1 = T.setFrames fs) : Steps p.tables e below (T.setTop (mkF m pc Ls (.long z :: rest))) (T.setFrames fs) := by
  have hm' : T.vm.method? m = some meth := X.method'
  show Steps p.tables e below (T.setTop { method := m, pc := pc, locals := Ls, stack := _ :: rest, locked := none }) _
  jvm_step X.here [X.here.top, hx, hd, hm', hret, narrow]
  first | (intro acts; rw [hl _ acts rfl rfl rfl]) | rw [hl _ _ rfl rfl rfl]
  exact Steps.refl _
theorem own_retD (X : Stand p l e R s m args below meth c T locs cells slots) (hx : p.tables.exec = Jvm.exec) {pc : Nat} {Ls : Array Slot} {z : UInt64} {rest : List Value} (hret : meth.sig.returnType = some .double) (hd : decode c.code pc = .ok (.dreturn, 1)) {fs : List Frame}
    (hl : ∀ (f : JFrame) (acts : List Action), f.method = m → f.locked = none → f.entered = [] → (doReturn e (T.setTop f) acts (some (.double z))).1 = T.setFrames fs) : Steps p.tables e below (T.setTop (mkF m pc Ls (.double z :: rest))) (T.setFrames fs) := by
  have hm' : T.vm.method? m = some meth := X.method'
  show Steps p.tables e below (T.setTop { method := m, pc := pc, locals := Ls, stack := _ :: rest, locked := none }) _
  jvm_step X.here [X.here.top, hx, hd, hm', hret, narrow]
  first | (intro acts; rw [hl _ acts rfl rfl rfl]) | rw [hl _ _ rfl rfl rfl]
  exact Steps.refl _
theorem own_retR (X : Stand p l e R s m args below meth c T locs cells slots) (hx : p.tables.exec = Jvm.exec) {pc : Nat} {Ls : Array Slot} {z : Addr} {rest : List Value} {ty : FieldType} (hret : meth.sig.returnType = some ty) (hty : ty.isReference = true) (hd : decode c.code pc = .ok (.areturn, 1)) {fs : List Frame}
    (hl : ∀ (f : JFrame) (acts : List Action), f.method = m → f.locked = none → f.entered = [] → (doReturn e (T.setTop f) acts (some (.ref z))).1 = T.setFrames fs) : Steps p.tables e below (T.setTop (mkF m pc Ls (.ref z :: rest))) (T.setFrames fs) := by
  have hm' : T.vm.method? m = some meth := X.method'
  show Steps p.tables e below (T.setTop { method := m, pc := pc, locals := Ls, stack := _ :: rest, locked := none }) _
  jvm_step X.here [X.here.top, hx, hd, hm', hret, hty, Value.isRef]
  first | (intro acts; rw [hl _ acts rfl rfl rfl]) | rw [hl _ _ rfl rfl rfl]
  exact Steps.refl _
theorem own_nm0 {a : Addr} : a ∉ ([] : List Addr) := List.not_mem_nil
theorem own_nmc {a w : Addr} {ws : List Addr} (h : a ≠ w) (r : a ∉ ws) : a ∉ w :: ws := fun q => (List.mem_cons.mp q).elim h r
theorem own_wm0 {P : Addr → Prop} : ∀ x ∈ ([] : List Addr), P x := fun _ q => nomatch q
theorem own_wmc {P : Addr → Prop} {w : Addr} {ws : List Addr} (h : P w) (r : ∀ x ∈ ws, P x) : ∀ x ∈ w :: ws, P x := fun x q => (List.mem_cons.mp q).elim (fun z => z ▸ h) (r x)
end New
end Jvm.RoadKit
namespace Jvm.OwnFP
open Jvm.FP Jvm.Free.Fl Sem ClassFile Op
/-- the double's value in units of 2 ^ -1074 -/
def zv (x : UInt64) : Int := Core.zval Core.b64 (Core.val64 x)
def zm (x : UInt64) : Nat := Core.zmag Core.b64 (Core.val64 x)
theorem nn {x : UInt64} (h : NoNaN64 x) : Core.val64 x ≠ .nan := (Core.notNaN_iff x).mp (noNaN64_no.mp h)
theorem nnF {x : UInt64} (h : Fin64 x) : NoNaN64 x := h.noNaN
theorem cv {x y : UInt64} (hx : NoNaN64 x) (hy : NoNaN64 y) (o : CmpOp) : cmpValue (FP.dcmp x y) o = if zv x < zv y then -1 else if zv x = zv y then 0 else 1 := by
  have h : FP.dcmp x y = some (compare (zv x) (zv y)) := Core.dcmp_zval (nn hx) (nn hy)
  rw [h, Core.compare_ite]
  by_cases h1 : zv x < zv y
  · rw [if_pos h1, if_pos h1]; cases o <;> rfl
  · rw [if_neg h1, if_neg h1]
    by_cases h2 : zv x = zv y
    · rw [if_pos h2, if_pos h2]; cases o <;> rfl
    · rw [if_neg h2, if_neg h2]; cases o <;> rfl
theorem cv_lt {x y : UInt64} (hx : NoNaN64 x) (hy : NoNaN64 y) (h : zv x < zv y) (o : CmpOp) : cmpValue (FP.dcmp x y) o = -1 := by rw [cv hx hy, if_pos h]
theorem cv_eq {x y : UInt64} (hx : NoNaN64 x) (hy : NoNaN64 y) (h : zv x = zv y) (o : CmpOp) : cmpValue (FP.dcmp x y) o = 0 := by rw [cv hx hy, if_neg (by omega), if_pos h]
theorem cv_gt {x y : UInt64} (hx : NoNaN64 x) (hy : NoNaN64 y) (h : zv y < zv x) (o : CmpOp) : cmpValue (FP.dcmp x y) o = 1 := by rw [cv hx hy, if_neg (by omega), if_neg (by omega)]
theorem cv_ge {x y : UInt64} (hx : NoNaN64 x) (hy : NoNaN64 y) (h : zv y ≤ zv x) (o : CmpOp) : ¬ cmpValue (FP.dcmp x y) o < 0 := by
  rw [cv hx hy, if_neg (by omega)]; split <;> decide
theorem cv_le {x y : UInt64} (hx : NoNaN64 x) (hy : NoNaN64 y) (h : zv x ≤ zv y) (o : CmpOp) : ¬ 0 < cmpValue (FP.dcmp x y) o := by
  rw [cv hx hy]; split
  · decide
  · rw [if_pos (by omega)]; decide
theorem sh {x : UInt64} (h : Fin64 x) : ∃ s c q, Core.val64 x = .fin s c q := fin64_core.mp h
theorem zv_dint {i : Int} {x : UInt64} (h : Core.DInt i x) : zv x = i * (Core.one64 : Int) := Core.DInt_zval h
theorem zv_zero : zv 0 = 0 := Core.zval64_zero
theorem fin_zero : Fin64 0 := by unfold Fin64; decide
theorem fin_one : Fin64 4607182418800017408 := by unfold Fin64; decide
theorem one_pos : (0 : Int) < (Core.one64 : Int) := by have := Core.one64_pos; omega
theorem zv_sgn (x : UInt64) : zv x = Core.signed (Core.sgn (Core.val64 x)) (zm x) := rfl
theorem zm_abs (x : UInt64) : (zv x).natAbs = zm x := by rw [zv_sgn, Core.natAbs_signed]
theorem add_le {x y v : UInt64} (hx : Fin64 x) (hy : Fin64 y) (hv : NoNaN64 v) (h : zv x + zv y ≤ zv v) : zv (FP.dadd x y) ≤ zv v := by
  show Core.zval Core.b64 (Core.val64 (Core.dadd x y)) ≤ _
  rw [Core.val64_dadd]
  exact Core.sum_le Core.good_b64 (sh hx) (sh hy) (Core.val64_fits x) (Core.val64_fits y) (Core.val64_fits v) (nn hv) h
theorem add_ge {x y v : UInt64} (hx : Fin64 x) (hy : Fin64 y) (hv : NoNaN64 v) (h : zv v ≤ zv x + zv y) : zv v ≤ zv (FP.dadd x y) := by
  show _ ≤ Core.zval Core.b64 (Core.val64 (Core.dadd x y))
  rw [Core.val64_dadd]
  exact Core.sum_ge Core.good_b64 (sh hx) (sh hy) (Core.val64_fits x) (Core.val64_fits y) (Core.val64_fits v) (nn hv) h
theorem shn {x : UInt64} (h : Fin64 x) : ∃ s c q, Core.negate (Core.val64 x) = .fin s c q := by
  obtain ⟨s, c, q, e⟩ := sh h; exact ⟨!s, c, q, by rw [e]; rfl⟩
theorem sub_le {x y v : UInt64} (hx : Fin64 x) (hy : Fin64 y) (hv : NoNaN64 v) (h : zv x - zv y ≤ zv v) : zv (FP.dsub x y) ≤ zv v := by
  show Core.zval Core.b64 (Core.val64 (Core.dsub x y)) ≤ _
  rw [Core.val64_dsub]
  exact Core.sum_le Core.good_b64 (sh hx) (shn hy) (Core.val64_fits x) (Core.negate_fits (Core.val64_fits y)) (Core.val64_fits v) (nn hv) (by rw [Core.zval_negate]; exact h)
theorem sub_ge {x y v : UInt64} (hx : Fin64 x) (hy : Fin64 y) (hv : NoNaN64 v) (h : zv v ≤ zv x - zv y) : zv v ≤ zv (FP.dsub x y) := by
  show _ ≤ Core.zval Core.b64 (Core.val64 (Core.dsub x y))
  rw [Core.val64_dsub]
  exact Core.sum_ge Core.good_b64 (sh hx) (shn hy) (Core.val64_fits x) (Core.negate_fits (Core.val64_fits y)) (Core.val64_fits v) (nn hv) (by rw [Core.zval_negate]; exact h)
/-- no NaN and no greater than something finite: finite -/
theorem fin_of {x v : UInt64} (hx : NoNaN64 x) (hv : Fin64 v) (h : zm x ≤ zm v) : Fin64 x := by
  refine fin64_core.mpr ?_
  have h1 : Core.zmag Core.b64 (Core.val64 v) < _ := (fin64_core.mp hv).zval_lt
  have h2 := nn hx
  unfold zm at h
  cases e : Core.val64 x with
  | nan => exact absurd e h2
  | inf s => rw [e] at h; exact absurd (Nat.lt_of_le_of_lt h h1) (Nat.lt_irrefl _)
  | fin s c q => exact ⟨s, c, q, e⟩
/-- 2 ^ -k in those units -/
def U (k : Nat) : Int := ((2 ^ (1074 - k) : Nat) : Int)
theorem U_pos (k : Nat) : 0 < U k := by unfold U; have := Nat.two_pow_pos (1074 - k); omega
theorem U_zero : U 0 = (Core.one64 : Int) := rfl
theorem U_add {k j : Nat} (h : k + j ≤ 1074) : U k = ((2 ^ j : Nat) : Int) * U (k + j) := by
  unfold U
  rw [← Int.natCast_mul, ← Nat.pow_add, show j + (1074 - (k + j)) = 1074 - k by omega]
/-- x is i / 2 ^ k, exactly -/
def Is (x : UInt64) (i : Int) (k : Nat) : Prop := Fin64 x ∧ zv x = i * U k
theorem signed_abs (i : Int) : Core.signed (decide (i < 0)) i.natAbs = i := by
  unfold Core.signed
  by_cases h : i < 0
  · simp [h]; omega
  · simp [h]; omega
theorem repr (i : Int) (k : Nat) (hk : k ≤ 1074) (hi : i.natAbs < 2 ^ 53) : ∃ v : UInt64, Is v i k := by
  obtain ⟨c', q', h1, h2⟩ := Core.round_exact Core.good_b64 (decide (i < 0)) (c := i.natAbs) (q := -(k : Int)) hi (by rw [Core.qmin_b64]; omega) (by show _ ≤ (971 : Int); omega)
  have hf : Core.fits Core.b64 (.fin (decide (i < 0)) c' q') := h1 ▸ Core.round_fits Core.good_b64 _
  have hv := Core.val64_of64 hf
  refine ⟨Core.of64 (.fin (decide (i < 0)) c' q'), fin64_core.mpr ⟨_, _, _, hv⟩, ?_⟩
  unfold zv Core.zval
  rw [hv]
  show Core.signed (decide (i < 0)) (Core.inUnits c' q' Core.b64.qmin) = _
  rw [h2]
  unfold Core.inUnits
  rw [Core.signed_mul, signed_abs, Core.qmin_b64]
  unfold U
  rw [show (-(k : Int) - -1074).toNat = 1074 - k by omega]
theorem is_dint {i : Int} {x : UInt64} (h : Core.DInt i x) (hf : Fin64 x) : Is x i 0 := ⟨hf, by rw [zv_dint h, U_zero]⟩
theorem is_i2d (v : Int32) : Is (FP.i2d v) v.toInt 0 := is_dint (Core.i2d_int v) (i2d_fin v)
theorem is_l2d {v : Int64} (h : v.toInt.natAbs ≤ 2 ^ 53) : Is (FP.l2d v) v.toInt 0 := is_dint (Core.l2d_int h) (l2d_fin v)
theorem is_zero (k : Nat) : Is 0 0 k := ⟨fin_zero, by rw [zv_zero, Int.zero_mul]⟩
theorem is_one : Is 4607182418800017408 1 0 := is_dint Core.dint_one fin_one
theorem Is.nn {x : UInt64} {i : Int} {k : Nat} (h : Is x i k) : NoNaN64 x := h.1.noNaN
theorem Is.up {x : UInt64} {i : Int} {k : Nat} (h : Is x i k) (j : Nat) (hj : k + j ≤ 1074) : Is x (i * ((2 ^ j : Nat) : Int)) (k + j) := ⟨h.1, by rw [h.2, U_add hj, Int.mul_assoc]⟩
theorem is_val {x v : UInt64} {i : Int} {k : Nat} (hn : NoNaN64 x) (hv : Is v i k) (h : zv x = zv v) : Is x i k := ⟨fin_of hn hv.1 (by rw [← zm_abs, ← zm_abs, h]; exact Nat.le_refl _), h.trans hv.2⟩
theorem Is.add {x y : UInt64} {i j : Int} {k : Nat} (hx : Is x i k) (hy : Is y j k) (hk : k ≤ 1074) (h : (i + j).natAbs < 2 ^ 53) : Is (FP.dadd x y) (i + j) k := by
  obtain ⟨v, hv⟩ := repr (i + j) k hk h
  have e : zv x + zv y = zv v := by rw [hx.2, hy.2, hv.2, Int.add_mul]
  exact is_val (dadd_out hx.nn hy.1) hv (Int.le_antisymm (add_le hx.1 hy.1 hv.nn (by omega)) (add_ge hx.1 hy.1 hv.nn (by omega)))
theorem Is.sub {x y : UInt64} {i j : Int} {k : Nat} (hx : Is x i k) (hy : Is y j k) (hk : k ≤ 1074) (h : (i - j).natAbs < 2 ^ 53) : Is (FP.dsub x y) (i - j) k := by
  obtain ⟨v, hv⟩ := repr (i - j) k hk h
  have e : zv x - zv y = zv v := by rw [hx.2, hy.2, hv.2, Int.sub_mul]
  exact is_val (dsub_out hx.nn hy.1) hv (Int.le_antisymm (sub_le hx.1 hy.1 hv.nn (by omega)) (sub_ge hx.1 hy.1 hv.nn (by omega)))
theorem Is.lt_iff {x y : UInt64} {i j : Int} {k : Nat} (hx : Is x i k) (hy : Is y j k) : zv x < zv y ↔ i < j := by
  rw [hx.2, hy.2]; exact Int.mul_lt_mul_right (U_pos k)
theorem Is.eq_iff {x y : UInt64} {i j : Int} {k : Nat} (hx : Is x i k) (hy : Is y j k) : zv x = zv y ↔ i = j := by
  rw [hx.2, hy.2]; exact ⟨fun h => Int.eq_of_mul_eq_mul_right (Int.ne_of_gt (U_pos k)) h, fun h => by rw [h]⟩
theorem Is.cmp {x y : UInt64} {i j : Int} {k : Nat} (hx : Is x i k) (hy : Is y j k) (o : CmpOp) : cmpValue (FP.dcmp x y) o = if i < j then -1 else if i = j then 0 else 1 := by
  rw [cv hx.nn hy.nn]
  simp only [hx.lt_iff hy, hx.eq_iff hy]
/-- a quotient: her magnitude lies on the same side of any double as the true one; her sign is the signs' product -/
theorem div_shape {x y : UInt64} (hx : Fin64 x) (hy : Fin64 y) (hz : zm y ≠ 0) : ∃ (s t : Bool) (c d : Nat) (q r : Int), Core.val64 x = .fin s c q ∧ Core.val64 y = .fin t d r ∧ 0 < d ∧ Core.val64 (FP.ddiv x y) = Core.roundRatio Core.b64 (s != t) c d (q - r) := by
  obtain ⟨s, c, q, e1⟩ := sh hx
  obtain ⟨t, d, r, e2⟩ := sh hy
  have hd : d ≠ 0 := fun h => hz (by unfold zm; rw [e2]; show Core.inUnits d r _ = 0; rw [h]; simp [Core.inUnits])
  refine ⟨s, t, c, d, q, r, e1, e2, by omega, ?_⟩
  have := Core.val64_ddiv x y
  rw [e1, e2] at this
  show Core.val64 (Core.ddiv x y) = _
  rw [this]
  simp [Core.quotient, hd]
theorem units2 (c : Nat) (q r : Int) (hq : -1074 ≤ q) (hr : -1074 ≤ r) : Core.inUnits c (q - r) (-1074 - (r + 1074)) = Core.inUnits c q (-1074) * Core.one64 := by
  unfold Core.inUnits Core.one64
  rw [Nat.mul_assoc, ← Nat.pow_add]
  congr 2
  omega
theorem div_le {x y v : UInt64} (hx : Fin64 x) (hy : Fin64 y) (hz : zm y ≠ 0) (hv : NoNaN64 v) (h : zm x * Core.one64 ≤ zm v * zm y) : zm (FP.ddiv x y) ≤ zm v := by
  obtain ⟨s, t, c, d, q, r, e1, e2, hd, e3⟩ := div_shape hx hy hz
  have f1 := Core.val64_fits x; have f2 := Core.val64_fits y
  rw [e1] at f1; rw [e2] at f2
  have q1 := f1.2.1; have r1 := f2.2.1
  rw [Core.qmin_b64] at q1 r1
  unfold zm at h ⊢
  rw [e3]
  rw [e1, e2] at h
  refine Core.zmag_roundRatio_le Core.good_b64 hd (Core.val64_fits v) (nn hv) (e0 := -1074 - (r + 1074)) (by rw [Core.qmin_b64]; omega) (by omega) ?_
  rw [units2 c q r q1 r1, Core.qmin_b64, show (-1074 - (-1074 - (r + 1074))).toNat = (r + 1074).toNat by omega]
  change Core.inUnits c q Core.b64.qmin * _ ≤ _ * Core.inUnits d r Core.b64.qmin at h
  rw [Core.qmin_b64] at h
  refine Nat.le_trans h (Nat.le_of_eq ?_)
  unfold Core.inUnits
  rw [show (r - -1074).toNat = (r + 1074).toNat by omega]
  ac_rfl
theorem div_ge {x y v : UInt64} (hx : Fin64 x) (hy : Fin64 y) (hz : zm y ≠ 0) (h : zm v * zm y ≤ zm x * Core.one64) : zm v ≤ zm (FP.ddiv x y) := by
  obtain ⟨s, t, c, d, q, r, e1, e2, hd, e3⟩ := div_shape hx hy hz
  have f1 := Core.val64_fits x; have f2 := Core.val64_fits y
  rw [e1] at f1; rw [e2] at f2
  have q1 := f1.2.1; have r1 := f2.2.1
  rw [Core.qmin_b64] at q1 r1
  unfold zm at h ⊢
  rw [e3]
  rw [e1, e2] at h
  refine Core.zmag_roundRatio_ge Core.good_b64 hd (Core.val64_fits v) (e0 := -1074 - (r + 1074)) (by rw [Core.qmin_b64]; omega) (by omega) ?_
  rw [units2 c q r q1 r1, Core.qmin_b64, show (-1074 - (-1074 - (r + 1074))).toNat = (r + 1074).toNat by omega]
  change _ * Core.inUnits d r Core.b64.qmin ≤ Core.inUnits c q Core.b64.qmin * _ at h
  rw [Core.qmin_b64] at h
  refine Nat.le_trans (Nat.le_of_eq ?_) h
  unfold Core.inUnits
  rw [show (r - -1074).toNat = (r + 1074).toNat by omega]
  ac_rfl
theorem div_sgn {x y : UInt64} (hx : Fin64 x) (hy : Fin64 y) (hz : zm y ≠ 0) : Core.sgn (Core.val64 (FP.ddiv x y)) = (Core.sgn (Core.val64 x) != Core.sgn (Core.val64 y)) := by
  obtain ⟨s, t, c, d, q, r, e1, e2, hd, e3⟩ := div_shape hx hy hz
  rw [e3, Core.sgn_roundRatio, e1, e2]; rfl
theorem nz_of {y : UInt64} (hy : Fin64 y) (hz : zm y ≠ 0) : Nz64 y := by
  refine nz64_core.mpr fun ⟨s, q, e⟩ => hz ?_
  unfold zm; rw [e]; simp [Core.zmag, Core.inUnits]
theorem div_nn {x y : UInt64} (hx : Fin64 x) (hy : Fin64 y) (hz : zm y ≠ 0) : NoNaN64 (FP.ddiv x y) := ddiv_out hx.noNaN hy (nz_of hy hz)
theorem sgn_pos {x : UInt64} (h : 0 < zv x) : Core.sgn (Core.val64 x) = false := by
  rw [zv_sgn] at h
  cases e : Core.sgn (Core.val64 x)
  · rfl
  · rw [e] at h; simp [Core.signed] at h; omega
theorem zv_of_pos {x : UInt64} (h : Core.sgn (Core.val64 x) = false) : zv x = (zm x : Int) := by rw [zv_sgn, h]; rfl
theorem Is.zm {x : UInt64} {i : Int} {k : Nat} (h : Is x i k) : (OwnFP.zm x : Int) = (i.natAbs : Int) * U k := by
  rw [← zm_abs, h.2, Int.natAbs_mul, Int.natCast_mul, Int.natAbs_of_nonneg (Int.le_of_lt (U_pos k))]
/-- i / 2 ^ j is exact -/
theorem Is.div2 {x y : UInt64} {i : Int} {j : Nat} (hx : Is x i 0) (hy : Is y ((2 ^ j : Nat) : Int) 0) (hj : j ≤ 1074) (hi : i.natAbs < 2 ^ 53) : Is (FP.ddiv x y) i j := by
  obtain ⟨v, hv⟩ := repr i j hj hi
  have p2 := Nat.two_pow_pos j
  have hyz : (OwnFP.zm y : Int) = ((2 ^ j : Nat) : Int) * U 0 := by rw [hy.zm]; simp
  have hz : OwnFP.zm y ≠ 0 := fun h => by
    rw [h] at hyz
    have := Int.mul_pos (Int.natCast_pos.mpr p2) (U_pos 0)
    omega
  have e : OwnFP.zm x * Core.one64 = OwnFP.zm v * OwnFP.zm y := by
    have : ((OwnFP.zm x * Core.one64 : Nat) : Int) = ((OwnFP.zm v * OwnFP.zm y : Nat) : Int) := by
      rw [Int.natCast_mul, Int.natCast_mul, hx.zm, hv.zm, hyz, ← U_zero, U_add (k := 0) (j := j) (by omega), Nat.zero_add]
      ac_rfl
    exact Int.ofNat.inj this
  have em : OwnFP.zm (FP.ddiv x y) = OwnFP.zm v := Nat.le_antisymm (div_le hx.1 hy.1 hz hv.nn (Nat.le_of_eq e)) (div_ge hx.1 hy.1 hz (Nat.le_of_eq e.symm))
  have sy : Core.sgn (Core.val64 y) = false := sgn_pos (by rw [hy.2]; exact Int.mul_pos (Int.natCast_pos.mpr p2) (U_pos 0))
  refine ⟨fin_of (div_nn hx.1 hy.1 hz) hv.1 (Nat.le_of_eq em), ?_⟩
  rw [zv_sgn, div_sgn hx.1 hy.1 hz, sy, em]
  by_cases h0 : i = 0
  · have : OwnFP.zm v = 0 := by have := hv.zm; rw [h0] at this; simp at this; exact this
    rw [this, h0]; simp [Core.signed_zero]
  · have ex : Core.signed (Core.sgn (Core.val64 x)) (OwnFP.zm x) = i * U 0 := hx.2
    have hz2 := hv.zm
    have hzx := hx.zm
    have u0 := U_pos 0; have uj := U_pos j
    cases e : Core.sgn (Core.val64 x)
    · rw [e] at ex
      have : 0 < i := by
        have h1 : (0 : Int) ≤ i * U 0 := by rw [← ex]; simp [Core.signed]
        have h2 : 0 ≤ i := Int.not_lt.mp fun q => by have := Int.mul_neg_of_neg_of_pos q u0; omega
        omega
      show ((OwnFP.zm v : Nat) : Int) = _
      rw [hz2, show ((i.natAbs : Nat) : Int) = i by omega]
    · rw [e] at ex
      have : i < 0 := by
        have h1 : i * U 0 ≤ 0 := by rw [← ex]; simp [Core.signed]
        have h2 : i ≤ 0 := Int.not_lt.mp fun q => by have := Int.mul_pos q u0; omega
        omega
      show -((OwnFP.zm v : Nat) : Int) = _
      rw [hz2, show ((i.natAbs : Nat) : Int) = -i by omega, Int.neg_mul, Int.neg_neg]
theorem abs_le_max {x : UInt64} (h : Fin64 x) : ¬ (0 : Int32) < cmpValue (FP.dcmp (x &&& 0x7fffffffffffffff) (9218868437227405311 : UInt64)) .g := by
  rcases (Core.le_max (noNaN64_no.mp h.noNaN)).mpr (fin64_core.mp h) with q | q
  · rw [show FP.dcmp (x &&& 0x7fffffffffffffff) (9218868437227405311 : UInt64) = some .lt from q]; decide
  · rw [show FP.dcmp (x &&& 0x7fffffffffffffff) (9218868437227405311 : UInt64) = some .eq from q]; decide
/-- equal numbers over one divisor: equal numbers -/
theorem div_congr {x x' y : UInt64} (hx : Fin64 x) (hx' : Fin64 x') (h : zv x = zv x') (hy : Fin64 y) (hz : OwnFP.zm y ≠ 0) : zv (FP.ddiv x y) = zv (FP.ddiv x' y) := by
  by_cases h0 : zv x' = 0
  · have e1 : OwnFP.zm x = 0 := by rw [← zm_abs, h, h0]; rfl
    have e2 : OwnFP.zm x' = 0 := by rw [← zm_abs, h0]; rfl
    have z0 : OwnFP.zm 0 = 0 := by rw [← zm_abs, zv_zero]; rfl
    have d1 := div_le (v := 0) hx hy hz fin_zero.noNaN (by rw [e1]; simp)
    have d2 := div_le (v := 0) hx' hy hz fin_zero.noNaN (by rw [e2]; simp)
    rw [z0] at d1 d2
    rw [zv_sgn, zv_sgn, Nat.le_zero.mp d1, Nat.le_zero.mp d2, Core.signed_zero, Core.signed_zero]
  · have : x = x' := by
      refine Core.eq_bits (fun hz' => h0 hz'.zval) ?_
      have q : Core.dcmp x x' = some (compare (zv x) (zv x')) := Core.dcmp_zval (nn hx.noNaN) (nn hx'.noNaN)
      rw [q, h, Core.compare_self_int]
    rw [this]
end Jvm.OwnFP
/- laws to paste: Road.backV (cut by pick.py; bodies as the Statement names them) -/
namespace Jvm.Pilot.@@N@@
namespace StrChars
open Jvm Sem ClassFile Op Lib Jvm.Stand Jvm.Free.XT Jvm.Free.ALB Jvm.Free.JM Jvm.Free
open Jvm.Lib.Cold (StaticIs)
/-- a char array whose places are chars -/
def Ch (a : Addr) (A : Cell) (U : State) : Prop := Arr .char a A U ∧ Typed .char A
theorem Ch.mv {a : Addr} {A : Cell} {U U' : State} (h : Ch a A U) (hal : U.vm.Alike U'.vm) (hh : U'.heap = U.heap) : Ch a A U' := ⟨h.1.mv hal hh, h.2⟩
theorem Ch.keep {a : Addr} {A : Cell} {U U' : State} (h : Ch a A U) (hal : U.vm.Alike U'.vm) (hk : U'.heap[a]? = some A) : Ch a A U' := ⟨h.1.keep hal hk, h.2⟩
/-- what place i of a char[]'s cell holds -/
def cv (A : Cell) (i : Nat) : Int32 := match A.slots[i]? with | some (.int x) => x | _ => 0
theorem Ch.get {a : Addr} {A : Cell} {U : State} (h : Ch a A U) {i : Nat} (hi : i < A.slots.size) : A.slots[i]? = some (.int (cv A i)) := by
  have e := Array.getElem?_eq_getElem hi
  have f := h.2 i _ e
  unfold cv; rw [e]
  generalize A.slots[i] = v at f
  cases v <;> simp [fits] at f ⊢
/-- the byte that i2b leaves of a char -/
def lo8 (x : Int32) : Int32 := x.toInt8.toInt32
theorem fits_lo8 (y : Int32) : fits .byte (.int (lo8 y)) = true := by
  have h1 := y.toInt8.le_toInt
  have h2 := y.toInt8.toInt_lt
  simp only [lo8, fits, Bool.and_eq_true, decide_eq_true_eq, Int32.le_iff_toInt_le, Int8.toInt_toInt32, show (-128 : Int32).toInt = -128 from by decide, show (127 : Int32).toInt = 127 from by decide]
  omega
/-- A' is A but that each place j of lo .. hi - 1 holds f j -/
def Laid (A A' : Cell) (lo hi : Nat) (f : Nat → Value) : Prop := A'.cls = A.cls ∧ A'.vm = A.vm ∧ A'.slots.size = A.slots.size ∧ ∀ i, A'.slots[i]? = if lo ≤ i ∧ i < hi then some (f i) else A.slots[i]?
theorem Laid.zero (A : Cell) (lo : Nat) (f : Nat → Value) : Laid A A lo (lo + 0) f := ⟨rfl, rfl, rfl, fun i => by rw [if_neg (by omega)]⟩
theorem Laid.step {A Ak : Cell} {lo k : Nat} {f : Nat → Value} {v : Value} (h : Laid A Ak lo k f) (hlo : lo ≤ k) (hk : k < Ak.slots.size) (hv : v = f k) : Laid A (Ak.setSlot k v) lo (k + 1) f := by
  refine ⟨h.1, h.2.1, by simpa [Cell.setSlot] using h.2.2.1, fun i => ?_⟩
  by_cases e : k = i
  · subst e; rw [Cell.slots_setSlot_self v hk, if_pos (by omega), hv]
  · rw [Cell.slots_setSlot_ne v e, h.2.2.2 i]
    by_cases q : lo ≤ i ∧ i < k
    · rw [if_pos q, if_pos (by omega)]
    · rw [if_neg q, if_neg (by omega)]
def U16 : String := "java/lang/StringUTF16"
namespace Cmp5
def yN : MethodName := ⟨"java/lang/StringUTF16", "compress", "([CI[BII)I"⟩
abbrev yB : ByteArray := jdk_52_method_21_code
theorem d0 : decode yB 0 = .ok (.iconst 0, 1) := by decide +kernel
theorem d1 : decode yB 1 = .ok (.istore 5, 2) := by decide +kernel
theorem d3 : decode yB 3 = .ok (.iload 5, 2) := by decide +kernel
theorem d5 : decode yB 5 = .ok (.iload 4, 2) := by decide +kernel
theorem d7 : decode yB 7 = .ok (.if_icmp (.ge) 37, 3) := by decide +kernel
theorem d10 : decode yB 10 = .ok (.aload_n 0, 1) := by decide +kernel
theorem d11 : decode yB 11 = .ok (.iload_n 1, 1) := by decide +kernel
theorem d12 : decode yB 12 = .ok (.caload, 1) := by decide +kernel
theorem d13 : decode yB 13 = .ok (.istore 6, 2) := by decide +kernel
theorem d15 : decode yB 15 = .ok (.iload 6, 2) := by decide +kernel
theorem d17 : decode yB 17 = .ok (.sipush 255, 3) := by decide +kernel
theorem d20 : decode yB 20 = .ok (.if_icmp (.le) 6, 3) := by decide +kernel
theorem d26 : decode yB 26 = .ok (.aload_n 2, 1) := by decide +kernel
theorem d27 : decode yB 27 = .ok (.iload_n 3, 1) := by decide +kernel
theorem d28 : decode yB 28 = .ok (.iload 6, 2) := by decide +kernel
theorem d30 : decode yB 30 = .ok (.i2b, 1) := by decide +kernel
theorem d31 : decode yB 31 = .ok (.bastore, 1) := by decide +kernel
theorem d32 : decode yB 32 = .ok (.iinc 1 1, 3) := by decide +kernel
theorem d35 : decode yB 35 = .ok (.iinc 3 1, 3) := by decide +kernel
theorem d38 : decode yB 38 = .ok (.iinc 5 1, 3) := by decide +kernel
theorem d41 : decode yB 41 = .ok (.goto (-38), 3) := by decide +kernel
theorem d44 : decode yB 44 = .ok (.iload 4, 2) := by decide +kernel
theorem d46 : decode yB 46 = .ok (.ireturn, 1) := by decide +kernel
def site : List Cond := []
def tab : Cond := tabOf yN yB 7 (some .int) site
def P (b : Addr) (A : Cell) (d : Addr) (B : Cell) (o q len : Nat) (args : Array Value) (s : State) : Prop := args = #[.ref b, .int (Int32.ofNat o), .ref d, .int (Int32.ofNat q), .int (Int32.ofNat len)] ∧ Ch b A s ∧ Arr .byte d B s ∧ b ≠ d ∧ o + len ≤ A.slots.size ∧ q + len ≤ B.slots.size ∧ ∀ i, i < len → ¬ 255 < cv A (o + i)
def E (b : Addr) (A : Cell) (d : Addr) (B : Cell) (o q len : Nat) (r : Option Value) (s u : State) : Prop := r = some (.int (Int32.ofNat len)) ∧ ∃ B', Put d B' s u ∧ Laid B B' q (q + len) (fun j => Value.int (lo8 (cv A (o + (j - q)))))
/-- no char of the range above 255: len; the places written hold each char's low byte -/
theorem law (l : Launch) (b : Addr) (A : Cell) (d : Addr) (B : Cell) (o q len : Nat) : Law l yN 5 5 0 0 yB 7 (some .int) site (P b A d B o q len) (E b A d B o q len) (copyLocs d q len) 0 0 := by
  refine Law.of_walk (plainFor_of_name (by decide +kernel)) (by decide +kernel) (by decide +kernel) (by decide) (fun _ _ h => by rw [h.1]; rfl) (fun _ U U' hal hh h => ⟨h.1, h.2.1.mv hal hh, h.2.2.1.mv hal hh, h.2.2.2⟩) (fun r U U' V V' h1 hal h2 h => ⟨h.1, h.2.elim fun B' q => ⟨B', q.1.mv h1 h2, q.2⟩⟩) ?_
  intro p e s m args below meth c s₁ X0 hexec hbytes hml hret hlk hnm hown hh0 W hP
  obtain ⟨rfl, hA, hB, hne, l1, l2, hp⟩ := hP
  have c1 : Steps p.tables e below (s₁.setTop (entryFrame m #[.ref b, .int (Int32.ofNat o), .ref d, .int (Int32.ofNat q), .int (Int32.ofNat len)] 7)) (s₁.setTop (mkF m 0 #[.val (.ref b), .val (.int (Int32.ofNat o)), .val (.ref d), .val (.int (Int32.ofNat q)), .val (.int (Int32.ofNat len)), .unset, .unset] [])) := entry rfl
  have hA0 := hA.1.mv X0.warmed.alike hh0
  have hB0 := hB.mv X0.warmed.alike hh0
  have a31 := hA.1.2.2.2
  have c2 : Steps p.tables e below (s₁.setTop (entryFrame m #[.ref b, .int (Int32.ofNat o), .ref d, .int (Int32.ofNat q), .int (Int32.ofNat len)] 7)) (s₁.setTop (mkF m 3 #[.val (.ref b), .val (.int (Int32.ofNat o)), .val (.ref d), .val (.int (Int32.ofNat q)), .val (.int (Int32.ofNat len)), .val (.int 0), .unset] [])) := c1.trans (by
    refine iconstV X0.here hexec rfl 0 (hb hbytes d0) (by decide) ?_
    refine XS.istore X0.here hexec rfl (hb hbytes d1) rfl rfl ?_
    exact Steps.refl _)
  have loop : ∀ (r i : Nat), i + r = len → ∀ (z : Slot), (z = .unset ∨ ∃ w, z = .val w ∧ w.category = 1) → ∀ (Tl : State) (Bk : Cell), Stand p l e { frames := 0, locals := 0, cells := 0, slots := 0 } s m #[.ref b, .int (Int32.ofNat o), .ref d, .int (Int32.ofNat q), .int (Int32.ofNat len)] below meth c Tl ([] ++ copyLocs d q i) 0 0 → Put d Bk s₁ Tl → Laid B Bk q (q + i) (fun j => Value.int (lo8 (cv A (o + (j - q))))) →
      Steps p.tables e below (s₁.setTop (entryFrame m #[.ref b, .int (Int32.ofNat o), .ref d, .int (Int32.ofNat q), .int (Int32.ofNat len)] 7)) (Tl.setTop (mkF m 3 #[.val (.ref b), .val (.int (Int32.ofNat (o + i))), .val (.ref d), .val (.int (Int32.ofNat (q + i))), .val (.int (Int32.ofNat len)), .val (.int (Int32.ofNat i)), z] [])) → ∃ (T' : State) (B' : Cell) (z' : Slot), Stand p l e { frames := 0, locals := 0, cells := 0, slots := 0 } s m #[.ref b, .int (Int32.ofNat o), .ref d, .int (Int32.ofNat q), .int (Int32.ofNat len)] below meth c T' ([] ++ copyLocs d q len) 0 0 ∧ Put d B' s₁ T' ∧ Laid B B' q (q + len) (fun j => Value.int (lo8 (cv A (o + (j - q))))) ∧
      Steps p.tables e below (s₁.setTop (entryFrame m #[.ref b, .int (Int32.ofNat o), .ref d, .int (Int32.ofNat q), .int (Int32.ofNat len)] 7)) (T'.setTop (mkF m 3 #[.val (.ref b), .val (.int (Int32.ofNat (o + len))), .val (.ref d), .val (.int (Int32.ofNat (q + len))), .val (.int (Int32.ofNat len)), .val (.int (Int32.ofNat len)), z'] [])) := by
    intro r
    induction r with
    | zero =>
      intro i hi z hz Tl Bk Xl pl fl cl
      have hil : i = len := by omega
      rw [hil] at Xl fl cl
      exact ⟨Tl, Bk, z, Xl, pl, fl, cl⟩
    | succ r ih =>
      intro i hi z hz Tl Bk Xl pl fl cl
      have all := X0.warmed.alike.symm.trans Xl.warmed.alike
      have hAl := hA0.keep all (pl.other hne hA0.1)
      have hBk := hB0.like all pl.1 fl.1 fl.2.1 fl.2.2.1
      have hlt : q + i < Bk.slots.size := by rw [fl.2.2.1]; omega
      have c3 : Steps p.tables e below (s₁.setTop (entryFrame m #[.ref b, .int (Int32.ofNat o), .ref d, .int (Int32.ofNat q), .int (Int32.ofNat len)] 7)) (Tl.setTop (mkF m 12 #[.val (.ref b), .val (.int (Int32.ofNat (o + i))), .val (.ref d), .val (.int (Int32.ofNat (q + i))), .val (.int (Int32.ofNat len)), .val (.int (Int32.ofNat i)), z] [.int (Int32.ofNat (o + i)), .ref b])) := cl.trans (by
        refine XS.iload Xl.here hexec rfl (hb hbytes d3) rfl ?_
        refine XS.iload Xl.here hexec rfl (hb hbytes d5) rfl ?_
        refine XS.icmpNo Xl.here hexec rfl (hb hbytes d7) rfl (ii_ge_f (lt32 (by omega) (by omega))) ?_
        refine XS.aloadN Xl.here hexec rfl (hb hbytes d10) rfl rfl ?_
        refine XS.iloadN Xl.here hexec rfl (hb hbytes d11) rfl ?_
        exact Steps.refl _)
      have c4 : Steps p.tables e below (s₁.setTop (entryFrame m #[.ref b, .int (Int32.ofNat o), .ref d, .int (Int32.ofNat q), .int (Int32.ofNat len)] 7)) (Tl.setTop (mkF m 13 #[.val (.ref b), .val (.int (Int32.ofNat (o + i))), .val (.ref d), .val (.int (Int32.ofNat (q + i))), .val (.int (Int32.ofNat len)), .val (.int (Int32.ofNat i)), z] [.int (cv A (o + i))])) := c3.trans (by
        refine Xl.aget hexec hAl rfl (hA.get (i := o + i) (by omega)) rfl rfl (hb hbytes d12) ?_
        exact Steps.refl _)
      have c5 : Steps p.tables e below (s₁.setTop (entryFrame m #[.ref b, .int (Int32.ofNat o), .ref d, .int (Int32.ofNat q), .int (Int32.ofNat len)] 7)) (Tl.setTop (mkF m 15 #[.val (.ref b), .val (.int (Int32.ofNat (o + i))), .val (.ref d), .val (.int (Int32.ofNat (q + i))), .val (.int (Int32.ofNat len)), .val (.int (Int32.ofNat i)), .val (.int (cv A (o + i)))] [])) := c4.trans (by
        refine XS.istoreS Xl.here hexec rfl (hb hbytes d13) rfl rfl hz ?_
        exact Steps.refl _)
      have c6 : Steps p.tables e below (s₁.setTop (entryFrame m #[.ref b, .int (Int32.ofNat o), .ref d, .int (Int32.ofNat q), .int (Int32.ofNat len)] 7)) (Tl.setTop (mkF m 31 #[.val (.ref b), .val (.int (Int32.ofNat (o + i))), .val (.ref d), .val (.int (Int32.ofNat (q + i))), .val (.int (Int32.ofNat len)), .val (.int (Int32.ofNat i)), .val (.int (cv A (o + i)))] [.int (lo8 (cv A (o + i))), .int (Int32.ofNat (q + i)), .ref d])) := c5.trans (by
        refine XS.iload Xl.here hexec rfl (hb hbytes d15) rfl ?_
        refine sipushV Xl.here hexec rfl 255 (hb hbytes d17) (by decide) ?_
        refine XS.icmpYes Xl.here hexec rfl (pc0 := 20) rfl (hb hbytes d20) rfl (ii_le_t (hp i (by omega))) (by decide) rfl ?_
        refine XS.aloadN Xl.here hexec rfl (hb hbytes d26) rfl rfl ?_
        refine XS.iloadN Xl.here hexec rfl (hb hbytes d27) rfl ?_
        refine XS.iload Xl.here hexec rfl (hb hbytes d28) rfl ?_
        refine i2b Xl.here hexec rfl (hb hbytes d30) rfl ?_
        exact Steps.refl _)
      obtain ⟨T7, X7, p7, st7⟩ := Xl.aput hexec hBk rfl hlt rfl (fits_lo8 (cv A (o + i))) (g := (mkF m 31 #[.val (.ref b), .val (.int (Int32.ofNat (o + i))), .val (.ref d), .val (.int (Int32.ofNat (q + i))), .val (.int (Int32.ofNat len)), .val (.int (Int32.ofNat i)), .val (.int (cv A (o + i)))] [.int (lo8 (cv A (o + i))), .int (Int32.ofNat (q + i)), .ref d])) rfl (rest := []) rfl (hb hbytes d31)
      have c8 : Steps p.tables e below (s₁.setTop (entryFrame m #[.ref b, .int (Int32.ofNat o), .ref d, .int (Int32.ofNat q), .int (Int32.ofNat len)] 7)) (T7.setTop (mkF m 32 #[.val (.ref b), .val (.int (Int32.ofNat (o + i))), .val (.ref d), .val (.int (Int32.ofNat (q + i))), .val (.int (Int32.ofNat len)), .val (.int (Int32.ofNat i)), .val (.int (cv A (o + i)))] [])) := c6.trans (st7 _ (Steps.refl _))
      have c9 : Steps p.tables e below (s₁.setTop (entryFrame m #[.ref b, .int (Int32.ofNat o), .ref d, .int (Int32.ofNat q), .int (Int32.ofNat len)] 7)) (T7.setTop (mkF m 3 #[.val (.ref b), .val (.int (Int32.ofNat (o + i) + 1)), .val (.ref d), .val (.int (Int32.ofNat (q + i) + 1)), .val (.int (Int32.ofNat len)), .val (.int (Int32.ofNat i + 1)), .val (.int (cv A (o + i)))] [])) := c8.trans (by
        refine iincV X7.here hexec rfl 1 (hb hbytes d32) (by decide) rfl rfl ?_
        refine iincV X7.here hexec rfl 1 (hb hbytes d35) (by decide) rfl rfl ?_
        refine iincV X7.here hexec rfl 1 (hb hbytes d38) (by decide) rfl rfl ?_
        refine XS.goto X7.here hexec rfl (pc0 := 41) rfl (hb hbytes d41) (by decide) rfl ?_
        exact Steps.refl _)
      have c10 : Steps p.tables e below (s₁.setTop (entryFrame m #[.ref b, .int (Int32.ofNat o), .ref d, .int (Int32.ofNat q), .int (Int32.ofNat len)] 7)) (T7.setTop (mkF m 3 #[.val (.ref b), .val (.int (Int32.ofNat (o + (i + 1)))), .val (.ref d), .val (.int (Int32.ofNat (q + (i + 1)))), .val (.int (Int32.ofNat len)), .val (.int (Int32.ofNat (i + 1))), .val (.int (cv A (o + i)))] [])) := by
        have := c9
        rw [succ32, succ32, succ32] at this
        exact this
      exact ih (i + 1) (by omega) _ (Or.inr ⟨_, rfl, rfl⟩) T7 _ (by rw [copyLocs_step, ← List.append_assoc]; exact X7) (pl.trans p7) (fl.step (by omega) hlt (by simp)) c10
  obtain ⟨T9, B9, z9, X9, p9, f9, g9⟩ := loop len 0 (by omega) .unset (Or.inl rfl) s₁ B (by simpa [copyLocs] using X0) ⟨hB0.1, fun _ _ => rfl, rfl⟩ (Laid.zero _ _ _) c2
  have c11 : Steps p.tables e below (s₁.setTop (entryFrame m #[.ref b, .int (Int32.ofNat o), .ref d, .int (Int32.ofNat q), .int (Int32.ofNat len)] 7)) (T9.setTop (mkF m 46 #[.val (.ref b), .val (.int (Int32.ofNat (o + len))), .val (.ref d), .val (.int (Int32.ofNat (q + len))), .val (.int (Int32.ofNat len)), .val (.int (Int32.ofNat len)), z9] [.int (Int32.ofNat len)])) := g9.trans (by
    refine XS.iload X9.here hexec rfl (hb hbytes d3) rfl ?_
    refine XS.iload X9.here hexec rfl (hb hbytes d5) rfl ?_
    refine XS.icmpYes X9.here hexec rfl (pc0 := 7) rfl (hb hbytes d7) rfl (ii_ge_t (nlt32 (by omega) (Nat.le_refl _))) (by decide) rfl ?_
    refine XS.iload X9.here hexec rfl (hb hbytes d44) rfl ?_
    exact Steps.refl _)
  exact ⟨T9, some (.int (Int32.ofNat len)), _, _, _, X9, by simp, rfl, rfl, (fun h => by cases h), ⟨rfl, B9, p9.from hh0, f9⟩, fun fs hl => c11.trans (X9.ireturnOut hexec hret rfl (Or.inl rfl) (hb hbytes d46) hl)⟩
end Cmp5
namespace Cmp3
def yN : MethodName := ⟨"java/lang/StringUTF16", "compress", "([CII)[B"⟩
abbrev yB : ByteArray := jdk_52_method_16_code
theorem d0 : decode yB 0 = .ok (.iload_n 2, 1) := by decide +kernel
theorem d1 : decode yB 1 = .ok (.newarray .byte, 2) := by decide +kernel
theorem d3 : decode yB 3 = .ok (.astore_n 3, 1) := by decide +kernel
theorem d4 : decode yB 4 = .ok (.aload_n 0, 1) := by decide +kernel
theorem d5 : decode yB 5 = .ok (.iload_n 1, 1) := by decide +kernel
theorem d6 : decode yB 6 = .ok (.aload_n 3, 1) := by decide +kernel
theorem d7 : decode yB 7 = .ok (.iconst 0, 1) := by decide +kernel
theorem d8 : decode yB 8 = .ok (.iload_n 2, 1) := by decide +kernel
theorem d9 : decode yB 9 = .ok (.invokestatic 115, 3) := by decide +kernel
theorem d12 : decode yB 12 = .ok (.istore 4, 2) := by decide +kernel
theorem d14 : decode yB 14 = .ok (.iload 4, 2) := by decide +kernel
theorem d16 : decode yB 16 = .ok (.iload_n 2, 1) := by decide +kernel
theorem d17 : decode yB 17 = .ok (.if_icmp (.eq) 40, 3) := by decide +kernel
theorem d57 : decode yB 57 = .ok (.aload_n 3, 1) := by decide +kernel
theorem d58 : decode yB 58 = .ok (.areturn, 1) := by decide +kernel
def site : List Cond := [.arrayClass .byte, Cmp5.tab] ++ staticW U16 115 Cmp5.yN
def tab : Cond := tabOf yN yB 6 (some (.array .byte)) site
def P (b : Addr) (A : Cell) (o len : Nat) (args : Array Value) (s : State) : Prop := args = #[.ref b, .int (Int32.ofNat o), .int (Int32.ofNat len)] ∧ Ch b A s ∧ o + len ≤ A.slots.size ∧ len ≤ 536870912 ∧ ∀ i, i < len → ¬ 255 < cv A (o + i)
def E (b : Addr) (A : Cell) (o len : Nat) (r : Option Value) (s u : State) : Prop := NewArr .byte "[B" len (fun j => .int (lo8 (cv A (o + j)))) r s u ∧ u.heap.size = s.heap.size + 1
/-- no char of the range above 255: a new byte[] of their low bytes -/
theorem law (l : Launch) (b : Addr) (A : Cell) (o len : Nat) : Law l yN 3 3 1 18 yB 6 (some (.array .byte)) site (P b A o len) (E b A o len) [] 1 len := by
  refine Law.of_walk (plainFor_of_name (by decide +kernel)) (by decide +kernel) (by decide +kernel) (by decide) (fun _ _ h => by rw [h.1]; rfl) (fun _ U U' hal hh h => ⟨h.1, h.2.1.mv hal hh, h.2.2⟩) (fun r U U' V V' h1 hal h2 h => ⟨NewArr.mv r U U' V V' h1 hal h2 h.1, by rw [h1, h2]; exact h.2⟩) ?_
  intro p e s m args below meth c s₁ X0 hexec hbytes hml hret hlk hnm hown hh0 W hP
  obtain ⟨rfl, hA, l1, l2, hp⟩ := hP
  have a31 := hA.1.2.2.2
  have c1 : Steps p.tables e below (s₁.setTop (entryFrame m #[.ref b, .int (Int32.ofNat o), .int (Int32.ofNat len)] 6)) (s₁.setTop (mkF m 0 #[.val (.ref b), .val (.int (Int32.ofNat o)), .val (.int (Int32.ofNat len)), .unset, .unset, .unset] [])) := entry rfl
  have c2 : Steps p.tables e below (s₁.setTop (entryFrame m #[.ref b, .int (Int32.ofNat o), .int (Int32.ofNat len)] 6)) (s₁.setTop (mkF m 1 #[.val (.ref b), .val (.int (Int32.ofNat o)), .val (.int (Int32.ofNat len)), .unset, .unset, .unset] [.int (Int32.ofNat len)])) := c1.trans (by
    refine XS.iloadN X0.here hexec rfl (hb hbytes d0) rfl ?_
    exact Steps.refl _)
  obtain ⟨T3, B3, X3, ba3, bs3, bv3, bh3, bf3, st3⟩ := X0.anew hexec (atype := .byte) (wk W (.arrayClass .byte)) rfl (by show len * 1 ≤ _; omega) (by omega) (g := (mkF m 1 #[.val (.ref b), .val (.int (Int32.ofNat o)), .val (.int (Int32.ofNat len)), .unset, .unset, .unset] [.int (Int32.ofNat len)])) rfl (hb hbytes d1) (rest := []) rfl (Nat.le_refl _) (by show 0 + len ≤ len; omega)
  rw [hh0] at ba3 st3
  have kp3 : XT.Kept s T3 := (XT.Kept.of_eq hh0).push bh3
  have hA3 := hA.keep X3.warmed.alike (kp3 _ _ hA.1.1)
  have hne : b ≠ s.heap.size := hA.1.ne
  have c4 : Steps p.tables e below (s₁.setTop (entryFrame m #[.ref b, .int (Int32.ofNat o), .int (Int32.ofNat len)] 6)) (T3.setTop (mkF m 3 #[.val (.ref b), .val (.int (Int32.ofNat o)), .val (.int (Int32.ofNat len)), .unset, .unset, .unset] [.ref s.heap.size])) := c2.trans (st3 _ (Steps.refl _))
  have c5 : Steps p.tables e below (s₁.setTop (entryFrame m #[.ref b, .int (Int32.ofNat o), .int (Int32.ofNat len)] 6)) (T3.setTop (mkF m 9 #[.val (.ref b), .val (.int (Int32.ofNat o)), .val (.int (Int32.ofNat len)), .val (.ref s.heap.size), .unset, .unset] [.int (Int32.ofNat len), .int 0, .ref s.heap.size, .int (Int32.ofNat o), .ref b])) := c4.trans (by
    refine XS.astoreN X3.here hexec rfl (hb hbytes d3) rfl rfl rfl ?_
    refine XS.aloadN X3.here hexec rfl (hb hbytes d4) rfl rfl ?_
    refine XS.iloadN X3.here hexec rfl (hb hbytes d5) rfl ?_
    refine XS.aloadN X3.here hexec rfl (hb hbytes d6) rfl rfl ?_
    refine iconstV X3.here hexec rfl 0 (hb hbytes d7) (by decide) ?_
    refine XS.iloadN X3.here hexec rfl (hb hbytes d8) rfl ?_
    exact Steps.refl _)
  obtain ⟨v6, T6, X6, E6, g6⟩ := X3.callS hexec (Cmp5.law l b A s.heap.size B3 o 0 len) hown (wks W (staticW U16 115 Cmp5.yN)) (wk W Cmp5.tab) (W := 0) (Nat.le_of_ble_eq_true rfl) (Nat.le_of_ble_eq_true rfl) (Nat.le_refl _) (by show 0 + len + 0 ≤ len; omega) (g := (mkF m 9 #[.val (.ref b), .val (.int (Int32.ofNat o)), .val (.int (Int32.ofNat len)), .val (.ref s.heap.size), .unset, .unset] [.int (Int32.ofNat len), .int (Int32.ofNat 0), .ref s.heap.size, .int (Int32.ofNat o), .ref b])) rfl (by rw [hml]; rfl) c5 (argsL := [.ref b, .int (Int32.ofNat o), .ref s.heap.size, .int (Int32.ofNat 0), .int (Int32.ofNat len)]) (rest := []) rfl rfl (by show 2 * 0 + 0 ≤ _; decide) (hb hbytes d9) (⟨rfl, hA3, ba3, hne, l1, by rw [bs3]; simp, hp⟩)
  obtain ⟨rfl, B6, p6, f6⟩ := E6
  have c7 : Steps p.tables e below (s₁.setTop (entryFrame m #[.ref b, .int (Int32.ofNat o), .int (Int32.ofNat len)] 6)) (T6.setTop (mkF m 12 #[.val (.ref b), .val (.int (Int32.ofNat o)), .val (.int (Int32.ofNat len)), .val (.ref s.heap.size), .unset, .unset] [.int (Int32.ofNat len)])) := g6
  have c8 : Steps p.tables e below (s₁.setTop (entryFrame m #[.ref b, .int (Int32.ofNat o), .int (Int32.ofNat len)] 6)) (T6.setTop (mkF m 58 #[.val (.ref b), .val (.int (Int32.ofNat o)), .val (.int (Int32.ofNat len)), .val (.ref s.heap.size), .val (.int (Int32.ofNat len)), .unset] [.ref s.heap.size])) := c7.trans (by
    refine XS.istore X6.here hexec rfl (hb hbytes d12) rfl rfl ?_
    refine XS.iload X6.here hexec rfl (hb hbytes d14) rfl ?_
    refine XS.iloadN X6.here hexec rfl (hb hbytes d16) rfl ?_
    refine XS.icmpYes X6.here hexec rfl (pc0 := 17) rfl (hb hbytes d17) rfl (ii_eq_t rfl) (by decide) rfl ?_
    refine XS.aloadN X6.here hexec rfl (hb hbytes d57) rfl rfl ?_
    exact Steps.refl _)
  have X8 := X6.wide (L' := []) (cells' := 1) (slots' := len) (fun x hx hlt => by
    simp only [List.nil_append, copyLocs, List.mem_map, List.mem_range] at hx
    obtain ⟨i, -, rfl⟩ := hx
    exact absurd hlt (Nat.lt_irrefl _)) (Nat.le_refl _) (by omega)
  exact ⟨T6, some (.ref s.heap.size), _, _, _, X8, rfl, rfl, rfl, (fun h => by cases h), ⟨⟨rfl, B6, ba3.like (X3.warmed.alike.symm.trans X6.warmed.alike) p6.1 f6.1 f6.2.1 f6.2.2.1, f6.2.1.trans bv3, by rw [X6.warmed.alike.findClass, f6.1]; exact bf3, by rw [f6.2.2.1, bs3]; simp, fun j hj => by rw [f6.2.2.2 j, if_pos (by omega)]; rfl, kp3.put p6 (Nat.le_refl _)⟩, by rw [p6.2.2, bh3, hh0]; simp⟩, fun fs hl => c8.trans (X8.areturnOut hexec rfl hret rfl (hb hbytes d58) hl)⟩
end Cmp3
namespace CodL
def yN : MethodName := ⟨"java/lang/StringUTF16", "coderFromArrayLen", "([BI)B"⟩
abbrev yB : ByteArray := jdk_52_method_15_code
theorem d0 : decode yB 0 = .ok (.iload_n 1, 1) := by decide +kernel
theorem d1 : decode yB 1 = .ok (.aload_n 0, 1) := by decide +kernel
theorem d2 : decode yB 2 = .ok (.arraylength, 1) := by decide +kernel
theorem d3 : decode yB 3 = .ok (.isub, 1) := by decide +kernel
theorem d4 : decode yB 4 = .ok (.bipush 31, 2) := by decide +kernel
theorem d6 : decode yB 6 = .ok (.iushr, 1) := by decide +kernel
theorem d7 : decode yB 7 = .ok (.i2b, 1) := by decide +kernel
theorem d8 : decode yB 8 = .ok (.ireturn, 1) := by decide +kernel
def site : List Cond := []
def tab : Cond := tabOf yN yB 2 (some .byte) site
def P (d : Addr) (B : Cell) (args : Array Value) (s : State) : Prop := args = #[.ref d, .int (Int32.ofNat B.slots.size)] ∧ Arr .byte d B s
def E (r : Option Value) (s u : State) : Prop := XT.PureE (some (.int 0)) r s u
/-- an array as long as the number of chars: LATIN1 -/
theorem law (l : Launch) (d : Addr) (B : Cell) : Law l yN 2 2 0 0 yB 2 (some .byte) site (P d B) E [] 0 0 := by
  refine Law.of_walk (plainFor_of_name (by decide +kernel)) (by decide +kernel) (by decide +kernel) (by decide) (fun _ _ h => by rw [h.1]; rfl) (fun _ U U' hal hh h => ⟨h.1, h.2.mv hal hh⟩) (fun r U U' V V' h1 hal h2 h => XT.PureE.mv r U U' V V' h1 hal h2 h) ?_
  intro p e s m args below meth c s₁ X0 hexec hbytes hml hret hlk hnm hown hh0 W hP
  obtain ⟨rfl, hB⟩ := hP
  have hB0 := hB.mv X0.warmed.alike hh0
  have c1 : Steps p.tables e below (s₁.setTop (entryFrame m #[.ref d, .int (Int32.ofNat B.slots.size)] 2)) (s₁.setTop (mkF m 0 #[.val (.ref d), .val (.int (Int32.ofNat B.slots.size))] [])) := entry rfl
  have c2 : Steps p.tables e below (s₁.setTop (entryFrame m #[.ref d, .int (Int32.ofNat B.slots.size)] 2)) (s₁.setTop (mkF m 2 #[.val (.ref d), .val (.int (Int32.ofNat B.slots.size))] [.ref d, .int (Int32.ofNat B.slots.size)])) := c1.trans (by
    refine XS.iloadN X0.here hexec rfl (hb hbytes d0) rfl ?_
    refine XS.aloadN X0.here hexec rfl (hb hbytes d1) rfl rfl ?_
    exact Steps.refl _)
  have c3 : Steps p.tables e below (s₁.setTop (entryFrame m #[.ref d, .int (Int32.ofNat B.slots.size)] 2)) (s₁.setTop (mkF m 8 #[.val (.ref d), .val (.int (Int32.ofNat B.slots.size))] [.int (lo8 (ushr (Int32.ofNat B.slots.size - Int32.ofNat B.slots.size) 31))])) := c2.trans (by
    refine X0.alen hexec hB0 rfl rfl (hb hbytes d2) ?_
    refine XS.isub X0.here hexec rfl (hb hbytes d3) rfl ?_
    refine bipushV X0.here hexec rfl 31 (hb hbytes d4) (by decide) ?_
    refine iushr X0.here hexec rfl (hb hbytes d6) rfl ?_
    refine i2b X0.here hexec rfl (hb hbytes d7) rfl ?_
    exact Steps.refl _)
  have e0 : lo8 (ushr (Int32.ofNat B.slots.size - Int32.ofNat B.slots.size) 31) = 0 := by rw [Int32.sub_self]; decide
  rw [e0] at c3
  exact ⟨s₁, some (.int 0), _, _, _, X0, rfl, rfl, rfl, (fun h => by cases h), ⟨rfl, hh0⟩, fun fs hl => c3.trans (X0.ireturnOut hexec hret rfl (Or.inr (Or.inr (Or.inl rfl))) (hb hbytes d8) hl)⟩
end CodL
/-- the String at a is Latin-1 over a new byte[] (the heap's one new cell): the low bytes of the len chars of A from o on; every cell but a is kept -/
def Got (a : Addr) (D : Cell) (fV fC : Field) (A : Cell) (o len : Nat) (r : Option Value) (s u : State) : Prop := r = none ∧ ∃ D' V : Cell, Blank "java/lang/String" a D' u ∧ Same D D' [fV.slot, fC.slot] ∧ D'.slots[fV.slot]? = some (.ref s.heap.size) ∧ D'.slots[fC.slot]? = some (.int 0) ∧ Arr .byte s.heap.size V u ∧ V.vm = .none ∧ u.vm.findClass "[B" = some V.cls ∧ V.slots.size = len ∧ (∀ j, j < len → V.slots[j]? = some (.int (lo8 (cv A (o + j))))) ∧ (∀ (y : Addr) (c : Cell), y ≠ a → s.heap[y]? = some c → u.heap[y]? = some c) ∧ u.heap.size = s.heap.size + 1
theorem Got.mv {a : Addr} {D A : Cell} {fV fC : Field} {o len : Nat} : ∀ r (U U' V V' : State), U'.heap = U.heap → V.vm.Alike V'.vm → V'.heap = V.heap → Got a D fV fC A o len r U V → Got a D fV fC A o len r U' V' :=
  fun r U U' V V' h1 hal h2 ⟨e0, D', X, a1, a2, a3, a4, a5, a6, a7, a8, a9, a10, a11⟩ => ⟨e0, D', X, a1.mv hal h2, a2, by rw [h1]; exact a3, a4, by rw [h1]; exact a5.mv hal h2, a6, by rw [hal.findClass]; exact a7, a8, a9, by rw [h1, h2]; exact a10, by rw [h1, h2]; exact a11⟩
namespace New4
def yN : MethodName := ⟨"java/lang/String", "<init>", "([CIILjava/lang/Void;)V"⟩
abbrev yB : ByteArray := jdk_42_method_149_code
theorem d0 : decode yB 0 = .ok (.aload_n 0, 1) := by decide +kernel
theorem d1 : decode yB 1 = .ok (.invokespecial 1, 3) := by decide +kernel
theorem d4 : decode yB 4 = .ok (.iload_n 3, 1) := by decide +kernel
theorem d5 : decode yB 5 = .ok (.ifCond (.ne) 22, 3) := by decide +kernel
theorem d27 : decode yB 27 = .ok (.getstatic 38, 3) := by decide +kernel
theorem d30 : decode yB 30 = .ok (.ifCond (.eq) 28, 3) := by decide +kernel
theorem d33 : decode yB 33 = .ok (.aload_n 1, 1) := by decide +kernel
theorem d34 : decode yB 34 = .ok (.iload_n 2, 1) := by decide +kernel
theorem d35 : decode yB 35 = .ok (.iload_n 3, 1) := by decide +kernel
theorem d36 : decode yB 36 = .ok (.invokestatic 177, 3) := by decide +kernel
theorem d39 : decode yB 39 = .ok (.astore 5, 2) := by decide +kernel
theorem d41 : decode yB 41 = .ok (.aload_n 0, 1) := by decide +kernel
theorem d42 : decode yB 42 = .ok (.aload 5, 2) := by decide +kernel
theorem d44 : decode yB 44 = .ok (.iload_n 3, 1) := by decide +kernel
theorem d45 : decode yB 45 = .ok (.invokestatic 47, 3) := by decide +kernel
theorem d48 : decode yB 48 = .ok (.putfield 15, 3) := by decide +kernel
theorem d51 : decode yB 51 = .ok (.aload_n 0, 1) := by decide +kernel
theorem d52 : decode yB 52 = .ok (.aload 5, 2) := by decide +kernel
theorem d54 : decode yB 54 = .ok (.putfield 9, 3) := by decide +kernel
theorem d57 : decode yB 57 = .ok (.return_, 1) := by decide +kernel
def site : List Cond := [.fieldLink "java/lang/String" 38 "java/lang/String" "COMPACT_STRINGS" "Z", Cmp3.tab, CodL.tab, .laysFinal "java/lang/String" "java/lang/String" "value" "[B", .fieldLink "java/lang/String" 9 "java/lang/String" "value" "[B", .laysFinal "java/lang/String" "java/lang/String" "coder" "B", .fieldLink "java/lang/String" 15 "java/lang/String" "coder" "B"] ++ objW "java/lang/String" 1 ++ staticW "java/lang/String" 177 Cmp3.yN ++ staticW "java/lang/String" 47 CodL.yN
def tab : Cond := tabOf yN yB 6 none site
def P (a : Addr) (D : Cell) (fV fC : Field) (b : Addr) (A : Cell) (z : Int32) (o len : Nat) (args : Array Value) (s : State) : Prop := args = #[.ref a, .ref b, .int (Int32.ofNat o), .int (Int32.ofNat len), .null] ∧ Blank "java/lang/String" a D s ∧ Found "java/lang/String" "value" "[B" fV s ∧ Found "java/lang/String" "coder" "B" fC s ∧ Ch b A s ∧ StaticIs s "java/lang/String" "COMPACT_STRINGS" "Z" (.int z) ∧ ¬ z = 0 ∧ 0 < len ∧ o + len ≤ A.slots.size ∧ len ≤ 536870912 ∧ ∀ i, i < len → ¬ 255 < cv A (o + i)
def E (a : Addr) (D : Cell) (fV fC : Field) (A : Cell) (o len : Nat) (r : Option Value) (s u : State) : Prop := Got a D fV fC A o len r s u
/-- len > 0, no char of the range above 255: a Latin-1 String of their low bytes -/
theorem law (l : Launch) (a : Addr) (D : Cell) (fV fC : Field) (b : Addr) (A : Cell) (z : Int32) (o len : Nat) : Law l yN 5 4 2 35 yB 6 none site (P a D fV fC b A z o len) (E a D fV fC A o len) [⟨a, fC.slot⟩, ⟨a, fV.slot⟩] 1 len := by
  refine Law.of_walk (plainFor_of_name (by decide +kernel)) (by decide +kernel) (by decide +kernel) (by decide) (fun _ _ h => by rw [h.1]; rfl) (fun _ U U' hal hh h => ⟨h.1, h.2.1.mv hal hh, h.2.2.1.al hal, h.2.2.2.1.al hal, h.2.2.2.2.1.mv hal hh, h.2.2.2.2.2.1.there hal hh, h.2.2.2.2.2.2⟩) (fun r U U' V V' h1 hal h2 h => Got.mv r U U' V V' h1 hal h2 h) ?_
  intro p e s m args below meth c s₁ X0 hexec hbytes hml hret hlk hnm hown hh0 W hP
  obtain ⟨rfl, hB, f1, f2, hA, s1, hz, l0, l1, l2, hp⟩ := hP
  have a31 := hA.1.2.2.2
  have c1 : Steps p.tables e below (s₁.setTop (entryFrame m #[.ref a, .ref b, .int (Int32.ofNat o), .int (Int32.ofNat len), .null] 6)) (s₁.setTop (mkF m 0 #[.val (.ref a), .val (.ref b), .val (.int (Int32.ofNat o)), .val (.int (Int32.ofNat len)), .val .null, .unset] [])) := entry rfl
  have c2 : Steps p.tables e below (s₁.setTop (entryFrame m #[.ref a, .ref b, .int (Int32.ofNat o), .int (Int32.ofNat len), .null] 6)) (s₁.setTop (mkF m 1 #[.val (.ref a), .val (.ref b), .val (.int (Int32.ofNat o)), .val (.int (Int32.ofNat len)), .val .null, .unset] [.ref a])) := c1.trans (by
    refine XS.aloadN X0.here hexec rfl (hb hbytes d0) rfl rfl ?_
    exact Steps.refl _)
  obtain ⟨T3, X3, q3, st3⟩ := X0.oinit hexec hown (wks W (objW "java/lang/String" 1)) (g := (mkF m 1 #[.val (.ref a), .val (.ref b), .val (.int (Int32.ofNat o)), .val (.int (Int32.ofNat len)), .val .null, .unset] [.ref a])) rfl (by rw [hml]; rfl) (rest := []) rfl (hb hbytes d1) (W := 0) (by show 2 * 0 + 0 ≤ _; decide) (Nat.le_of_ble_eq_true rfl) (Nat.le_of_ble_eq_true rfl)
  have hh3 := q3.trans hh0
  have c4 : Steps p.tables e below (s₁.setTop (entryFrame m #[.ref a, .ref b, .int (Int32.ofNat o), .int (Int32.ofNat len), .null] 6)) (T3.setTop (mkF m 27 #[.val (.ref a), .val (.ref b), .val (.int (Int32.ofNat o)), .val (.int (Int32.ofNat len)), .val .null, .unset] [])) := (c2.trans (st3 _ (Steps.refl _))).trans (by
    refine XS.iloadN X3.here hexec rfl (hb hbytes d4) rfl ?_
    refine XS.ifYes X3.here hexec rfl (pc0 := 5) rfl (hb hbytes d5) rfl (i0_ne_t (nz32 (by omega) l0)) (by decide) rfl ?_
    exact Steps.refl _)
  obtain ⟨T5, X5, q5, st5⟩ := X3.sget hexec hown (wk W (.fieldLink "java/lang/String" 38 "java/lang/String" "COMPACT_STRINGS" "Z")) s1 (fun _ _ h => by rw [hh3]; exact h) (g := (mkF m 27 #[.val (.ref a), .val (.ref b), .val (.int (Int32.ofNat o)), .val (.int (Int32.ofNat len)), .val .null, .unset] [])) rfl (hb hbytes d27)
  have hh5 := q5.trans hh3
  have c6 : Steps p.tables e below (s₁.setTop (entryFrame m #[.ref a, .ref b, .int (Int32.ofNat o), .int (Int32.ofNat len), .null] 6)) (T5.setTop (mkF m 30 #[.val (.ref a), .val (.ref b), .val (.int (Int32.ofNat o)), .val (.int (Int32.ofNat len)), .val .null, .unset] [.int z])) := c4.trans (st5 _ (Steps.refl _))
  have c7 : Steps p.tables e below (s₁.setTop (entryFrame m #[.ref a, .ref b, .int (Int32.ofNat o), .int (Int32.ofNat len), .null] 6)) (T5.setTop (mkF m 36 #[.val (.ref a), .val (.ref b), .val (.int (Int32.ofNat o)), .val (.int (Int32.ofNat len)), .val .null, .unset] [.int (Int32.ofNat len), .int (Int32.ofNat o), .ref b])) := c6.trans (by
    refine XS.ifNo X5.here hexec rfl (hb hbytes d30) rfl (i0_eq_f hz) ?_
    refine XS.aloadN X5.here hexec rfl (hb hbytes d33) rfl rfl ?_
    refine XS.iloadN X5.here hexec rfl (hb hbytes d34) rfl ?_
    refine XS.iloadN X5.here hexec rfl (hb hbytes d35) rfl ?_
    exact Steps.refl _)
  obtain ⟨v8, T8, X8, E8, g8⟩ := X5.callS hexec (Cmp3.law l b A o len) hown (wks W (staticW "java/lang/String" 177 Cmp3.yN)) (wk W Cmp3.tab) (W := 0) (Nat.le_of_ble_eq_true rfl) (Nat.le_of_ble_eq_true rfl) (Nat.le_refl _) (by show 0 + len ≤ len; omega) (g := (mkF m 36 #[.val (.ref a), .val (.ref b), .val (.int (Int32.ofNat o)), .val (.int (Int32.ofNat len)), .val .null, .unset] [.int (Int32.ofNat len), .int (Int32.ofNat o), .ref b])) rfl (by rw [hml]; rfl) c7 (argsL := [.ref b, .int (Int32.ofNat o), .int (Int32.ofNat len)]) (rest := []) rfl rfl (by show 2 * 0 + 0 ≤ _; decide) (hb hbytes d36) (⟨rfl, hA.mv X5.warmed.alike hh5, l1, l2, hp⟩)
  obtain ⟨e8, z8⟩ := E8
  obtain ⟨rfl, N, n1, n2, n3, n4, n5, n6⟩ := NewArr.mv _ T5 s _ _ hh5.symm (Vm.Alike.refl _) rfl e8
  rw [hh5] at z8
  have hB1 := hB.keep X8.warmed.alike (n6 _ _ hB.1)
  have hne : s.heap.size ≠ a := (Nat.ne_of_lt (Array.getElem?_eq_some_iff.mp hB.1).1).symm
  have c9 : Steps p.tables e below (s₁.setTop (entryFrame m #[.ref a, .ref b, .int (Int32.ofNat o), .int (Int32.ofNat len), .null] 6)) (T8.setTop (mkF m 39 #[.val (.ref a), .val (.ref b), .val (.int (Int32.ofNat o)), .val (.int (Int32.ofNat len)), .val .null, .unset] [.ref s.heap.size])) := g8
  have c10 : Steps p.tables e below (s₁.setTop (entryFrame m #[.ref a, .ref b, .int (Int32.ofNat o), .int (Int32.ofNat len), .null] 6)) (T8.setTop (mkF m 45 #[.val (.ref a), .val (.ref b), .val (.int (Int32.ofNat o)), .val (.int (Int32.ofNat len)), .val .null, .val (.ref s.heap.size)] [.int (Int32.ofNat N.slots.size), .ref s.heap.size, .ref a])) := by
    have hc : Steps p.tables e below (s₁.setTop (entryFrame m #[.ref a, .ref b, .int (Int32.ofNat o), .int (Int32.ofNat len), .null] 6)) (T8.setTop (mkF m 45 #[.val (.ref a), .val (.ref b), .val (.int (Int32.ofNat o)), .val (.int (Int32.ofNat len)), .val .null, .val (.ref s.heap.size)] [.int (Int32.ofNat len), .ref s.heap.size, .ref a])) := c9.trans (by
      refine XS.astore X8.here hexec rfl (hb hbytes d39) rfl rfl rfl ?_
      refine XS.aloadN X8.here hexec rfl (hb hbytes d41) rfl rfl ?_
      refine XS.aload X8.here hexec rfl (hb hbytes d42) rfl rfl ?_
      refine XS.iloadN X8.here hexec rfl (hb hbytes d44) rfl ?_
      exact Steps.refl _)
    rw [n4]; exact hc
  obtain ⟨v11, T11, X11, E11, g11⟩ := X8.callS hexec (CodL.law l s.heap.size N) hown (wks W (staticW "java/lang/String" 47 CodL.yN)) (wk W CodL.tab) (W := 1) (Nat.le_of_ble_eq_true rfl) (Nat.le_of_ble_eq_true rfl) (Nat.le_refl _) (by show 0 + len + 0 ≤ len; omega) (g := (mkF m 45 #[.val (.ref a), .val (.ref b), .val (.int (Int32.ofNat o)), .val (.int (Int32.ofNat len)), .val .null, .val (.ref s.heap.size)] [.int (Int32.ofNat N.slots.size), .ref s.heap.size, .ref a])) rfl (by rw [hml]; rfl) c10 (argsL := [.ref s.heap.size, .int (Int32.ofNat N.slots.size)]) (rest := [.ref a]) rfl rfl (by show 2 * 0 + (1 + 0) ≤ _; decide) (hb hbytes d45) (⟨rfl, n1⟩)
  obtain ⟨rfl, q11⟩ := E11
  have hB11 := hB1.mv (X8.warmed.alike.symm.trans X11.warmed.alike) q11
  have c12 : Steps p.tables e below (s₁.setTop (entryFrame m #[.ref a, .ref b, .int (Int32.ofNat o), .int (Int32.ofNat len), .null] 6)) (T11.setTop (mkF m 48 #[.val (.ref a), .val (.ref b), .val (.int (Int32.ofNat o)), .val (.int (Int32.ofNat len)), .val .null, .val (.ref s.heap.size)] [.int 0, .ref a])) := g11
  obtain ⟨T13, X13, p13, bl13, sl13, st13⟩ := X11.finit hexec hown (wk W (.fieldLink "java/lang/String" 15 "java/lang/String" "coder" "B")) (Or.inr ⟨_, (wk W (.laysFinal "java/lang/String" "java/lang/String" "coder" "B"))⟩) (Or.inl ⟨rfl, hnm⟩) f2 (Or.inl rfl) hB11 (t := .byte) (by decide +kernel) rfl (g := (mkF m 48 #[.val (.ref a), .val (.ref b), .val (.int (Int32.ofNat o)), .val (.int (Int32.ofNat len)), .val .null, .val (.ref s.heap.size)] [.int 0, .ref a])) rfl (rest := []) rfl (hb hbytes d48)
  have c14 : Steps p.tables e below (s₁.setTop (entryFrame m #[.ref a, .ref b, .int (Int32.ofNat o), .int (Int32.ofNat len), .null] 6)) (T13.setTop (mkF m 54 #[.val (.ref a), .val (.ref b), .val (.int (Int32.ofNat o)), .val (.int (Int32.ofNat len)), .val .null, .val (.ref s.heap.size)] [.ref s.heap.size, .ref a])) := (c12.trans (st13 _ (Steps.refl _))).trans (by
    refine XS.aloadN X13.here hexec rfl (hb hbytes d51) rfl rfl ?_
    refine XS.aload X13.here hexec rfl (hb hbytes d52) rfl rfl ?_
    exact Steps.refl _)
  obtain ⟨T15, X15, p15, bl15, sl15, st15⟩ := X13.finit hexec hown (wk W (.fieldLink "java/lang/String" 9 "java/lang/String" "value" "[B")) (Or.inr ⟨_, (wk W (.laysFinal "java/lang/String" "java/lang/String" "value" "[B"))⟩) (Or.inl ⟨rfl, hnm⟩) f1 (Or.inl rfl) bl13 (t := (.array .byte)) (by decide +kernel) rfl (g := (mkF m 54 #[.val (.ref a), .val (.ref b), .val (.int (Int32.ofNat o)), .val (.int (Int32.ofNat len)), .val .null, .val (.ref s.heap.size)] [.ref s.heap.size, .ref a])) rfl (rest := []) rfl (hb hbytes d54)
  have c16 : Steps p.tables e below (s₁.setTop (entryFrame m #[.ref a, .ref b, .int (Int32.ofNat o), .int (Int32.ofNat len), .null] 6)) (T15.setTop (mkF m 57 #[.val (.ref a), .val (.ref b), .val (.int (Int32.ofNat o)), .val (.int (Int32.ofNat len)), .val .null, .val (.ref s.heap.size)] [])) := c14.trans (st15 _ (Steps.refl _))
  have ap := apart (Or.inr ⟨_, (wk W (.laysFinal "java/lang/String" "java/lang/String" "value" "[B"))⟩) (Or.inr ⟨_, (wk W (.laysFinal "java/lang/String" "java/lang/String" "coder" "B"))⟩) f1 f2 (t₁ := .array .byte) (t₂ := .byte) (by decide +kernel) (by decide +kernel) (by decide)
  have al := X8.warmed.alike.symm.trans X15.warmed.alike
  have n7 : T11.heap[s.heap.size]? = some N := by rw [q11]; exact n1.1
  exact ⟨T15, none, _, _, _, X15, by simp, rfl, by omega, (fun _ => rfl), ⟨rfl, _, N, bl15, ((Same.refl D _).set _ (by simp)).set _ (by simp), sl15, (Cell.slots_setSlot_ne _ ap).trans sl13, n1.keep al (p15.other hne (p13.other hne n7)), n2, by rw [al.findClass]; exact n3, n4, n5, fun y c h1 h2 => p15.other h1 (p13.other h1 (by rw [q11]; exact n6 y c h2)), by rw [p15.2.2, p13.2.2, q11]; exact z8⟩, fun fs hl => c16.trans (X15.returnOut hexec hret (hb hbytes d57) hl)⟩
end New4
namespace New1
def yN : MethodName := ⟨"java/lang/String", "<init>", "([C)V"⟩
abbrev yB : ByteArray := jdk_42_method_3_code
theorem d0 : decode yB 0 = .ok (.aload_n 0, 1) := by decide +kernel
theorem d1 : decode yB 1 = .ok (.aload_n 1, 1) := by decide +kernel
theorem d2 : decode yB 2 = .ok (.iconst 0, 1) := by decide +kernel
theorem d3 : decode yB 3 = .ok (.aload_n 1, 1) := by decide +kernel
theorem d4 : decode yB 4 = .ok (.arraylength, 1) := by decide +kernel
theorem d5 : decode yB 5 = .ok (.aconst_null, 1) := by decide +kernel
theorem d6 : decode yB 6 = .ok (.invokespecial 27, 3) := by decide +kernel
theorem d9 : decode yB 9 = .ok (.return_, 1) := by decide +kernel
def site : List Cond := [New4.tab] ++ initW "java/lang/String" 27 New4.yN
def tab : Cond := tabOf yN yB 2 none site
def P (a : Addr) (D : Cell) (fV fC : Field) (b : Addr) (A : Cell) (z : Int32) (args : Array Value) (s : State) : Prop := args = #[.ref a, .ref b] ∧ Blank "java/lang/String" a D s ∧ Found "java/lang/String" "value" "[B" fV s ∧ Found "java/lang/String" "coder" "B" fC s ∧ Ch b A s ∧ StaticIs s "java/lang/String" "COMPACT_STRINGS" "Z" (.int z) ∧ ¬ z = 0 ∧ 0 < A.slots.size ∧ A.slots.size ≤ 536870912 ∧ ∀ i, i < A.slots.size → ¬ 255 < cv A i
def E (a : Addr) (D : Cell) (fV fC : Field) (A : Cell) (r : Option Value) (s u : State) : Prop := Got a D fV fC A 0 A.slots.size r s u
/-- new String(chars), not empty, no char above 255: a Latin-1 String of their low bytes -/
theorem law (l : Launch) (a : Addr) (D : Cell) (fV fC : Field) (b : Addr) (A : Cell) (z : Int32) : Law l yN 2 1 3 52 yB 2 none site (P a D fV fC b A z) (E a D fV fC A) [⟨a, fC.slot⟩, ⟨a, fV.slot⟩] 1 A.slots.size := by
  refine Law.of_walk (plainFor_of_name (by decide +kernel)) (by decide +kernel) (by decide +kernel) (by decide) (fun _ _ h => by rw [h.1]; rfl) (fun _ U U' hal hh h => ⟨h.1, h.2.1.mv hal hh, h.2.2.1.al hal, h.2.2.2.1.al hal, h.2.2.2.2.1.mv hal hh, h.2.2.2.2.2.1.there hal hh, h.2.2.2.2.2.2⟩) (fun r U U' V V' h1 hal h2 h => Got.mv r U U' V V' h1 hal h2 h) ?_
  intro p e s m args below meth c s₁ X0 hexec hbytes hml hret hlk hnm hown hh0 W hP
  obtain ⟨rfl, hB, f1, f2, hA, s1, hz, l0, l2, hp⟩ := hP
  have c1 : Steps p.tables e below (s₁.setTop (entryFrame m #[.ref a, .ref b] 2)) (s₁.setTop (mkF m 0 #[.val (.ref a), .val (.ref b)] [])) := entry rfl
  have c2 : Steps p.tables e below (s₁.setTop (entryFrame m #[.ref a, .ref b] 2)) (s₁.setTop (mkF m 6 #[.val (.ref a), .val (.ref b)] [.null, .int (Int32.ofNat A.slots.size), .int 0, .ref b, .ref a])) := c1.trans (by
    refine XS.aloadN X0.here hexec rfl (hb hbytes d0) rfl rfl ?_
    refine XS.aloadN X0.here hexec rfl (hb hbytes d1) rfl rfl ?_
    refine iconstV X0.here hexec rfl 0 (hb hbytes d2) (by decide) ?_
    refine XS.aloadN X0.here hexec rfl (hb hbytes d3) rfl rfl ?_
    refine X0.alen hexec (hA.1.mv X0.warmed.alike hh0) rfl rfl (hb hbytes d4) ?_
    refine XS.aconstNull X0.here hexec rfl (hb hbytes d5) ?_
    exact Steps.refl _)
  obtain ⟨v3, T3, X3, E3, g3⟩ := X0.callN hexec (New4.law l a D fV fC b A z 0 A.slots.size) rfl hown (wks W (initW "java/lang/String" 27 New4.yN)) (W New4.tab (by simp only [site, List.mem_cons, List.mem_append, true_or, or_true])) (W := 0) (Nat.le_of_ble_eq_true rfl) (Nat.le_of_ble_eq_true rfl) (Nat.le_refl _) (by show 0 + A.slots.size ≤ A.slots.size; omega) (g := (mkF m 6 #[.val (.ref a), .val (.ref b)] [.null, .int (Int32.ofNat A.slots.size), .int (Int32.ofNat 0), .ref b, .ref a])) rfl (by rw [hml]; rfl) c2 (argsL := [.ref b, .int (Int32.ofNat 0), .int (Int32.ofNat A.slots.size), .null]) (rest := []) rfl rfl (by show 2 * 0 + 0 ≤ _; decide) (hb hbytes d6) (⟨rfl, hB.mv X0.warmed.alike hh0, f1.al X0.warmed.alike, f2.al X0.warmed.alike, hA.mv X0.warmed.alike hh0, s1.there X0.warmed.alike hh0, hz, l0, by omega, l2, fun i hi => by rw [Nat.zero_add]; exact hp i hi⟩)
  have e0 := Got.mv _ s₁ s _ _ hh0.symm (Vm.Alike.refl _) rfl E3
  obtain rfl := e0.1
  have c4 : Steps p.tables e below (s₁.setTop (entryFrame m #[.ref a, .ref b] 2)) (T3.setTop (mkF m 9 #[.val (.ref a), .val (.ref b)] [])) := g3
  exact ⟨T3, none, _, _, _, X3, by simp, rfl, by omega, (fun _ => rfl), e0, fun fs hl => c4.trans (X3.returnOut hexec hret (hb hbytes d9) hl)⟩
theorem pays {l : Launch} {R : Room} {p : Program} {e : Env} {below : List Frame} {s : State} {sargs : Array Value} {len W : Nat} (a : Addr) (D : Cell) (fV fC : Field) (b : Addr) (A : Cell) (z : Int32) (htab : tab.before sargs s = true) (hfr : 4 ≤ R.frames) (hlo : W + 65 ≤ R.locals) :
    Back l R p e below s sargs yN len W (fun A₁ a₁ => A₁.cells + 1 ≤ R.cells ∧ A₁.slots + A.slots.size ≤ R.slots ∧ P a D fV fC b A z a₁ A₁.U) (fun A₁ _ v₁ B₁ => E a D fV fC A v₁ A₁.U B₁.U ∧ B₁.locs = A₁.locs ++ [⟨a, fC.slot⟩, ⟨a, fV.slot⟩] ∧ B₁.cells = A₁.cells + 1 ∧ B₁.slots = A₁.slots + A.slots.size) :=
  (law l a D fV fC b A z).pays htab hfr (by omega)
end New1
end StrChars
namespace StrChars.Road
open Jvm Sem ClassFile Op Lib Jvm.Stand Jvm.Free Jvm.Free.XT
open Jvm.Lib.Cold (StaticIs)
abbrev ST : String := "java/lang/String"
/-- every table word that New1's law asks, flat -/
abbrev words : List Jvm.Cond := [.code New1.yN New1.yB 2 none, .initialized ST, .methodLink ST 27 New4.yN, .instanceMethod New4.yN,
  .code New4.yN New4.yB 6 none, .fieldLink ST 38 ST "COMPACT_STRINGS" "Z", .laysFinal ST ST "value" "[B", .fieldLink ST 9 ST "value" "[B", .laysFinal ST ST "coder" "B", .fieldLink ST 15 ST "coder" "B",
  .methodLink ST 1 Lib.objectInit, .instanceMethod Lib.objectInit, .code Lib.objectInit ⟨#[0xb1]⟩ 1 none, .methodLink ST 177 Cmp3.yN, .static Cmp3.yN, .methodLink ST 47 CodL.yN, .static CodL.yN,
  .code Cmp3.yN Cmp3.yB 6 (some (.array .byte)), .initialized U16, .arrayClass .byte, .methodLink U16 115 Cmp5.yN, .static Cmp5.yN, .code Cmp5.yN Cmp5.yB 7 (some .int), .code CodL.yN CodL.yB 2 (some .byte)]
theorem tab_of {a : Array Value} {s : State} (h : ∀ w ∈ words, w.before a s = true) : New1.tab.before a s = true := by
  have h5 : Cmp5.tab.before a s = true := unparts (wk h (.code Cmp5.yN Cmp5.yB 7 (some .int))) (wks h (.initialized Cmp5.yN.cls :: Cmp5.site))
  have hc : CodL.tab.before a s = true := unparts (wk h (.code CodL.yN CodL.yB 2 (some .byte))) (wks h (.initialized CodL.yN.cls :: CodL.site))
  have q5 : ∀ w ∈ Cmp5.tab :: words, w.before a s = true := fun w hw => (List.mem_cons.mp hw).elim (fun e => e ▸ h5) (h w)
  have h3 : Cmp3.tab.before a s = true := unparts (wk q5 (.code Cmp3.yN Cmp3.yB 6 (some (.array .byte)))) (wks q5 (.initialized Cmp3.yN.cls :: Cmp3.site))
  have q3 : ∀ w ∈ Cmp3.tab :: CodL.tab :: words, w.before a s = true := fun w hw => (List.mem_cons.mp hw).elim (fun e => e ▸ h3) fun hw => (List.mem_cons.mp hw).elim (fun e => e ▸ hc) (h w)
  have h4 : New4.tab.before a s = true := unparts (wk q3 (.code New4.yN New4.yB 6 none)) (wks q3 (.initialized New4.yN.cls :: New4.site))
  have q4 : ∀ w ∈ New4.tab :: words, w.before a s = true := fun w hw => (List.mem_cons.mp hw).elim (fun e => e ▸ h4) (h w)
  exact unparts (wk q4 (.code New1.yN New1.yB 2 none)) (wks q4 (.initialized New1.yN.cls :: New1.site))
/-- the words ride from the start Z to the walk's own state -/
theorem moved {Z s : State} {a0 args : Array Value} (hZ : Z.Warmed39 s.vm) (hw : ∀ d ∈ words, d.before a0 Z = true) : ∀ d ∈ words, d.before args s = true := fun d hd => by
  have q := hw d hd
  have t : ∀ d ∈ words, d = .arrayClass .byte ∨ (d.onTables && d.keepsFace) = true := by decide +kernel
  rcases t d hd with rfl | t
  · exact RoadKit.mvA hZ q
  · exact RoadKit.mv hZ q t
/-- WHAT COMES BACK, over the tables of the start Z: h the heap at the call, h' behind it -/
def Q (Z : State) (x : Addr) (A : Cell) (h : Heap) (v : Option Value) (h' : Heap) (L : List Loc) : Prop := v = none ∧ (∀ y ∈ L, y.base = x) ∧ RoadKit.Keep h h' [x] ∧ h'.size = h.size + 1 ∧ RoadKit.Exa Z h' x ST ∧ RoadKit.Fld Z h' x ST "value" "[B" (.ref h.size) ∧ RoadKit.Fld Z h' x ST "coder" "B" (.int 0) ∧
  (∃ V : Cell, RoadKit.Arr Z h' h.size V .byte ∧ V.vm = .none ∧ Z.vm.findClass "[B" = some V.cls ∧ V.slots.size = A.slots.size ∧ ∀ j, j < A.slots.size → V.slots[j]? = some (.int (lo8 (cv A j)))) ∧
  ∀ (O n d : String) (w : Value), RoadKit.Fld Z h x O n d w → RoadKit.slotOf Z O n d ≠ RoadKit.slotOf Z ST "value" "[B" → RoadKit.slotOf Z O n d ≠ RoadKit.slotOf Z ST "coder" "B" → RoadKit.Fld Z h' x O n d w
/-- **new String(chars) AT A CALL, IN THE ROAD'S FORM**: for specialBack behind newO: x the fresh String, b the char[] with the cell A -/
theorem back {p : Program} {l : Launch} {e : Env} {R : Room} {s : State} {args : Array Value} {below : List Frame} {len W : Nat} {Z : State} {a0 : Array Value} {h : Heap} (hZ : Z.Warmed39 s.vm) (hw : ∀ d ∈ words, d.before a0 Z = true) {kI : Nat} (wi : (Jvm.Cond.instantiable ST kI).before a0 Z = true)
    {x b : Addr} {A : Cell} {z : Int32} {v0 c0 : Value} (E : RoadKit.Exa Z h x ST) (V : RoadKit.Fld Z h x ST "value" "[B" v0) (C : RoadKit.Fld Z h x ST "coder" "B" c0) (K : RoadKit.Arr Z h b A .char) (hty : Typed .char A) (S : RoadKit.Sta Z h ST "COMPACT_STRINGS" "Z" (.int z)) (hz : ¬ z = 0)
    (l0 : 0 < A.slots.size) (l2 : A.slots.size ≤ 536870912) (hp : ∀ i, i < A.slots.size → ¬ 255 < cv A i) (hfr : 4 ≤ R.frames) (hlo : W + 65 ≤ R.locals) :
    Back l R p e below s args New1.yN len W (fun P a => a = #[.ref x, .ref b] ∧ P.U.heap = h ∧ P.cells + 1 ≤ R.cells ∧ P.slots + A.slots.size ≤ R.slots)
      (fun P _ v B => ∃ L, Q Z x A h v B.U.heap L ∧ B.locs = P.locs ++ L ∧ B.cells = P.cells + 1 ∧ B.slots = P.slots + A.slots.size) := by
  intro m meth c P g ig mk a X hg hsize hdg hW hn hp'
  obtain ⟨rfl, rfl, r1, r2⟩ := hp'
  have al : Z.vm.Alike P.U.vm := hZ.alike.trans X.warmed.alike
  obtain ⟨D, cfV, kV, iV, fV, hD, gV, stV, knV, obV, asV, slV⟩ := id V
  obtain ⟨D', cfC, kC, iC, fC, hD', gC, stC, -, -, asC, slC⟩ := id C
  cases hD.symm.trans hD'
  obtain ⟨D2, kD, e1, e2, e3, e4, e5⟩ := id E
  cases hD.symm.trans e1
  obtain ⟨c2, k2, i1, i2, i3, -⟩ := Cond.instantiable_spec wi
  cases e2.symm.trans i1
  cases e3.symm.trans i2
  obtain ⟨kU, u1, u2⟩ := al.2.2 _ _ e3
  have hB : Blank ST x D P.U := ⟨hD, ⟨knV, fun q hq => by rw [hq] at obV; cases obV⟩, by rw [al.findClass]; exact e2, kU, u1, by rw [u2]; exact i3, by rw [u2]; exact e5 i3⟩
  have F1 : Found ST "value" "[B" fV P.U := ⟨SBG.found_only al ⟨cfV, kV, iV, gV⟩, stV⟩
  have F2 : Found ST "coder" "B" fC P.U := ⟨SBG.found_only al ⟨cfC, kC, iC, gC⟩, stC⟩
  have hA : Ch b A P.U := ⟨⟨K.1, State.isArrayOf_alike al K.2.1, K.2.2, by omega⟩, hty⟩
  have hS : StaticIs P.U ST "COMPACT_STRINGS" "Z" (.int z) := by
    obtain ⟨cfS, iS, kS, fS, st, cS, t1, t2, t3, t4, t5, t6, t7⟩ := S
    exact StaticIs.there (s := { Z with heap := P.U.heap }) ⟨cfS, iS, kS, fS, st, cS, t1, t2, t3, t4, t5, (fun q => by rw [q] at t6; cases t6), t7⟩ al rfl
  obtain ⟨v, B, X', ⟨⟨hv, E', V', q1, q2, q3, q4, q5, q6, q7, q8, q9, q10, q11⟩, hl, hc, hs⟩, st⟩ := New1.pays x D fV fC b A z (tab_of (moved hZ hw)) hfr hlo m meth c P g ig mk _ X hg hsize hdg hW hn ⟨r1, r2, rfl, hB, F1, F2, hA, hS, hz, l0, l2, hp⟩
  have al' : Z.vm.Alike B.U.vm := hZ.alike.trans X'.warmed.alike
  have hsz : E'.slots.size = D.slots.size := by
    obtain ⟨-, -, -, kB, w1, w2, w3⟩ := q1
    obtain ⟨kB', y1, y2⟩ := al'.2.2 _ _ e3
    rw [q2.2.1] at w1
    cases w1.symm.trans y1
    rw [w3, e5 i3, y2]
  refine ⟨v, B, X', ⟨_, ⟨hv, ?_, ⟨by omega, fun y cy hy hn' => q10 y cy (by simpa using hn') hy, fun y cy hy => ?_⟩, q11, ⟨E', _, q1.1, by rw [q2.2.1]; exact e2, by rw [q2.2.1]; exact e3, by rw [q2.1]; exact obV, fun _ => by rw [hsz]; exact e5 i3⟩,
    ⟨E', cfV, kV, iV, fV, q1.1, gV, stV, by rw [q2.1]; exact knV, by rw [q2.1]; exact obV, by rw [q2.2.1]; exact asV, q3⟩, ⟨E', cfC, kC, iC, fC, q1.1, gC, stC, by rw [q2.1]; exact knV, by rw [q2.1]; exact obV, by rw [q2.2.1]; exact asC, q4⟩,
    ⟨V', ⟨q5.1, State.isArrayOf_alike al'.symm q5.2.1, q5.2.2.1⟩, q6, by rw [← al'.findClass]; exact q7, q8, fun j hj => by have := q9 j hj; rwa [Nat.zero_add] at this⟩, fun O n d w F n1 n2 => ?_⟩, hl, hc, hs⟩, st⟩
  · intro y hy
    simp only [List.mem_cons, List.not_mem_nil, or_false] at hy
    rcases hy with rfl | rfl <;> rfl
  · by_cases q : y = x
    · subst q
      cases hD.symm.trans hy
      exact ⟨E', q1.1, q2.2.1, q2.1, hsz⟩
    · exact ⟨cy, q10 y cy q hy, rfl, rfl, rfl⟩
  · obtain ⟨D3, cf, k, i, f, g1, g2, g3, g4, g5, g6, g7⟩ := F
    cases hD.symm.trans g1
    simp only [RoadKit.slotOf, g2, gV, gC, Option.map_some, Option.getD_some] at n1 n2
    exact ⟨E', cf, k, i, f, q1.1, g2, g3, by rw [q2.1]; exact g4, by rw [q2.1]; exact g5, by rw [q2.2.1]; exact g6, by rw [q2.2.2 f.slot (by simp [n1, n2])]; exact g7⟩
end StrChars.Road
namespace StrChars.Road
open Jvm Sem ClassFile Op Lib Jvm.Stand Jvm.Free Jvm.Free.XT
/-- WHAT COMES BACK, the byte[] as a list of values -/
def QA (Z : State) (x : Addr) (zn : Int32) (cs : List Int32) (h : Heap) (v : Option Value) (h' : Heap) (L : List Loc) : Prop := v = none ∧ (∀ y ∈ L, y.base = x) ∧ RoadKit.Keep h h' [x] ∧ h'.size = h.size + 1 ∧ RoadKit.Exa Z h' x ST ∧ RoadKit.Fld Z h' x ST "value" "[B" (.ref h.size) ∧ RoadKit.Fld Z h' x ST "coder" "B" (.int 0) ∧
  (∃ kb, Z.vm.findClass "[B" = some kb ∧ RoadKit.Arv Z h' h.size kb .byte zn (cs.map fun c => .int (lo8 c)) (.int 0)) ∧
  ∀ (O n d : String) (w : Value), RoadKit.Fld Z h x O n d w → RoadKit.slotOf Z O n d ≠ RoadKit.slotOf Z ST "value" "[B" → RoadKit.slotOf Z O n d ≠ RoadKit.slotOf Z ST "coder" "B" → RoadKit.Fld Z h' x O n d w
/-- **new String(chars) AT A CALL, THE ARRAYS AS LISTS**: the char[] at b holds cs, not empty, no char above 255 -/
theorem backArv {p : Program} {l : Launch} {e : Env} {R : Room} {s : State} {args : Array Value} {below : List Frame} {len W : Nat} {Z : State} {a0 : Array Value} {h : Heap} (hZ : Z.Warmed39 s.vm) (hw : ∀ d ∈ words, d.before a0 Z = true) {kI : Nat} (wi : (Jvm.Cond.instantiable ST kI).before a0 Z = true)
    {x b : Addr} {k : ClassId} {zn z : Int32} {cs : List Int32} {dv v0 c0 : Value} (E : RoadKit.Exa Z h x ST) (V : RoadKit.Fld Z h x ST "value" "[B" v0) (C : RoadKit.Fld Z h x ST "coder" "B" c0) (K : RoadKit.Arv Z h b k .char zn (cs.map Value.int) dv) (S : RoadKit.Sta Z h ST "COMPACT_STRINGS" "Z" (.int z)) (hz : ¬ z = 0)
    (hlen : zn.toNatClampNeg = cs.length) (h0 : 0 < cs.length) (hbig : cs.length ≤ 536870912) (hall : ∀ c ∈ cs, ¬ 255 < c) (hfr : 4 ≤ R.frames) (hlo : W + 65 ≤ R.locals) :
    Back l R p e below s args New1.yN len W (fun P a => a = #[.ref x, .ref b] ∧ P.U.heap = h ∧ P.cells + 1 ≤ R.cells ∧ P.slots + cs.length ≤ R.slots)
      (fun P _ v B => ∃ L, QA Z x zn cs h v B.U.heap L ∧ B.locs = P.locs ++ L ∧ B.cells = P.cells + 1 ∧ B.slots = P.slots + cs.length) := by
  obtain ⟨A, K1, K2, K3, K4, K5, K6⟩ := K
  have e : A.slots.size = cs.length := K3.trans hlen
  have hat : ∀ (i : Nat) (hi : i < cs.length), A.slots[i]? = some (.int cs[i]) := fun i hi => by rw [K5 i (by omega)]; simp [List.getD_eq_getElem?_getD, hi]
  have hcv : ∀ (i : Nat) (hi : i < cs.length), cv A i = cs[i] := fun i hi => by unfold cv; rw [hat i hi]
  have hty : Typed .char A := fun i v hv => by
    have hi : i < A.slots.size := (Array.getElem?_eq_some_iff.mp hv).1
    have q := K5 i hi
    rw [hv] at q
    rw [Option.some.inj q]
    exact K6 i hi
  refine Back.mono (back hZ hw wi E V C K1 hty S hz (by omega) (by omega) (fun i hi => by rw [hcv i (by omega)]; exact hall _ (List.getElem_mem _)) hfr hlo) (fun P a hp => ⟨hp.1, hp.2.1, hp.2.2.1, by rw [e]; exact hp.2.2.2⟩) (fun P a v B hp hq => ?_)
  obtain ⟨L, ⟨q1, q2, q3, q4, q5, q6, q7, ⟨V', v1, v2, v3, v4, v5⟩, q9⟩, hl, hc, hs⟩ := hq
  refine ⟨L, ⟨q1, q2, q3, q4, q5, q6, q7, ⟨V'.cls, v3, V', v1, rfl, by rw [v4, e, hlen], K4, fun i hi => ?_, fun i hi => ?_⟩, q9⟩, hl, hc, by rw [hs, e]⟩
  · have hi' : i < cs.length := by omega
    rw [v5 i (by omega), hcv i hi']; simp [List.getD_eq_getElem?_getD, hi']
  · have hi' : i < cs.length := by omega
    simp only [List.getD_eq_getElem?_getD, List.getElem?_map, List.getElem?_eq_getElem hi', Option.map_some, Option.getD_some]
    exact fits_lo8 _
end StrChars.Road
namespace StrChars.Road
open Jvm Sem ClassFile Op Lib Jvm.Stand Jvm.Free Jvm.Free.XT
/-- WHAT COMES BACK, in the writer's own shape -/
def QV (Z : State) (x : Addr) (N : Int32) (bs : List Int32) (h : Heap) (n0 : Nat) (v : Option Value) (h' : Heap) (L : List Loc) : Prop := v = none ∧ RoadKit.Fr n0 L ∧ RoadKit.Keep h h' [x] ∧ RoadKit.Exa Z h' x ST ∧ RoadKit.Fld Z h' x ST "coder" "B" (.int 0) ∧
  ∃ (t : Addr) (kb : ClassId), n0 ≤ t ∧ h.size ≤ t ∧ ¬ t = x ∧ RoadKit.Fld Z h' x ST "value" "[B" (.ref t) ∧ RoadKit.Arv Z h' t kb .byte N (bs.map Value.int) (.int 0)
/-- **new String(chars) AT A CALL, FOR THE WRITER**: a char[] of n known ints, each 0 to 255 -/
theorem backV {p : Program} {l : Launch} {e : Env} {R : Room} {s : State} {args : Array Value} {below : List Frame} {len W : Nat} {Z : State} {a0 : Array Value} {h : Heap} (hZ : Z.Warmed39 s.vm) (hw : ∀ d ∈ words, d.before a0 Z = true) {kI : Nat} (wi : (Jvm.Cond.instantiable ST kI).before a0 Z = true)
    {x b : Addr} {kC : ClassId} {cs bs : List Int32} {d v0 c0 : Value} {z N : Int32} {n n0 : Nat} (hx0 : n0 ≤ x) (hh0 : n0 ≤ h.size) (E : RoadKit.Exa Z h x ST) (V : RoadKit.Fld Z h x ST "value" "[B" v0) (C : RoadKit.Fld Z h x ST "coder" "B" c0) (K : RoadKit.Arv Z h b kC .char N (cs.map Value.int) d) (S : RoadKit.Sta Z h ST "COMPACT_STRINGS" "Z" (.int z)) (hz : ¬ z = 0)
    (hn : cs.length = n) (hN : N = Int32.ofNat n) (l0 : 0 < n) (l2 : n ≤ 4000) (hp : ∀ c ∈ cs, ¬ c < 0 ∧ ¬ (255 : Int32) < c) (hb : bs = cs.map (fun c => c.toInt8.toInt32)) (hfr : 4 ≤ R.frames) (hlo : W + 65 ≤ R.locals) :
    Back l R p e below s args (⟨"java/lang/String", "<init>", "([C)V"⟩ : MethodName) len W (fun P a => a = #[.ref x, .ref b] ∧ P.U.heap = h ∧ P.cells + 1 ≤ R.cells ∧ P.slots + n ≤ R.slots)
      (fun P _ v B => ∃ L, QV Z x N bs h n0 v B.U.heap L ∧ B.locs = P.locs ++ L ∧ B.cells = P.cells + 1 ∧ B.slots = P.slots + n) := by
  subst hn hN hb
  refine Back.mono (backArv hZ hw wi E V C K S hz (n32 (by omega)) l0 (by omega) (fun c hc => (hp c hc).2) hfr hlo) (fun P a hp => hp) (fun P a v B hp hq => ?_)
  obtain ⟨L, ⟨q1, q2, q3, q4, q5, q6, q7, ⟨kb, v1, v2⟩, q9⟩, hl, hc, hs⟩ := hq
  exact ⟨L, ⟨q1, fun y hy => by rw [q2 y hy]; exact hx0, q3, q5, q7, h.size, kb, hh0, Nat.le_refl _, Nat.ne_of_gt E.lt, q6, by rw [List.map_map]; exact v2⟩, hl, hc, hs⟩
end StrChars.Road
end Jvm.Pilot.@@N@@

namespace Jvm.Pilot.@@N@@
open Jvm Jvm.ClassFile Sem Op Lib Jvm.Free Jvm.Stand Jvm.LawKit Jvm.RoadKit Bundle Jvm.Pilot.@@N@@.Jvm.D
open Jvm.Free.Fl (NoNaN64 Fin64 Nz64)
theorem own_and255 (x : Int32) : ¬ nar .char ((x &&& (255 : Int32)).toUInt32.toUInt16.toUInt32.toInt32) < 0 ∧ ¬ (255 : Int32) < nar .char ((x &&& (255 : Int32)).toUInt32.toUInt16.toUInt32.toInt32) := by
  have e : nar .char ((x &&& (255 : Int32)).toUInt32.toUInt16.toUInt32.toInt32) = x &&& 255 := by
    rw [i2c_mask]; exact i2c_mask x
  rw [e, Int32.lt_iff_toInt_lt, Int32.lt_iff_toInt_lt, show (0 : Int32).toInt = 0 from rfl, show (255 : Int32).toInt = 255 from rfl]
  have := c_and x 255 (by decide)
  rw [show (255 : Int32).toInt = 255 from rfl] at this
  omega
theorem own_d (b : Int32) : 1 ≤ ((b &&& (65535 : Int32)) + (1 : Int32)).toInt ∧ ((b &&& (65535 : Int32)) + (1 : Int32)).toInt ≤ 65536 := by
  have h := c_mask b 65535 16 (by decide) (by decide)
  have h2 := c_iadd (b &&& 65535) 1
  have h3 := rng32 ((b &&& (65535 : Int32)) + (1 : Int32))
  rw [h] at h2
  have : (1 : Int32).toInt = 1 := rfl
  omega
theorem own_d1 {d : Int32} (h : 1 ≤ d.toInt ∧ d.toInt ≤ 65536) : (d + (1 : Int32)).toInt = d.toInt + 1 := by
  have h2 := c_iadd d 1
  have h3 := rng32 (d + (1 : Int32))
  have : (1 : Int32).toInt = 1 := rfl
  omega
theorem own_dz {d : Int32} (h : 1 ≤ d.toInt ∧ d.toInt ≤ 65536) : ¬ (d + (1 : Int32) = (0 : Int32)) := fun q => by
  have := own_d1 h
  rw [q] at this
  have : (0 : Int32).toInt = 0 := rfl
  omega
theorem own_p {d : Int32} (h : 1 ≤ d.toInt ∧ d.toInt ≤ 65536) (a : Int32) : 0 ≤ ((a &&& (2147483647 : Int32)) % (d + (1 : Int32))).toInt ∧ ((a &&& (2147483647 : Int32)) % (d + (1 : Int32))).toInt ≤ d.toInt := by
  have h0 := (c_and a 2147483647 (by decide)).1
  have h1 := (c_irem (a &&& 2147483647) (d + 1) (d.toInt + 1) (own_d1 h)).1 h0
  have h2 := Int.emod_nonneg (a &&& (2147483647 : Int32)).toInt (show d.toInt + 1 ≠ 0 by omega)
  have h3 := Int.emod_lt_of_pos (a &&& (2147483647 : Int32)).toInt (show 0 < d.toInt + 1 by omega)
  omega
theorem own_kz {k : Int32} (h : 0 < k.toInt) : OwnFP.zm (FP.i2d k) ≠ 0 := fun q => by
  have e := (OwnFP.is_i2d k).zm
  rw [q] at e
  have := Int.mul_pos (a := (k.toInt.natAbs : Int)) (by omega) (OwnFP.U_pos 0)
  omega
theorem own_sg {k : Int32} (h : 0 ≤ k.toInt) : FP.Core.sgn (FP.Core.val64 (FP.i2d k)) = false := by
  obtain ⟨c, q, e⟩ := FP.Core.l2d_shape k.toInt64
  rw [show FP.i2d k = FP.Core.l2d k.toInt64 from FP.Core.i2d_l2d k, e]
  show decide (k.toInt64.toInt < 0) = false
  rw [c_i2l]; simp; omega
theorem own_prob {p d : Int32} (h0 : 0 ≤ p.toInt) (h1 : p.toInt ≤ d.toInt) (hd : 0 < d.toInt) : Fin64 (FP.ddiv (FP.i2d p) (FP.i2d d)) ∧ 0 ≤ OwnFP.zv (FP.ddiv (FP.i2d p) (FP.i2d d)) ∧ OwnFP.zv (FP.ddiv (FP.i2d p) (FP.i2d d)) ≤ OwnFP.zv (4607182418800017408 : UInt64) := by
  have hz := own_kz hd
  have fx := Fl.i2d_fin p
  have fy := Fl.i2d_fin d
  have e1 := (OwnFP.is_i2d p).zm; have e2 := (OwnFP.is_i2d d).zm; have e3 := OwnFP.is_one.zm
  have le : OwnFP.zm (FP.ddiv (FP.i2d p) (FP.i2d d)) ≤ OwnFP.zm (4607182418800017408 : UInt64) := by
    refine OwnFP.div_le fx fy hz OwnFP.fin_one.noNaN ?_
    have : ((OwnFP.zm (FP.i2d p) * FP.Core.one64 : Nat) : Int) ≤ ((OwnFP.zm (4607182418800017408 : UInt64) * OwnFP.zm (FP.i2d d) : Nat) : Int) := by
      rw [Int.natCast_mul, Int.natCast_mul, e1, e2, e3, ← OwnFP.U_zero]
      have u := OwnFP.U_pos 0
      have : (p.toInt.natAbs : Int) * OwnFP.U 0 ≤ (d.toInt.natAbs : Int) * OwnFP.U 0 := Int.mul_le_mul_of_nonneg_right (by omega) (by omega)
      have := Int.mul_le_mul_of_nonneg_right this (show 0 ≤ OwnFP.U 0 by omega)
      simpa [Int.mul_assoc, Int.mul_comm, Int.mul_left_comm] using this
    exact Int.ofNat_le.mp this
  have sg : FP.Core.sgn (FP.Core.val64 (FP.ddiv (FP.i2d p) (FP.i2d d))) = false := by rw [OwnFP.div_sgn fx fy hz, own_sg h0, own_sg (by omega)]; rfl
  have so : FP.Core.sgn (FP.Core.val64 (4607182418800017408 : UInt64)) = false := OwnFP.sgn_pos (by rw [OwnFP.is_one.2]; have := OwnFP.U_pos 0; omega)
  refine ⟨OwnFP.fin_of (OwnFP.div_nn fx fy hz) OwnFP.fin_one le, ?_, ?_⟩
  · rw [OwnFP.zv_of_pos sg]; omega
  · rw [OwnFP.zv_of_pos sg, OwnFP.zv_of_pos so]; omega
theorem own_idx (q : Int64) : 0 ≤ OwnFP.zv (FP.l2d (q &&& (9223372036854775807 : Int64))) := by
  obtain ⟨c, r, e⟩ := FP.Core.l2d_shape (q &&& 9223372036854775807)
  refine Int.le_trans ?_ (Int.le_of_eq (OwnFP.zv_of_pos ?_).symm)
  · omega
  · show FP.Core.sgn (FP.Core.val64 (FP.Core.l2d _)) = false
    rw [e]; show decide ((q &&& (9223372036854775807 : Int64)).toInt < 0) = false
    rw [c_maskL q 9223372036854775807 63 (by decide) (by decide)]
    have := Int.emod_nonneg q.toInt (show (((2 ^ 63 : Nat) : Int)) ≠ 0 by decide)
    simp; omega
theorem ef_isfin (m : MethodId) (d1 : UInt64) : entryFrame m #[(.double d1)] 2 = mkF m 0 #[.val (.double d1), .second] [] := by first | (simp [entryFrame, mkF, argsToLocals, Value.category]; done) | rfl
theorem d8_0 : decode jdk_117_method_8_code 0 = .ok (.dload_n 0, 1) := by decide +kernel
theorem d8_1 : decode jdk_117_method_8_code 1 = .ok (.invokestatic 38, 3) := by decide +kernel
theorem pd__28D_29D : parseMethodDescriptor "(D)D" = some ⟨[.double], some .double⟩ := by decide +kernel
theorem d8_4 : decode jdk_117_method_8_code 4 = .ok (.ldc2_w 111, 3) := by decide +kernel
theorem d8_7 : decode jdk_117_method_8_code 7 = .ok (.dcmp .g, 1) := by decide +kernel
theorem d8_8 : decode jdk_117_method_8_code 8 = .ok (.ifCond .gt 7, 3) := by decide +kernel
theorem d8_11 : decode jdk_117_method_8_code 11 = .ok (.iconst 1, 1) := by decide +kernel
theorem d8_12 : decode jdk_117_method_8_code 12 = .ok (.goto 4, 3) := by decide +kernel
theorem d8_16 : decode jdk_117_method_8_code 16 = .ok (.ireturn, 1) := by decide +kernel
theorem pn_java_lang_Double : plainName "java/lang/Double" = true := by first | (simp [plainName, overriddenIn]; done) | decide +kernel
def Qisfin (Z : State) (d1 : UInt64) (h0 : Heap) (n0 : Nat) (v : Option Value) (h : Heap) (L : List Loc) : Prop := v = some (.int (1 : Int32)) ∧ Fr n0 L ∧ h = h0
set_option maxRecDepth 65536 in
set_option maxHeartbeats 40000000 in
theorem rmisfin (l : Launch) (Z : State) (a0 : Array Value) (hw : ∀ d ∈ tables_1, d.before a0 Z = true) (ws : List Jvm.Cond) (d1 : UInt64) (h0 : Heap) (n0 : Nat) (Z0 : n0 ≤ h0.size) (hfin : Fin64 d1) :
    MetFree l (⟨"java/lang/Double", "isFinite", "(D)Z"⟩ : MethodName) (head1 (Jvm.Cond.code (⟨"java/lang/Double", "isFinite", "(D)Z"⟩ : MethodName) jdk_117_method_8_code 2 (some .boolean) :: ws) ({ frames := 1, cells := 0, slots := 0, locals := 13 } : Room)) (fun a U => a = #[(.double d1)] ∧ Z.Warmed39 U.vm ∧ U.heap = h0) (fun _ _ _ _ _ => True) (fun _ U o U' => ∃ v L, o = .returned v ∧ Qisfin Z d1 h0 n0 v U'.heap L ∧ FrameEnd U o U' L ({ frames := 1, cells := 0, slots := 0, locals := 13 } : Room).cells ({ frames := 1, cells := 0, slots := 0, locals := 13 } : Room).slots) := by
  refine MetFree.of_bodySF (plainFor_of_name pn_java_lang_Double) hisR ?_
  intro p e s m args below meth c s₁ Bd hml0 hP hK
  obtain ⟨rfl, hZ, hh⟩ := hP
  have hx := Bd.exec
  have hby := Bd.bytes
  have hml : c.maxLocals = 2 := hml0
  have hown : s.vm.findClass "java/lang/Double" = some m.cls := findClass_of_methodNamed Bd.named
  have hnm := (name_of_methodNamed Bd.named Bd.method).1
  have X0 : Stand p l e ({ frames := 1, cells := 0, slots := 0, locals := 13 } : Room) s m #[(.double d1)] below meth c s₁ [] 0 0 := Stand.of_body Bd
  have e0 : s₁.heap = h0 := by rw [← hh, Bd.state]; rfl
  have N0 := Fr.nil n0
  have pre0 : ∀ t, Steps p.tables e below (s₁.setTop (mkF m 0 #[.val (.double d1), .second] [])) t → Steps p.tables e below (s₁.setTop (entryFrame m #[(.double d1)] 2)) t := fun t k => castTop (ef_isfin m d1) k
  obtain ⟨T1, X1, e1, st1⟩ := natS X0 hx hZ hown (hw _ (List.mem_of_getElem? (i := 41) rfl)) (hw _ (List.mem_of_getElem? (i := 42) rfl)) (hw _ (List.mem_of_getElem? (i := 43) rfl)) (hw _ (List.mem_of_getElem? (i := 44) rfl)) (by decide) e0 (W := 0) (F := fun a' => a' = #[(.double d1)] ∧ NoNaN64 d1) (val' := (.double (d1 &&& 0x7fffffffffffffff))) (fun hc => Jvm.Free.Fl.Abs.absD_pays d1 hc (by decide) (by decide)) (g := (mkF m 1 #[.val (.double d1), .second] [(.double d1)])) rfl (by rw [hml]; rfl) (argsL := [(.double d1)]) (rest := []) (lenOf pd__28D_29D rfl) rfl (by show 2 * 0 + _ ≤ _; exact Nat.le_of_eq rfl) (hb hby d8_1) (by decide) (by decide) ⟨rfl, hfin.noNaN⟩ rfl
  have pre2 : ∀ t, Steps p.tables e below (T1.setTop (mkF m 16 #[.val (.double d1), .second] [(.int (1 : Int32))])) t → Steps p.tables e below (s₁.setTop (entryFrame m #[(.double d1)] 2)) t := fun t kt => pre0 t (by
      show Steps p.tables e below (s₁.setTop (mkF m 0 #[.val (.double d1), .second] [])) _
      refine XS.dloadN X0.here hx rfl (hb hby d8_0) rfl ?_
      show Steps p.tables e below (s₁.setTop (mkF m 1 #[.val (.double d1), .second] [(.double d1)])) _
      refine st1 _ ?_
      show Steps p.tables e below (T1.setTop (mkF m 4 #[.val (.double d1), .second] [(.double (d1 &&& 0x7fffffffffffffff))])) _
      refine X1.ldc2DoubleC hx hown (mvT hZ (hw _ (List.mem_of_getElem? (i := 45) rfl))) (g := (mkF m 4 #[.val (.double d1), .second] [(.double (d1 &&& 0x7fffffffffffffff))])) rfl (hb hby d8_4) _ ?_
      show Steps p.tables e below (T1.setTop (mkF m 7 #[.val (.double d1), .second] [(.double (9218868437227405311 : UInt64)), (.double (d1 &&& 0x7fffffffffffffff))])) _
      refine XS.dcmpS X1.here hx rfl (hb hby d8_7) rfl (v := (cmpValue (FP.dcmp (d1 &&& 0x7fffffffffffffff) (9218868437227405311 : UInt64)) .g)) rfl ?_
      show Steps p.tables e below (T1.setTop (mkF m 8 #[.val (.double d1), .second] [(.int (cmpValue (FP.dcmp (d1 &&& 0x7fffffffffffffff) (9218868437227405311 : UInt64)) .g))])) _
      refine XS.ifNo X1.here hx rfl (hb hby d8_8) rfl ((if0 _ _).trans (flt (OwnFP.abs_le_max hfin : ¬ ((0 : Int32) < (cmpValue (FP.dcmp (d1 &&& 0x7fffffffffffffff) (9218868437227405311 : UInt64)) .g)))).2.2.1) ?_
      show Steps p.tables e below (T1.setTop (mkF m 11 #[.val (.double d1), .second] [])) _
      refine XS.iconst X1.here hx rfl (hb hby d8_11) ?_
      show Steps p.tables e below (T1.setTop (mkF m 12 #[.val (.double d1), .second] [(.int (1 : Int32))])) _
      refine XS.goto X1.here hx rfl (pc0 := 12) (pc' := 16) rfl (hb hby d8_12) (by decide) (by decide) ?_
      exact kt)
  obtain ⟨fs, hr, hrun, hended, hW, hsame⟩ := X1.leave (v := some (.int (1 : Int32))) (fun h => by rw [Bd.returns] at h; cases h)
  refine ⟨_, _, pre2 _ ?_, hrun, hended, _, _, rfl, ?_, ⟨_, rfl⟩, hW, hsame.mono (by decide) (by decide)⟩
  · show Steps p.tables e below (T1.setTop (mkF m 16 #[.val (.double d1), .second] [(.int (1 : Int32))])) _
    exact retN X1 hx (t := .boolean) Bd.returns (by simp) (hb hby d8_16) hr
  · show Qisfin Z d1 h0 n0 _ T1.heap _
    rw [e1]
    exact ⟨rfl, N0, rfl⟩
theorem ef_chk (m : MethodId) (a1 : Addr) (d1 : UInt64) (d2 : UInt64) : entryFrame m #[(.ref a1), (.double d1), (.double d2)] 5 = mkF m 0 #[.val (.ref a1), .val (.double d1), .second, .val (.double d2), .second] [] := by first | (simp [entryFrame, mkF, argsToLocals, Value.category]; done) | rfl
theorem d7_0 : decode prog_52_method_3_code 0 = .ok (.dconst 0, 1) := by decide +kernel
theorem d7_1 : decode prog_52_method_3_code 1 = .ok (.dload_n 1, 1) := by decide +kernel
theorem d7_2 : decode prog_52_method_3_code 2 = .ok (.dcmp .g, 1) := by decide +kernel
theorem d7_3 : decode prog_52_method_3_code 3 = .ok (.ifCond .gt 9, 3) := by decide +kernel
theorem d7_6 : decode prog_52_method_3_code 6 = .ok (.dload_n 1, 1) := by decide +kernel
theorem d7_7 : decode prog_52_method_3_code 7 = .ok (.dconst 1, 1) := by decide +kernel
theorem d7_8 : decode prog_52_method_3_code 8 = .ok (.dcmp .g, 1) := by decide +kernel
theorem d7_9 : decode prog_52_method_3_code 9 = .ok (.ifCond .le 18, 3) := by decide +kernel
theorem d7_27 : decode prog_52_method_3_code 27 = .ok (.dload_n 3, 1) := by decide +kernel
theorem d7_28 : decode prog_52_method_3_code 28 = .ok (.dconst 0, 1) := by decide +kernel
theorem d7_29 : decode prog_52_method_3_code 29 = .ok (.dcmp .l, 1) := by decide +kernel
theorem d7_30 : decode prog_52_method_3_code 30 = .ok (.ifCond .lt 10, 3) := by decide +kernel
theorem d7_33 : decode prog_52_method_3_code 33 = .ok (.dload_n 3, 1) := by decide +kernel
theorem pd__28D_29Z : parseMethodDescriptor "(D)Z" = some ⟨[.double], some .boolean⟩ := by decide +kernel
theorem d7_34 : decode prog_52_method_3_code 34 = .ok (.invokestatic 25, 3) := by decide +kernel
theorem d7_37 : decode prog_52_method_3_code 37 = .ok (.ifCond .ne 18, 3) := by decide +kernel
theorem d7_55 : decode prog_52_method_3_code 55 = .ok (.return_, 1) := by decide +kernel
theorem pn_com_example_manyfront_manyfront_variation_Checks : plainName "com/example/manyfront/manyfront/variation/Checks" = true := by first | (simp [plainName, overriddenIn]; done) | decide +kernel
def Qchk (Z : State) (a1 : Addr) (d1 : UInt64) (d2 : UInt64) (h0 : Heap) (n0 : Nat) (v : Option Value) (h : Heap) (L : List Loc) : Prop := v = none ∧ Fr n0 L ∧ h = h0
set_option maxRecDepth 65536 in
set_option maxHeartbeats 40000000 in
theorem rmchk (l : Launch) (Z : State) (a0 : Array Value) (hw : ∀ d ∈ tables_1, d.before a0 Z = true) (ws : List Jvm.Cond) (a1 : Addr) (d1 : UInt64) (d2 : UInt64) (h0 : Heap) (n0 : Nat) (Z0 : n0 ≤ h0.size) (hf1 : Fin64 d1) (hz0 : 0 ≤ OwnFP.zv d1) (hz1 : OwnFP.zv d1 ≤ OwnFP.zv (4607182418800017408 : UInt64)) (hf2 : Fin64 d2) (hz2 : 0 ≤ OwnFP.zv d2) :
    MetFree l (⟨"com/example/manyfront/manyfront/variation/Checks", "requireProbabilityAndIndex", "(Ljava/lang/String;DD)V"⟩ : MethodName) (head1 (Jvm.Cond.code (⟨"com/example/manyfront/manyfront/variation/Checks", "requireProbabilityAndIndex", "(Ljava/lang/String;DD)V"⟩ : MethodName) prog_52_method_3_code 5 none :: ws) ({ frames := 2, cells := 0, slots := 0, locals := 26 } : Room)) (fun a U => a = #[(.ref a1), (.double d1), (.double d2)] ∧ Z.Warmed39 U.vm ∧ U.heap = h0) (fun _ _ _ _ _ => True) (fun _ U o U' => ∃ v L, o = .returned v ∧ Qchk Z a1 d1 d2 h0 n0 v U'.heap L ∧ FrameEnd U o U' L ({ frames := 2, cells := 0, slots := 0, locals := 26 } : Room).cells ({ frames := 2, cells := 0, slots := 0, locals := 26 } : Room).slots) := by
  refine MetFree.of_bodySF (plainFor_of_name pn_com_example_manyfront_manyfront_variation_Checks) hisR ?_
  intro p e s m args below meth c s₁ Bd hml0 hP hK
  obtain ⟨rfl, hZ, hh⟩ := hP
  have hx := Bd.exec
  have hby := Bd.bytes
  have hml : c.maxLocals = 5 := hml0
  have hown : s.vm.findClass "com/example/manyfront/manyfront/variation/Checks" = some m.cls := findClass_of_methodNamed Bd.named
  have hnm := (name_of_methodNamed Bd.named Bd.method).1
  have X0 : Stand p l e ({ frames := 2, cells := 0, slots := 0, locals := 26 } : Room) s m #[(.ref a1), (.double d1), (.double d2)] below meth c s₁ [] 0 0 := Stand.of_body Bd
  have e0 : s₁.heap = h0 := by rw [← hh, Bd.state]; rfl
  have N0 := Fr.nil n0
  have pre0 : ∀ t, Steps p.tables e below (s₁.setTop (mkF m 0 #[.val (.ref a1), .val (.double d1), .second, .val (.double d2), .second] [])) t → Steps p.tables e below (s₁.setTop (entryFrame m #[(.ref a1), (.double d1), (.double d2)] 5)) t := fun t k => castTop (ef_chk m a1 d1 d2) k
  obtain ⟨_, _, ⟨T1, L1, kk1, nn1⟩, -, X1, ⟨Lc1, hQ1, l1, y1, z1⟩, st1⟩ := Jvm.LawKit.callS X0 hx (y := (⟨"java/lang/Double", "isFinite", "(D)Z"⟩ : MethodName)) hown (mvT hZ (hw _ (List.mem_of_getElem? (i := 37) rfl))) (mvT hZ (hw _ (List.mem_of_getElem? (i := 38) rfl))) (mvT hZ (hw _ (List.mem_of_getElem? (i := 39) rfl))) (mvT hZ (hw _ (List.mem_of_getElem? (i := 40) rfl))) (by decide) (backOf (W := 0) (rmisfin l Z a0 hw [] d2 h0 n0 Z0 (hf2)) hZ (hw _ (List.mem_of_getElem? (i := 40) rfl)) (hw _ (List.mem_of_getElem? (i := 39) rfl)) (by decide) (by decide)) (g := (mkF m 34 #[.val (.ref a1), .val (.double d1), .second, .val (.double d2), .second] [(.double d2)])) rfl (by rw [hml]; rfl) (argsL := [(.double d2)]) (rest := []) (lenOf pd__28D_29Z rfl) rfl (by show 2 * 0 + _ ≤ _; exact Nat.le_of_eq rfl) (hb hby d7_34) (fun _ _ => ⟨rfl, e0, (by decide : 0 + 0 ≤ _), (by decide : 0 + 0 ≤ _)⟩)
  dsimp only [Pt.U, Pt.locs, Pt.cells, Pt.slots] at X1 l1 y1 z1 st1 hQ1
  subst l1 y1 z1
  obtain ⟨rfl, N1q, e1⟩ := hQ1
  have N1 := Fr.app N0 N1q
  have pre2 : ∀ t, Steps p.tables e below (T1.setTop (mkF m 55 #[.val (.ref a1), .val (.double d1), .second, .val (.double d2), .second] [])) t → Steps p.tables e below (s₁.setTop (entryFrame m #[(.ref a1), (.double d1), (.double d2)] 5)) t := fun t kt => pre0 t (by
      show Steps p.tables e below (s₁.setTop (mkF m 0 #[.val (.ref a1), .val (.double d1), .second, .val (.double d2), .second] [])) _
      refine XS.dconst0 X0.here hx rfl (hb hby d7_0) (v := (0 : UInt64)) rfl ?_
      show Steps p.tables e below (s₁.setTop (mkF m 1 #[.val (.ref a1), .val (.double d1), .second, .val (.double d2), .second] [(.double (0 : UInt64))])) _
      refine XS.dloadN X0.here hx rfl (hb hby d7_1) rfl ?_
      show Steps p.tables e below (s₁.setTop (mkF m 2 #[.val (.ref a1), .val (.double d1), .second, .val (.double d2), .second] [(.double d1), (.double (0 : UInt64))])) _
      refine XS.dcmpS X0.here hx rfl (hb hby d7_2) rfl (v := (cmpValue (FP.dcmp (0 : UInt64) d1) .g)) rfl ?_
      show Steps p.tables e below (s₁.setTop (mkF m 3 #[.val (.ref a1), .val (.double d1), .second, .val (.double d2), .second] [(.int (cmpValue (FP.dcmp (0 : UInt64) d1) .g))])) _
      refine XS.ifNo X0.here hx rfl (hb hby d7_3) rfl ((if0 _ _).trans (flt (OwnFP.cv_le OwnFP.fin_zero.noNaN hf1.noNaN (by rw [OwnFP.zv_zero]; exact hz0) .g : ¬ ((0 : Int32) < (cmpValue (FP.dcmp (0 : UInt64) d1) .g)))).2.2.1) ?_
      show Steps p.tables e below (s₁.setTop (mkF m 6 #[.val (.ref a1), .val (.double d1), .second, .val (.double d2), .second] [])) _
      refine XS.dloadN X0.here hx rfl (hb hby d7_6) rfl ?_
      show Steps p.tables e below (s₁.setTop (mkF m 7 #[.val (.ref a1), .val (.double d1), .second, .val (.double d2), .second] [(.double d1)])) _
      refine XS.dconst1 X0.here hx rfl (hb hby d7_7) (v := (4607182418800017408 : UInt64)) rfl ?_
      show Steps p.tables e below (s₁.setTop (mkF m 8 #[.val (.ref a1), .val (.double d1), .second, .val (.double d2), .second] [(.double (4607182418800017408 : UInt64)), (.double d1)])) _
      refine XS.dcmpS X0.here hx rfl (hb hby d7_8) rfl (v := (cmpValue (FP.dcmp d1 (4607182418800017408 : UInt64)) .g)) rfl ?_
      show Steps p.tables e below (s₁.setTop (mkF m 9 #[.val (.ref a1), .val (.double d1), .second, .val (.double d2), .second] [(.int (cmpValue (FP.dcmp d1 (4607182418800017408 : UInt64)) .g))])) _
      refine XS.ifYes X0.here hx rfl (pc0 := 9) (pc' := 27) rfl (hb hby d7_9) rfl ((if0 _ _).trans (flt (OwnFP.cv_le hf1.noNaN OwnFP.fin_one.noNaN hz1 .g : ¬ ((0 : Int32) < (cmpValue (FP.dcmp d1 (4607182418800017408 : UInt64)) .g)))).2.2.2) (by decide) (by decide) ?_
      show Steps p.tables e below (s₁.setTop (mkF m 27 #[.val (.ref a1), .val (.double d1), .second, .val (.double d2), .second] [])) _
      refine XS.dloadN X0.here hx rfl (hb hby d7_27) rfl ?_
      show Steps p.tables e below (s₁.setTop (mkF m 28 #[.val (.ref a1), .val (.double d1), .second, .val (.double d2), .second] [(.double d2)])) _
      refine XS.dconst0 X0.here hx rfl (hb hby d7_28) (v := (0 : UInt64)) rfl ?_
      show Steps p.tables e below (s₁.setTop (mkF m 29 #[.val (.ref a1), .val (.double d1), .second, .val (.double d2), .second] [(.double (0 : UInt64)), (.double d2)])) _
      refine XS.dcmpS X0.here hx rfl (hb hby d7_29) rfl (v := (cmpValue (FP.dcmp d2 (0 : UInt64)) .l)) rfl ?_
      show Steps p.tables e below (s₁.setTop (mkF m 30 #[.val (.ref a1), .val (.double d1), .second, .val (.double d2), .second] [(.int (cmpValue (FP.dcmp d2 (0 : UInt64)) .l))])) _
      refine XS.ifNo X0.here hx rfl (hb hby d7_30) rfl ((if0 _ _).trans (flt (OwnFP.cv_ge hf2.noNaN OwnFP.fin_zero.noNaN (by rw [OwnFP.zv_zero]; exact hz2) .l : ¬ ((cmpValue (FP.dcmp d2 (0 : UInt64)) .l) < (0 : Int32)))).1) ?_
      show Steps p.tables e below (s₁.setTop (mkF m 33 #[.val (.ref a1), .val (.double d1), .second, .val (.double d2), .second] [])) _
      refine XS.dloadN X0.here hx rfl (hb hby d7_33) rfl ?_
      show Steps p.tables e below (s₁.setTop (mkF m 34 #[.val (.ref a1), .val (.double d1), .second, .val (.double d2), .second] [(.double d2)])) _
      refine st1 _ ?_
      show Steps p.tables e below (T1.setTop (mkF m 37 #[.val (.ref a1), .val (.double d1), .second, .val (.double d2), .second] [(.int (1 : Int32))])) _
      refine XS.ifYes X1.here hx rfl (pc0 := 37) (pc' := 55) rfl (hb hby d7_37) rfl ((if0 _ _).trans (feq ((by decide) : ¬ ((1 : Int32) = (0 : Int32)))).2) (by decide) (by decide) ?_
      exact kt)
  obtain ⟨fs, hr, hrun, hended, hW, hsame⟩ := X1.leave (v := none) (fun _ => rfl)
  refine ⟨_, _, pre2 _ ?_, hrun, hended, _, _, rfl, ?_, ⟨_, rfl⟩, hW, hsame.mono (by decide) (by decide)⟩
  · show Steps p.tables e below (T1.setTop (mkF m 55 #[.val (.ref a1), .val (.double d1), .second, .val (.double d2), .second] [])) _
    exact X1.returnOut hx Bd.returns (hb hby d7_55) hr
  · show Qchk Z a1 d1 d2 h0 n0 _ T1.heap _
    rw [e1]
    exact ⟨rfl, N1, rfl⟩
theorem ef_0 (m : MethodId) (p1 : Int32) (p2 : Int32) (q1 : Int64) (p3 : Int32) : entryFrame m #[(.int p1), (.int p2), (.long q1), (.int p3)] maxLocals = mkF m 0 #[.val (.int p1), .val (.int p2), .val (.long q1), .second, .val (.int p3), .unset, .unset, .unset, .unset, .unset, .unset, .unset, .unset] [] := by first | (simp [entryFrame, mkF, argsToLocals, Value.category, maxLocals]; done) | rfl
theorem pd__28_5bC_29V : parseMethodDescriptor "([C)V" = some ⟨[(.array .char)], none⟩ := by decide +kernel
theorem pd__28Ljava_2flang_2fString_3bDD_29V : parseMethodDescriptor "(Ljava/lang/String;DD)V" = some ⟨[(.object "java/lang/String"), .double, .double], none⟩ := by decide +kernel
theorem pn_com_example_manyfront_manyfront_variation_ChecksRequireProbabilityAndIndexPinLaw : plainName "com/example/manyfront/manyfront/variation/ChecksRequireProbabilityAndIndexPinLaw" = true := by first | (simp [plainName, overriddenIn]; done) | decide +kernel
def Q0 (Z : State) (p1 : Int32) (p2 : Int32) (q1 : Int64) (p3 : Int32) (G1 : Int32) (h0 : Heap) (n0 : Nat) (v : Option Value) (h : Heap) (L : List Loc) : Prop := v = some (.int (1 : Int32)) ∧ Fr n0 L
set_option maxRecDepth 65536 in
set_option maxHeartbeats 40000000 in
theorem rm0 (l : Launch) (Z : State) (a0 : Array Value) (hw : ∀ d ∈ tables_1, d.before a0 Z = true) (ws : List Jvm.Cond) (p1 : Int32) (p2 : Int32) (q1 : Int64) (p3 : Int32) (G1 : Int32) (h0 : Heap) (n0 : Nat) (Z0 : n0 ≤ h0.size) (O2 : Sta Z Z.heap "java/lang/String" "COMPACT_STRINGS" "Z" (.int G1)) (P5 : ¬ (G1 = (0 : Int32))) (P_O : Old Z n0 h0) :
    MetFree l x (head1 (Jvm.Cond.code x code maxLocals ret :: ws) room_1) (fun a U => a = #[(.int p1), (.int p2), (.long q1), (.int p3)] ∧ Z.Warmed39 U.vm ∧ U.heap = h0) (fun _ _ _ _ _ => True) (fun _ U o U' => ∃ v L, o = .returned v ∧ Q0 Z p1 p2 q1 p3 G1 h0 n0 v U'.heap L ∧ FrameEnd U o U' L 16 128) := by
  refine MetFree.of_bodySF (plainFor_of_name pn_com_example_manyfront_manyfront_variation_ChecksRequireProbabilityAndIndexPinLaw) hisR ?_
  intro p e s m args below meth c s₁ Bd hml0 hP hK
  obtain ⟨rfl, hZ, hh⟩ := hP
  have hx := Bd.exec
  have hby := Bd.bytes
  have hml : c.maxLocals = 13 := hml0
  have hown : s.vm.findClass "com/example/manyfront/manyfront/variation/ChecksRequireProbabilityAndIndexPinLaw" = some m.cls := findClass_of_methodNamed Bd.named
  have hnm := (name_of_methodNamed Bd.named Bd.method).1
  have X0 : Stand p l e room_1 s m #[(.int p1), (.int p2), (.long q1), (.int p3)] below meth c s₁ [] 0 0 := Stand.of_body Bd
  have e0 : s₁.heap = h0 := by rw [← hh, Bd.state]; rfl
  have N0 := Fr.nil n0
  have pre0 : ∀ t, Steps p.tables e below (s₁.setTop (mkF m 0 #[.val (.int p1), .val (.int p2), .val (.long q1), .second, .val (.int p3), .unset, .unset, .unset, .unset, .unset, .unset, .unset, .unset] [])) t → Steps p.tables e below (s₁.setTop (entryFrame m #[(.int p1), (.int p2), (.long q1), (.int p3)] maxLocals)) t := fun t k => castTop (ef_0 m p1 p2 q1 p3) k
  have hd := own_d p2
  have hp := own_p hd p1
  have hq := own_prob hp.1 hp.2 (by omega)
  obtain ⟨T1, h1, k1, X1, e1, E1, A1, st1⟩ := newP X0 hx hZ (hw _ (List.mem_of_getElem? (i := 3) rfl)) e0 (g := (mkF m 37 #[.val (.int p1), .val (.int p2), .val (.long q1), .second, .val (.int p3), .val (.int ((p2 &&& (65535 : Int32)) + (1 : Int32))), .val (.int ((p1 &&& (2147483647 : Int32)) % (((p2 &&& (65535 : Int32)) + (1 : Int32)) + (1 : Int32)))), .val (.double (FP.ddiv (FP.i2d ((p1 &&& (2147483647 : Int32)) % (((p2 &&& (65535 : Int32)) + (1 : Int32)) + (1 : Int32)))) (FP.i2d ((p2 &&& (65535 : Int32)) + (1 : Int32))))), .second, .val (.double (FP.l2d (q1 &&& (9223372036854775807 : Int64)))), .second, .unset, .unset] [(.int (2 : Int32))])) rfl (hb hby at_37) rfl (by decide) (cap := 2) (by decide) (by decide) (by decide) (by decide)
  obtain ⟨b1, g1⟩ : ∃ z, z = h0.size := ⟨_, rfl⟩
  rw [← g1] at A1 st1
  have g_b1 : n0 ≤ b1 := Nat.le_trans Z0 (Nat.le_of_eq g1.symm)
  have z2 : n0 ≤ h1.size := Nat.le_trans Z0 E1.1
  have V1 : Arv Z h1 b1 k1 .char (2 : Int32) [(.int (0 : Int32)), (.int (0 : Int32))] (.int (0 : Int32)) := (Arv.new A1 (by decide)).pad (pad_rep [] (.int (0 : Int32)) 2)
  obtain ⟨cl3, Ar3, Q3, S3, M3, H3, G3⟩ := id V1
  have in4 : ¬ ((0 : Int32) < 0 ∨ cl3.slots.size ≤ ((0 : Int32)).toNatClampNeg) := inb_of S3 ⟨by decide, by decide⟩
  obtain ⟨T5, h5, X5, e5, W5, st5⟩ := stC X1 hx hZ e1 Ar3 (j := (0 : Int32)) in4 (g := (mkF m 48 #[.val (.int p1), .val (.int p2), .val (.long q1), .second, .val (.int p3), .val (.int ((p2 &&& (65535 : Int32)) + (1 : Int32))), .val (.int ((p1 &&& (2147483647 : Int32)) % (((p2 &&& (65535 : Int32)) + (1 : Int32)) + (1 : Int32)))), .val (.double (FP.ddiv (FP.i2d ((p1 &&& (2147483647 : Int32)) % (((p2 &&& (65535 : Int32)) + (1 : Int32)) + (1 : Int32)))) (FP.i2d ((p2 &&& (65535 : Int32)) + (1 : Int32))))), .second, .val (.double (FP.l2d (q1 &&& (9223372036854775807 : Int64)))), .second, .unset, .unset] [(.int ((p3 &&& (255 : Int32)).toUInt32.toUInt16.toUInt32.toInt32)), (.int (0 : Int32)), (.ref b1), (.ref b1)])) rfl rfl (hb hby at_48)
  have z6 : n0 ≤ h5.size := Nat.le_trans z2 (Keep.of_wr W5).1
  have V5 : Arv Z h5 b1 k1 .char (2 : Int32) [(.int (nar .char ((p3 &&& (255 : Int32)).toUInt32.toUInt16.toUInt32.toInt32))), (.int (0 : Int32))] (.int (0 : Int32)) := Arv.set Ar3 Q3 S3 M3 H3 G3 (fits_nar_char _) W5 0 rfl (Nat.le_of_ble_eq_true rfl)
  have N5 : Fr n0 _ := Fr.snoc X5 N0 g_b1
  obtain ⟨cl7, Ar7, Q7, S7, M7, H7, G7⟩ := id V5
  have in8 : ¬ ((1 : Int32) < 0 ∨ cl7.slots.size ≤ ((1 : Int32)).toNatClampNeg) := inb_of S7 ⟨by decide, by decide⟩
  obtain ⟨T9, h9, X9, e9, W9, st9⟩ := stC X5 hx hZ e5 Ar7 (j := (1 : Int32)) in8 (g := (mkF m 61 #[.val (.int p1), .val (.int p2), .val (.long q1), .second, .val (.int p3), .val (.int ((p2 &&& (65535 : Int32)) + (1 : Int32))), .val (.int ((p1 &&& (2147483647 : Int32)) % (((p2 &&& (65535 : Int32)) + (1 : Int32)) + (1 : Int32)))), .val (.double (FP.ddiv (FP.i2d ((p1 &&& (2147483647 : Int32)) % (((p2 &&& (65535 : Int32)) + (1 : Int32)) + (1 : Int32)))) (FP.i2d ((p2 &&& (65535 : Int32)) + (1 : Int32))))), .second, .val (.double (FP.l2d (q1 &&& (9223372036854775807 : Int64)))), .second, .unset, .unset] [(.int ((((p3.toUInt32 >>> ((8 : Int32) &&& 31).toUInt32).toInt32) &&& (255 : Int32)).toUInt32.toUInt16.toUInt32.toInt32)), (.int (1 : Int32)), (.ref b1), (.ref b1)])) rfl rfl (hb hby at_61)
  have z10 : n0 ≤ h9.size := Nat.le_trans z6 (Keep.of_wr W9).1
  have V9 : Arv Z h9 b1 k1 .char (2 : Int32) [(.int (nar .char ((p3 &&& (255 : Int32)).toUInt32.toUInt16.toUInt32.toInt32))), (.int (nar .char ((((p3.toUInt32 >>> ((8 : Int32) &&& 31).toUInt32).toInt32) &&& (255 : Int32)).toUInt32.toUInt16.toUInt32.toInt32)))] (.int (0 : Int32)) := Arv.set Ar7 Q7 S7 M7 H7 G7 (fits_nar_char _) W9 1 rfl (Nat.le_of_ble_eq_true rfl)
  have N9 : Fr n0 _ := Fr.snoc X9 N5 g_b1
  obtain ⟨T11, h11, X11, e11, E11, A11, D11, -, st11⟩ := newO X9 hx hZ hown (hw _ (List.mem_of_getElem? (i := 4) rfl)) (hw _ (List.mem_of_getElem? (i := 5) rfl)) (hw _ (List.mem_of_getElem? (i := 6) rfl)) e9 (g := (mkF m 64 #[.val (.int p1), .val (.int p2), .val (.long q1), .second, .val (.int p3), .val (.int ((p2 &&& (65535 : Int32)) + (1 : Int32))), .val (.int ((p1 &&& (2147483647 : Int32)) % (((p2 &&& (65535 : Int32)) + (1 : Int32)) + (1 : Int32)))), .val (.double (FP.ddiv (FP.i2d ((p1 &&& (2147483647 : Int32)) % (((p2 &&& (65535 : Int32)) + (1 : Int32)) + (1 : Int32)))) (FP.i2d ((p2 &&& (65535 : Int32)) + (1 : Int32))))), .second, .val (.double (FP.l2d (q1 &&& (9223372036854775807 : Int64)))), .second, .val (.ref b1), .unset] [])) rfl (hb hby at_64) (by decide) (by decide)
  obtain ⟨b11, g11⟩ : ∃ z, z = h9.size := ⟨_, rfl⟩
  rw [← g11] at A11 D11 st11
  have ne12 : b1 ≠ b11 := Nat.ne_of_lt (Nat.lt_of_lt_of_le V9.lt (Nat.le_of_eq g11.symm))
  have g_b11 : n0 ≤ b11 := Nat.le_trans z10 (Nat.le_of_eq g11.symm)
  have z13 : n0 ≤ h11.size := Nat.le_trans z10 E11.1
  have F11_30 : Fld Z h11 b11 "java/lang/String" "coder" "B" (.int (0 : Int32)) := D11 (Or.inr (hw _ (List.mem_of_getElem? (i := 30) rfl))) (ty := .byte) (by decide)
  have F11_32 : Fld Z h11 b11 "java/lang/String" "value" "[B" .null := D11 (Or.inr (hw _ (List.mem_of_getElem? (i := 32) rfl))) (ty := (.array .byte)) (by decide)
  have f14 : Arv Z h11 b1 k1 .char (2 : Int32) [(.int (nar .char ((p3 &&& (255 : Int32)).toUInt32.toUInt16.toUInt32.toInt32))), (.int (nar .char ((((p3.toUInt32 >>> ((8 : Int32) &&& 31).toUInt32).toInt32) &&& (255 : Int32)).toUInt32.toUInt16.toUInt32.toInt32)))] (.int (0 : Int32)) := (V9.ext E11)
  have f15 : Old Z n0 h11 := ((((P_O.ext E1).wr W5 g_b1).wr W9 g_b1).ext E11)
  have hws16 : ∀ d ∈ StrChars.Road.words, d.before a0 Z = true := fun d hd => hw d ((by decide +kernel : ∀ d ∈ StrChars.Road.words, d ∈ tables_1) d hd)
  have hp16 : ∀ c ∈ ([(nar .char ((p3 &&& (255 : Int32)).toUInt32.toUInt16.toUInt32.toInt32)), (nar .char ((((p3.toUInt32 >>> ((8 : Int32) &&& 31).toUInt32).toInt32) &&& (255 : Int32)).toUInt32.toUInt16.toUInt32.toInt32))] : List Int32), ¬ c < 0 ∧ ¬ (255 : Int32) < c := by
    intro c hc
    simp only [List.mem_cons, List.not_mem_nil, or_false] at hc
    rcases hc with rfl | rfl
    · exact own_and255 _
    · exact own_and255 _
  obtain ⟨_, _, ⟨T16, L16, kk16, nn16⟩, -, X16, ⟨Lc16, hQ16, l16, y16, z16⟩, st16⟩ := X11.specialBack hx (y := (⟨"java/lang/String", "<init>", "([C)V"⟩ : MethodName)) rfl hown (mvT hZ (hw _ (List.mem_of_getElem? (i := 7) rfl))) (mvT hZ (hw _ (List.mem_of_getElem? (i := 8) rfl))) (mvT hZ (hw _ (List.mem_of_getElem? (i := 9) rfl))) (by decide) (StrChars.Road.backV (W := 1) hZ hws16 (kI := 4) (hw _ (List.mem_of_getElem? (i := 5) rfl)) (cs := ([(nar .char ((p3 &&& (255 : Int32)).toUInt32.toUInt16.toUInt32.toInt32)), (nar .char ((((p3.toUInt32 >>> ((8 : Int32) &&& 31).toUInt32).toInt32) &&& (255 : Int32)).toUInt32.toUInt16.toUInt32.toInt32))] : List Int32)) (bs := ([(nar .char ((p3 &&& (255 : Int32)).toUInt32.toUInt16.toUInt32.toInt32)), (nar .char ((((p3.toUInt32 >>> ((8 : Int32) &&& 31).toUInt32).toInt32) &&& (255 : Int32)).toUInt32.toUInt16.toUInt32.toInt32))] : List Int32).map (fun c => c.toInt8.toInt32)) (n := 2) g_b11 z13 A11 F11_32 F11_30 f14 (O2.ext f15.2) P5 rfl rfl (by decide) (by decide) hp16 rfl (by decide) (by decide)) (g := (mkF m 70 #[.val (.int p1), .val (.int p2), .val (.long q1), .second, .val (.int p3), .val (.int ((p2 &&& (65535 : Int32)) + (1 : Int32))), .val (.int ((p1 &&& (2147483647 : Int32)) % (((p2 &&& (65535 : Int32)) + (1 : Int32)) + (1 : Int32)))), .val (.double (FP.ddiv (FP.i2d ((p1 &&& (2147483647 : Int32)) % (((p2 &&& (65535 : Int32)) + (1 : Int32)) + (1 : Int32)))) (FP.i2d ((p2 &&& (65535 : Int32)) + (1 : Int32))))), .second, .val (.double (FP.l2d (q1 &&& (9223372036854775807 : Int64)))), .second, .val (.ref b1), .unset] [(.ref b1), (.ref b11), (.ref b11)])) rfl (by rw [hml]; rfl) (Steps.refl _) (a := b11) (argsL := [(.ref b1)]) (rest := [(.ref b11)]) (lenOf pd__28_5bC_29V rfl) rfl (by show 2 * 0 + _ ≤ _; exact Nat.le_of_eq rfl) (hb hby at_70) (fun _ _ => ⟨rfl, e11, (by decide : 2 + 1 ≤ _), (by decide : 6 + 2 ≤ _)⟩)
  dsimp only [Pt.U, Pt.locs, Pt.cells, Pt.slots] at X16 l16 y16 z16 st16 hQ16
  subst l16 y16 z16
  obtain ⟨rfl, N16q, K16, Ex16, Fc16, b16, kb16, g_b16, sz16, ne16, Fv16, Va16⟩ := hQ16
  have N16 := Fr.app N9 N16q
  have ne17 : b1 ≠ b16 := Nat.ne_of_lt (Nat.lt_of_lt_of_le f14.lt sz16)
  have ne18 : b11 ≠ b16 := Nat.ne_of_lt (Nat.lt_of_lt_of_le A11.lt sz16)
  have z19 : n0 ≤ T16.heap.size := Nat.le_trans z13 K16.1
  obtain ⟨_, _, ⟨T20, L20, kk20, nn20⟩, -, X20, ⟨Lc20, hQ20, l20, y20, z20⟩, st20⟩ := Jvm.LawKit.callS X16 hx (y := (⟨"com/example/manyfront/manyfront/variation/Checks", "requireProbabilityAndIndex", "(Ljava/lang/String;DD)V"⟩ : MethodName)) hown (mvT hZ (hw _ (List.mem_of_getElem? (i := 33) rfl))) (mvT hZ (hw _ (List.mem_of_getElem? (i := 34) rfl))) (mvT hZ (hw _ (List.mem_of_getElem? (i := 35) rfl))) (mvT hZ (hw _ (List.mem_of_getElem? (i := 36) rfl))) (by decide) (backOf (W := 0) (rmchk l Z a0 hw [] b11 (FP.ddiv (FP.i2d ((p1 &&& (2147483647 : Int32)) % (((p2 &&& (65535 : Int32)) + (1 : Int32)) + (1 : Int32)))) (FP.i2d ((p2 &&& (65535 : Int32)) + (1 : Int32)))) (FP.l2d (q1 &&& (9223372036854775807 : Int64))) T16.heap n0 z19 (hq.1) (hq.2.1) (hq.2.2) (Fl.l2d_fin _) (own_idx q1)) hZ (hw _ (List.mem_of_getElem? (i := 36) rfl)) (hw _ (List.mem_of_getElem? (i := 35) rfl)) (by decide) (by decide)) (g := (mkF m 81 #[.val (.int p1), .val (.int p2), .val (.long q1), .second, .val (.int p3), .val (.int ((p2 &&& (65535 : Int32)) + (1 : Int32))), .val (.int ((p1 &&& (2147483647 : Int32)) % (((p2 &&& (65535 : Int32)) + (1 : Int32)) + (1 : Int32)))), .val (.double (FP.ddiv (FP.i2d ((p1 &&& (2147483647 : Int32)) % (((p2 &&& (65535 : Int32)) + (1 : Int32)) + (1 : Int32)))) (FP.i2d ((p2 &&& (65535 : Int32)) + (1 : Int32))))), .second, .val (.double (FP.l2d (q1 &&& (9223372036854775807 : Int64)))), .second, .val (.ref b1), .val (.ref b11)] [(.double (FP.l2d (q1 &&& (9223372036854775807 : Int64)))), (.double (FP.ddiv (FP.i2d ((p1 &&& (2147483647 : Int32)) % (((p2 &&& (65535 : Int32)) + (1 : Int32)) + (1 : Int32)))) (FP.i2d ((p2 &&& (65535 : Int32)) + (1 : Int32))))), (.ref b11)])) rfl (by rw [hml]; rfl) (argsL := [(.ref b11), (.double (FP.ddiv (FP.i2d ((p1 &&& (2147483647 : Int32)) % (((p2 &&& (65535 : Int32)) + (1 : Int32)) + (1 : Int32)))) (FP.i2d ((p2 &&& (65535 : Int32)) + (1 : Int32))))), (.double (FP.l2d (q1 &&& (9223372036854775807 : Int64))))]) (rest := []) (lenOf pd__28Ljava_2flang_2fString_3bDD_29V rfl) rfl (by show 2 * 0 + _ ≤ _; exact Nat.le_of_eq rfl) (hb hby at_81) (fun _ _ => ⟨rfl, rfl, (by decide : 3 + 0 ≤ _), (by decide : 8 + 0 ≤ _)⟩)
  dsimp only [Pt.U, Pt.locs, Pt.cells, Pt.slots] at X20 l20 y20 z20 st20 hQ20
  subst l20 y20 z20
  obtain ⟨rfl, N20q, e20⟩ := hQ20
  have N20 := Fr.app N16 N20q
  have pre21 : ∀ t, Steps p.tables e below (T20.setTop (mkF m 85 #[.val (.int p1), .val (.int p2), .val (.long q1), .second, .val (.int p3), .val (.int ((p2 &&& (65535 : Int32)) + (1 : Int32))), .val (.int ((p1 &&& (2147483647 : Int32)) % (((p2 &&& (65535 : Int32)) + (1 : Int32)) + (1 : Int32)))), .val (.double (FP.ddiv (FP.i2d ((p1 &&& (2147483647 : Int32)) % (((p2 &&& (65535 : Int32)) + (1 : Int32)) + (1 : Int32)))) (FP.i2d ((p2 &&& (65535 : Int32)) + (1 : Int32))))), .second, .val (.double (FP.l2d (q1 &&& (9223372036854775807 : Int64)))), .second, .val (.ref b1), .val (.ref b11)] [(.int (1 : Int32))])) t → Steps p.tables e below (s₁.setTop (entryFrame m #[(.int p1), (.int p2), (.long q1), (.int p3)] maxLocals)) t := fun t kt => pre0 t (by
      show Steps p.tables e below (s₁.setTop (mkF m 0 #[.val (.int p1), .val (.int p2), .val (.long q1), .second, .val (.int p3), .unset, .unset, .unset, .unset, .unset, .unset, .unset, .unset] [])) _
      refine XS.iloadN X0.here hx rfl (hb hby at_0) rfl ?_
      show Steps p.tables e below (s₁.setTop (mkF m 1 #[.val (.int p1), .val (.int p2), .val (.long q1), .second, .val (.int p3), .unset, .unset, .unset, .unset, .unset, .unset, .unset, .unset] [(.int p2)])) _
      refine X0.ldcInt hx hown (mvT hZ (hw _ (List.mem_of_getElem? (i := 0) rfl))) (g := (mkF m 1 #[.val (.int p1), .val (.int p2), .val (.long q1), .second, .val (.int p3), .unset, .unset, .unset, .unset, .unset, .unset, .unset, .unset] [(.int p2)])) rfl (hb hby at_1) _ ?_
      show Steps p.tables e below (s₁.setTop (mkF m 3 #[.val (.int p1), .val (.int p2), .val (.long q1), .second, .val (.int p3), .unset, .unset, .unset, .unset, .unset, .unset, .unset, .unset] [(.int (65535 : Int32)), (.int p2)])) _
      refine XS.iand X0.here hx rfl (hb hby at_3) rfl ?_
      show Steps p.tables e below (s₁.setTop (mkF m 4 #[.val (.int p1), .val (.int p2), .val (.long q1), .second, .val (.int p3), .unset, .unset, .unset, .unset, .unset, .unset, .unset, .unset] [(.int (p2 &&& (65535 : Int32)))])) _
      refine XS.iconst X0.here hx rfl (hb hby at_4) ?_
      show Steps p.tables e below (s₁.setTop (mkF m 5 #[.val (.int p1), .val (.int p2), .val (.long q1), .second, .val (.int p3), .unset, .unset, .unset, .unset, .unset, .unset, .unset, .unset] [(.int (1 : Int32)), (.int (p2 &&& (65535 : Int32)))])) _
      refine XS.iadd X0.here hx rfl (hb hby at_5) rfl ?_
      show Steps p.tables e below (s₁.setTop (mkF m 6 #[.val (.int p1), .val (.int p2), .val (.long q1), .second, .val (.int p3), .unset, .unset, .unset, .unset, .unset, .unset, .unset, .unset] [(.int ((p2 &&& (65535 : Int32)) + (1 : Int32)))])) _
      refine XS.istore X0.here hx rfl (hb hby at_6) rfl (l' := #[.val (.int p1), .val (.int p2), .val (.long q1), .second, .val (.int p3), .val (.int ((p2 &&& (65535 : Int32)) + (1 : Int32))), .unset, .unset, .unset, .unset, .unset, .unset, .unset]) rfl ?_
      show Steps p.tables e below (s₁.setTop (mkF m 8 #[.val (.int p1), .val (.int p2), .val (.long q1), .second, .val (.int p3), .val (.int ((p2 &&& (65535 : Int32)) + (1 : Int32))), .unset, .unset, .unset, .unset, .unset, .unset, .unset] [])) _
      refine XS.iloadN X0.here hx rfl (hb hby at_8) rfl ?_
      show Steps p.tables e below (s₁.setTop (mkF m 9 #[.val (.int p1), .val (.int p2), .val (.long q1), .second, .val (.int p3), .val (.int ((p2 &&& (65535 : Int32)) + (1 : Int32))), .unset, .unset, .unset, .unset, .unset, .unset, .unset] [(.int p1)])) _
      refine X0.ldcInt hx hown (mvT hZ (hw _ (List.mem_of_getElem? (i := 1) rfl))) (g := (mkF m 9 #[.val (.int p1), .val (.int p2), .val (.long q1), .second, .val (.int p3), .val (.int ((p2 &&& (65535 : Int32)) + (1 : Int32))), .unset, .unset, .unset, .unset, .unset, .unset, .unset] [(.int p1)])) rfl (hb hby at_9) _ ?_
      show Steps p.tables e below (s₁.setTop (mkF m 11 #[.val (.int p1), .val (.int p2), .val (.long q1), .second, .val (.int p3), .val (.int ((p2 &&& (65535 : Int32)) + (1 : Int32))), .unset, .unset, .unset, .unset, .unset, .unset, .unset] [(.int (2147483647 : Int32)), (.int p1)])) _
      refine XS.iand X0.here hx rfl (hb hby at_11) rfl ?_
      show Steps p.tables e below (s₁.setTop (mkF m 12 #[.val (.int p1), .val (.int p2), .val (.long q1), .second, .val (.int p3), .val (.int ((p2 &&& (65535 : Int32)) + (1 : Int32))), .unset, .unset, .unset, .unset, .unset, .unset, .unset] [(.int (p1 &&& (2147483647 : Int32)))])) _
      refine XS.iload X0.here hx rfl (hb hby at_12) rfl ?_
      show Steps p.tables e below (s₁.setTop (mkF m 14 #[.val (.int p1), .val (.int p2), .val (.long q1), .second, .val (.int p3), .val (.int ((p2 &&& (65535 : Int32)) + (1 : Int32))), .unset, .unset, .unset, .unset, .unset, .unset, .unset] [(.int ((p2 &&& (65535 : Int32)) + (1 : Int32))), (.int (p1 &&& (2147483647 : Int32)))])) _
      refine XS.iconst X0.here hx rfl (hb hby at_14) ?_
      show Steps p.tables e below (s₁.setTop (mkF m 15 #[.val (.int p1), .val (.int p2), .val (.long q1), .second, .val (.int p3), .val (.int ((p2 &&& (65535 : Int32)) + (1 : Int32))), .unset, .unset, .unset, .unset, .unset, .unset, .unset] [(.int (1 : Int32)), (.int ((p2 &&& (65535 : Int32)) + (1 : Int32))), (.int (p1 &&& (2147483647 : Int32)))])) _
      refine XS.iadd X0.here hx rfl (hb hby at_15) rfl ?_
      show Steps p.tables e below (s₁.setTop (mkF m 16 #[.val (.int p1), .val (.int p2), .val (.long q1), .second, .val (.int p3), .val (.int ((p2 &&& (65535 : Int32)) + (1 : Int32))), .unset, .unset, .unset, .unset, .unset, .unset, .unset] [(.int (((p2 &&& (65535 : Int32)) + (1 : Int32)) + (1 : Int32))), (.int (p1 &&& (2147483647 : Int32)))])) _
      refine iremM X0 hx rfl (hb hby at_16) rfl (own_dz hd) ?_
      show Steps p.tables e below (s₁.setTop (mkF m 17 #[.val (.int p1), .val (.int p2), .val (.long q1), .second, .val (.int p3), .val (.int ((p2 &&& (65535 : Int32)) + (1 : Int32))), .unset, .unset, .unset, .unset, .unset, .unset, .unset] [(.int ((p1 &&& (2147483647 : Int32)) % (((p2 &&& (65535 : Int32)) + (1 : Int32)) + (1 : Int32))))])) _
      refine XS.istore X0.here hx rfl (hb hby at_17) rfl (l' := #[.val (.int p1), .val (.int p2), .val (.long q1), .second, .val (.int p3), .val (.int ((p2 &&& (65535 : Int32)) + (1 : Int32))), .val (.int ((p1 &&& (2147483647 : Int32)) % (((p2 &&& (65535 : Int32)) + (1 : Int32)) + (1 : Int32)))), .unset, .unset, .unset, .unset, .unset, .unset]) rfl ?_
      show Steps p.tables e below (s₁.setTop (mkF m 19 #[.val (.int p1), .val (.int p2), .val (.long q1), .second, .val (.int p3), .val (.int ((p2 &&& (65535 : Int32)) + (1 : Int32))), .val (.int ((p1 &&& (2147483647 : Int32)) % (((p2 &&& (65535 : Int32)) + (1 : Int32)) + (1 : Int32)))), .unset, .unset, .unset, .unset, .unset, .unset] [])) _
      refine XS.iload X0.here hx rfl (hb hby at_19) rfl ?_
      show Steps p.tables e below (s₁.setTop (mkF m 21 #[.val (.int p1), .val (.int p2), .val (.long q1), .second, .val (.int p3), .val (.int ((p2 &&& (65535 : Int32)) + (1 : Int32))), .val (.int ((p1 &&& (2147483647 : Int32)) % (((p2 &&& (65535 : Int32)) + (1 : Int32)) + (1 : Int32)))), .unset, .unset, .unset, .unset, .unset, .unset] [(.int ((p1 &&& (2147483647 : Int32)) % (((p2 &&& (65535 : Int32)) + (1 : Int32)) + (1 : Int32))))])) _
      refine XS.i2dS X0.here hx rfl (hb hby at_21) rfl (v := (FP.i2d ((p1 &&& (2147483647 : Int32)) % (((p2 &&& (65535 : Int32)) + (1 : Int32)) + (1 : Int32))))) rfl ?_
      show Steps p.tables e below (s₁.setTop (mkF m 22 #[.val (.int p1), .val (.int p2), .val (.long q1), .second, .val (.int p3), .val (.int ((p2 &&& (65535 : Int32)) + (1 : Int32))), .val (.int ((p1 &&& (2147483647 : Int32)) % (((p2 &&& (65535 : Int32)) + (1 : Int32)) + (1 : Int32)))), .unset, .unset, .unset, .unset, .unset, .unset] [(.double (FP.i2d ((p1 &&& (2147483647 : Int32)) % (((p2 &&& (65535 : Int32)) + (1 : Int32)) + (1 : Int32)))))])) _
      refine XS.iload X0.here hx rfl (hb hby at_22) rfl ?_
      show Steps p.tables e below (s₁.setTop (mkF m 24 #[.val (.int p1), .val (.int p2), .val (.long q1), .second, .val (.int p3), .val (.int ((p2 &&& (65535 : Int32)) + (1 : Int32))), .val (.int ((p1 &&& (2147483647 : Int32)) % (((p2 &&& (65535 : Int32)) + (1 : Int32)) + (1 : Int32)))), .unset, .unset, .unset, .unset, .unset, .unset] [(.int ((p2 &&& (65535 : Int32)) + (1 : Int32))), (.double (FP.i2d ((p1 &&& (2147483647 : Int32)) % (((p2 &&& (65535 : Int32)) + (1 : Int32)) + (1 : Int32)))))])) _
      refine XS.i2dS X0.here hx rfl (hb hby at_24) rfl (v := (FP.i2d ((p2 &&& (65535 : Int32)) + (1 : Int32)))) rfl ?_
      show Steps p.tables e below (s₁.setTop (mkF m 25 #[.val (.int p1), .val (.int p2), .val (.long q1), .second, .val (.int p3), .val (.int ((p2 &&& (65535 : Int32)) + (1 : Int32))), .val (.int ((p1 &&& (2147483647 : Int32)) % (((p2 &&& (65535 : Int32)) + (1 : Int32)) + (1 : Int32)))), .unset, .unset, .unset, .unset, .unset, .unset] [(.double (FP.i2d ((p2 &&& (65535 : Int32)) + (1 : Int32)))), (.double (FP.i2d ((p1 &&& (2147483647 : Int32)) % (((p2 &&& (65535 : Int32)) + (1 : Int32)) + (1 : Int32)))))])) _
      refine XS.ddivS X0.here hx rfl (hb hby at_25) rfl hq.1.noNaN (v := (FP.ddiv (FP.i2d ((p1 &&& (2147483647 : Int32)) % (((p2 &&& (65535 : Int32)) + (1 : Int32)) + (1 : Int32)))) (FP.i2d ((p2 &&& (65535 : Int32)) + (1 : Int32))))) rfl ?_
      show Steps p.tables e below (s₁.setTop (mkF m 26 #[.val (.int p1), .val (.int p2), .val (.long q1), .second, .val (.int p3), .val (.int ((p2 &&& (65535 : Int32)) + (1 : Int32))), .val (.int ((p1 &&& (2147483647 : Int32)) % (((p2 &&& (65535 : Int32)) + (1 : Int32)) + (1 : Int32)))), .unset, .unset, .unset, .unset, .unset, .unset] [(.double (FP.ddiv (FP.i2d ((p1 &&& (2147483647 : Int32)) % (((p2 &&& (65535 : Int32)) + (1 : Int32)) + (1 : Int32)))) (FP.i2d ((p2 &&& (65535 : Int32)) + (1 : Int32)))))])) _
      refine XS.dstore X0.here hx rfl (hb hby at_26) rfl (l' := #[.val (.int p1), .val (.int p2), .val (.long q1), .second, .val (.int p3), .val (.int ((p2 &&& (65535 : Int32)) + (1 : Int32))), .val (.int ((p1 &&& (2147483647 : Int32)) % (((p2 &&& (65535 : Int32)) + (1 : Int32)) + (1 : Int32)))), .val (.double (FP.ddiv (FP.i2d ((p1 &&& (2147483647 : Int32)) % (((p2 &&& (65535 : Int32)) + (1 : Int32)) + (1 : Int32)))) (FP.i2d ((p2 &&& (65535 : Int32)) + (1 : Int32))))), .second, .unset, .unset, .unset, .unset]) rfl ?_
      show Steps p.tables e below (s₁.setTop (mkF m 28 #[.val (.int p1), .val (.int p2), .val (.long q1), .second, .val (.int p3), .val (.int ((p2 &&& (65535 : Int32)) + (1 : Int32))), .val (.int ((p1 &&& (2147483647 : Int32)) % (((p2 &&& (65535 : Int32)) + (1 : Int32)) + (1 : Int32)))), .val (.double (FP.ddiv (FP.i2d ((p1 &&& (2147483647 : Int32)) % (((p2 &&& (65535 : Int32)) + (1 : Int32)) + (1 : Int32)))) (FP.i2d ((p2 &&& (65535 : Int32)) + (1 : Int32))))), .second, .unset, .unset, .unset, .unset] [])) _
      refine XS.lloadN X0.here hx rfl (hb hby at_28) rfl ?_
      show Steps p.tables e below (s₁.setTop (mkF m 29 #[.val (.int p1), .val (.int p2), .val (.long q1), .second, .val (.int p3), .val (.int ((p2 &&& (65535 : Int32)) + (1 : Int32))), .val (.int ((p1 &&& (2147483647 : Int32)) % (((p2 &&& (65535 : Int32)) + (1 : Int32)) + (1 : Int32)))), .val (.double (FP.ddiv (FP.i2d ((p1 &&& (2147483647 : Int32)) % (((p2 &&& (65535 : Int32)) + (1 : Int32)) + (1 : Int32)))) (FP.i2d ((p2 &&& (65535 : Int32)) + (1 : Int32))))), .second, .unset, .unset, .unset, .unset] [(.long q1)])) _
      refine X0.ldc2Long hx hown (mvT hZ (hw _ (List.mem_of_getElem? (i := 2) rfl))) (g := (mkF m 29 #[.val (.int p1), .val (.int p2), .val (.long q1), .second, .val (.int p3), .val (.int ((p2 &&& (65535 : Int32)) + (1 : Int32))), .val (.int ((p1 &&& (2147483647 : Int32)) % (((p2 &&& (65535 : Int32)) + (1 : Int32)) + (1 : Int32)))), .val (.double (FP.ddiv (FP.i2d ((p1 &&& (2147483647 : Int32)) % (((p2 &&& (65535 : Int32)) + (1 : Int32)) + (1 : Int32)))) (FP.i2d ((p2 &&& (65535 : Int32)) + (1 : Int32))))), .second, .unset, .unset, .unset, .unset] [(.long q1)])) rfl (hb hby at_29) _ ?_
      show Steps p.tables e below (s₁.setTop (mkF m 32 #[.val (.int p1), .val (.int p2), .val (.long q1), .second, .val (.int p3), .val (.int ((p2 &&& (65535 : Int32)) + (1 : Int32))), .val (.int ((p1 &&& (2147483647 : Int32)) % (((p2 &&& (65535 : Int32)) + (1 : Int32)) + (1 : Int32)))), .val (.double (FP.ddiv (FP.i2d ((p1 &&& (2147483647 : Int32)) % (((p2 &&& (65535 : Int32)) + (1 : Int32)) + (1 : Int32)))) (FP.i2d ((p2 &&& (65535 : Int32)) + (1 : Int32))))), .second, .unset, .unset, .unset, .unset] [(.long (9223372036854775807 : Int64)), (.long q1)])) _
      refine XS.land X0.here hx rfl (hb hby at_32) rfl ?_
      show Steps p.tables e below (s₁.setTop (mkF m 33 #[.val (.int p1), .val (.int p2), .val (.long q1), .second, .val (.int p3), .val (.int ((p2 &&& (65535 : Int32)) + (1 : Int32))), .val (.int ((p1 &&& (2147483647 : Int32)) % (((p2 &&& (65535 : Int32)) + (1 : Int32)) + (1 : Int32)))), .val (.double (FP.ddiv (FP.i2d ((p1 &&& (2147483647 : Int32)) % (((p2 &&& (65535 : Int32)) + (1 : Int32)) + (1 : Int32)))) (FP.i2d ((p2 &&& (65535 : Int32)) + (1 : Int32))))), .second, .unset, .unset, .unset, .unset] [(.long (q1 &&& (9223372036854775807 : Int64)))])) _
      refine XS.l2dS X0.here hx rfl (hb hby at_33) rfl (v := (FP.l2d (q1 &&& (9223372036854775807 : Int64)))) rfl ?_
      show Steps p.tables e below (s₁.setTop (mkF m 34 #[.val (.int p1), .val (.int p2), .val (.long q1), .second, .val (.int p3), .val (.int ((p2 &&& (65535 : Int32)) + (1 : Int32))), .val (.int ((p1 &&& (2147483647 : Int32)) % (((p2 &&& (65535 : Int32)) + (1 : Int32)) + (1 : Int32)))), .val (.double (FP.ddiv (FP.i2d ((p1 &&& (2147483647 : Int32)) % (((p2 &&& (65535 : Int32)) + (1 : Int32)) + (1 : Int32)))) (FP.i2d ((p2 &&& (65535 : Int32)) + (1 : Int32))))), .second, .unset, .unset, .unset, .unset] [(.double (FP.l2d (q1 &&& (9223372036854775807 : Int64))))])) _
      refine XS.dstore X0.here hx rfl (hb hby at_34) rfl (l' := #[.val (.int p1), .val (.int p2), .val (.long q1), .second, .val (.int p3), .val (.int ((p2 &&& (65535 : Int32)) + (1 : Int32))), .val (.int ((p1 &&& (2147483647 : Int32)) % (((p2 &&& (65535 : Int32)) + (1 : Int32)) + (1 : Int32)))), .val (.double (FP.ddiv (FP.i2d ((p1 &&& (2147483647 : Int32)) % (((p2 &&& (65535 : Int32)) + (1 : Int32)) + (1 : Int32)))) (FP.i2d ((p2 &&& (65535 : Int32)) + (1 : Int32))))), .second, .val (.double (FP.l2d (q1 &&& (9223372036854775807 : Int64)))), .second, .unset, .unset]) rfl ?_
      show Steps p.tables e below (s₁.setTop (mkF m 36 #[.val (.int p1), .val (.int p2), .val (.long q1), .second, .val (.int p3), .val (.int ((p2 &&& (65535 : Int32)) + (1 : Int32))), .val (.int ((p1 &&& (2147483647 : Int32)) % (((p2 &&& (65535 : Int32)) + (1 : Int32)) + (1 : Int32)))), .val (.double (FP.ddiv (FP.i2d ((p1 &&& (2147483647 : Int32)) % (((p2 &&& (65535 : Int32)) + (1 : Int32)) + (1 : Int32)))) (FP.i2d ((p2 &&& (65535 : Int32)) + (1 : Int32))))), .second, .val (.double (FP.l2d (q1 &&& (9223372036854775807 : Int64)))), .second, .unset, .unset] [])) _
      refine XS.iconst X0.here hx rfl (hb hby at_36) ?_
      show Steps p.tables e below (s₁.setTop (mkF m 37 #[.val (.int p1), .val (.int p2), .val (.long q1), .second, .val (.int p3), .val (.int ((p2 &&& (65535 : Int32)) + (1 : Int32))), .val (.int ((p1 &&& (2147483647 : Int32)) % (((p2 &&& (65535 : Int32)) + (1 : Int32)) + (1 : Int32)))), .val (.double (FP.ddiv (FP.i2d ((p1 &&& (2147483647 : Int32)) % (((p2 &&& (65535 : Int32)) + (1 : Int32)) + (1 : Int32)))) (FP.i2d ((p2 &&& (65535 : Int32)) + (1 : Int32))))), .second, .val (.double (FP.l2d (q1 &&& (9223372036854775807 : Int64)))), .second, .unset, .unset] [(.int (2 : Int32))])) _
      refine st1 _ ?_
      show Steps p.tables e below (T1.setTop (mkF m 39 #[.val (.int p1), .val (.int p2), .val (.long q1), .second, .val (.int p3), .val (.int ((p2 &&& (65535 : Int32)) + (1 : Int32))), .val (.int ((p1 &&& (2147483647 : Int32)) % (((p2 &&& (65535 : Int32)) + (1 : Int32)) + (1 : Int32)))), .val (.double (FP.ddiv (FP.i2d ((p1 &&& (2147483647 : Int32)) % (((p2 &&& (65535 : Int32)) + (1 : Int32)) + (1 : Int32)))) (FP.i2d ((p2 &&& (65535 : Int32)) + (1 : Int32))))), .second, .val (.double (FP.l2d (q1 &&& (9223372036854775807 : Int64)))), .second, .unset, .unset] [(.ref b1)])) _
      refine XS.dup X1.here hx rfl (hb hby at_39) rfl rfl ?_
      show Steps p.tables e below (T1.setTop (mkF m 40 #[.val (.int p1), .val (.int p2), .val (.long q1), .second, .val (.int p3), .val (.int ((p2 &&& (65535 : Int32)) + (1 : Int32))), .val (.int ((p1 &&& (2147483647 : Int32)) % (((p2 &&& (65535 : Int32)) + (1 : Int32)) + (1 : Int32)))), .val (.double (FP.ddiv (FP.i2d ((p1 &&& (2147483647 : Int32)) % (((p2 &&& (65535 : Int32)) + (1 : Int32)) + (1 : Int32)))) (FP.i2d ((p2 &&& (65535 : Int32)) + (1 : Int32))))), .second, .val (.double (FP.l2d (q1 &&& (9223372036854775807 : Int64)))), .second, .unset, .unset] [(.ref b1), (.ref b1)])) _
      refine XS.iconst X1.here hx rfl (hb hby at_40) ?_
      show Steps p.tables e below (T1.setTop (mkF m 41 #[.val (.int p1), .val (.int p2), .val (.long q1), .second, .val (.int p3), .val (.int ((p2 &&& (65535 : Int32)) + (1 : Int32))), .val (.int ((p1 &&& (2147483647 : Int32)) % (((p2 &&& (65535 : Int32)) + (1 : Int32)) + (1 : Int32)))), .val (.double (FP.ddiv (FP.i2d ((p1 &&& (2147483647 : Int32)) % (((p2 &&& (65535 : Int32)) + (1 : Int32)) + (1 : Int32)))) (FP.i2d ((p2 &&& (65535 : Int32)) + (1 : Int32))))), .second, .val (.double (FP.l2d (q1 &&& (9223372036854775807 : Int64)))), .second, .unset, .unset] [(.int (0 : Int32)), (.ref b1), (.ref b1)])) _
      refine XS.iload X1.here hx rfl (hb hby at_41) rfl ?_
      show Steps p.tables e below (T1.setTop (mkF m 43 #[.val (.int p1), .val (.int p2), .val (.long q1), .second, .val (.int p3), .val (.int ((p2 &&& (65535 : Int32)) + (1 : Int32))), .val (.int ((p1 &&& (2147483647 : Int32)) % (((p2 &&& (65535 : Int32)) + (1 : Int32)) + (1 : Int32)))), .val (.double (FP.ddiv (FP.i2d ((p1 &&& (2147483647 : Int32)) % (((p2 &&& (65535 : Int32)) + (1 : Int32)) + (1 : Int32)))) (FP.i2d ((p2 &&& (65535 : Int32)) + (1 : Int32))))), .second, .val (.double (FP.l2d (q1 &&& (9223372036854775807 : Int64)))), .second, .unset, .unset] [(.int p3), (.int (0 : Int32)), (.ref b1), (.ref b1)])) _
      refine XS.sipush X1.here hx rfl (hb hby at_43) ?_
      show Steps p.tables e below (T1.setTop (mkF m 46 #[.val (.int p1), .val (.int p2), .val (.long q1), .second, .val (.int p3), .val (.int ((p2 &&& (65535 : Int32)) + (1 : Int32))), .val (.int ((p1 &&& (2147483647 : Int32)) % (((p2 &&& (65535 : Int32)) + (1 : Int32)) + (1 : Int32)))), .val (.double (FP.ddiv (FP.i2d ((p1 &&& (2147483647 : Int32)) % (((p2 &&& (65535 : Int32)) + (1 : Int32)) + (1 : Int32)))) (FP.i2d ((p2 &&& (65535 : Int32)) + (1 : Int32))))), .second, .val (.double (FP.l2d (q1 &&& (9223372036854775807 : Int64)))), .second, .unset, .unset] [(.int (255 : Int32)), (.int p3), (.int (0 : Int32)), (.ref b1), (.ref b1)])) _
      refine XS.iand X1.here hx rfl (hb hby at_46) rfl ?_
      show Steps p.tables e below (T1.setTop (mkF m 47 #[.val (.int p1), .val (.int p2), .val (.long q1), .second, .val (.int p3), .val (.int ((p2 &&& (65535 : Int32)) + (1 : Int32))), .val (.int ((p1 &&& (2147483647 : Int32)) % (((p2 &&& (65535 : Int32)) + (1 : Int32)) + (1 : Int32)))), .val (.double (FP.ddiv (FP.i2d ((p1 &&& (2147483647 : Int32)) % (((p2 &&& (65535 : Int32)) + (1 : Int32)) + (1 : Int32)))) (FP.i2d ((p2 &&& (65535 : Int32)) + (1 : Int32))))), .second, .val (.double (FP.l2d (q1 &&& (9223372036854775807 : Int64)))), .second, .unset, .unset] [(.int (p3 &&& (255 : Int32))), (.int (0 : Int32)), (.ref b1), (.ref b1)])) _
      refine XS.i2c X1.here hx rfl (hb hby at_47) rfl ?_
      show Steps p.tables e below (T1.setTop (mkF m 48 #[.val (.int p1), .val (.int p2), .val (.long q1), .second, .val (.int p3), .val (.int ((p2 &&& (65535 : Int32)) + (1 : Int32))), .val (.int ((p1 &&& (2147483647 : Int32)) % (((p2 &&& (65535 : Int32)) + (1 : Int32)) + (1 : Int32)))), .val (.double (FP.ddiv (FP.i2d ((p1 &&& (2147483647 : Int32)) % (((p2 &&& (65535 : Int32)) + (1 : Int32)) + (1 : Int32)))) (FP.i2d ((p2 &&& (65535 : Int32)) + (1 : Int32))))), .second, .val (.double (FP.l2d (q1 &&& (9223372036854775807 : Int64)))), .second, .unset, .unset] [(.int ((p3 &&& (255 : Int32)).toUInt32.toUInt16.toUInt32.toInt32)), (.int (0 : Int32)), (.ref b1), (.ref b1)])) _
      refine st5 _ ?_
      show Steps p.tables e below (T5.setTop (mkF m 49 #[.val (.int p1), .val (.int p2), .val (.long q1), .second, .val (.int p3), .val (.int ((p2 &&& (65535 : Int32)) + (1 : Int32))), .val (.int ((p1 &&& (2147483647 : Int32)) % (((p2 &&& (65535 : Int32)) + (1 : Int32)) + (1 : Int32)))), .val (.double (FP.ddiv (FP.i2d ((p1 &&& (2147483647 : Int32)) % (((p2 &&& (65535 : Int32)) + (1 : Int32)) + (1 : Int32)))) (FP.i2d ((p2 &&& (65535 : Int32)) + (1 : Int32))))), .second, .val (.double (FP.l2d (q1 &&& (9223372036854775807 : Int64)))), .second, .unset, .unset] [(.ref b1)])) _
      refine XS.dup X5.here hx rfl (hb hby at_49) rfl rfl ?_
      show Steps p.tables e below (T5.setTop (mkF m 50 #[.val (.int p1), .val (.int p2), .val (.long q1), .second, .val (.int p3), .val (.int ((p2 &&& (65535 : Int32)) + (1 : Int32))), .val (.int ((p1 &&& (2147483647 : Int32)) % (((p2 &&& (65535 : Int32)) + (1 : Int32)) + (1 : Int32)))), .val (.double (FP.ddiv (FP.i2d ((p1 &&& (2147483647 : Int32)) % (((p2 &&& (65535 : Int32)) + (1 : Int32)) + (1 : Int32)))) (FP.i2d ((p2 &&& (65535 : Int32)) + (1 : Int32))))), .second, .val (.double (FP.l2d (q1 &&& (9223372036854775807 : Int64)))), .second, .unset, .unset] [(.ref b1), (.ref b1)])) _
      refine XS.iconst X5.here hx rfl (hb hby at_50) ?_
      show Steps p.tables e below (T5.setTop (mkF m 51 #[.val (.int p1), .val (.int p2), .val (.long q1), .second, .val (.int p3), .val (.int ((p2 &&& (65535 : Int32)) + (1 : Int32))), .val (.int ((p1 &&& (2147483647 : Int32)) % (((p2 &&& (65535 : Int32)) + (1 : Int32)) + (1 : Int32)))), .val (.double (FP.ddiv (FP.i2d ((p1 &&& (2147483647 : Int32)) % (((p2 &&& (65535 : Int32)) + (1 : Int32)) + (1 : Int32)))) (FP.i2d ((p2 &&& (65535 : Int32)) + (1 : Int32))))), .second, .val (.double (FP.l2d (q1 &&& (9223372036854775807 : Int64)))), .second, .unset, .unset] [(.int (1 : Int32)), (.ref b1), (.ref b1)])) _
      refine XS.iload X5.here hx rfl (hb hby at_51) rfl ?_
      show Steps p.tables e below (T5.setTop (mkF m 53 #[.val (.int p1), .val (.int p2), .val (.long q1), .second, .val (.int p3), .val (.int ((p2 &&& (65535 : Int32)) + (1 : Int32))), .val (.int ((p1 &&& (2147483647 : Int32)) % (((p2 &&& (65535 : Int32)) + (1 : Int32)) + (1 : Int32)))), .val (.double (FP.ddiv (FP.i2d ((p1 &&& (2147483647 : Int32)) % (((p2 &&& (65535 : Int32)) + (1 : Int32)) + (1 : Int32)))) (FP.i2d ((p2 &&& (65535 : Int32)) + (1 : Int32))))), .second, .val (.double (FP.l2d (q1 &&& (9223372036854775807 : Int64)))), .second, .unset, .unset] [(.int p3), (.int (1 : Int32)), (.ref b1), (.ref b1)])) _
      refine XS.bipush X5.here hx rfl (hb hby at_53) ?_
      show Steps p.tables e below (T5.setTop (mkF m 55 #[.val (.int p1), .val (.int p2), .val (.long q1), .second, .val (.int p3), .val (.int ((p2 &&& (65535 : Int32)) + (1 : Int32))), .val (.int ((p1 &&& (2147483647 : Int32)) % (((p2 &&& (65535 : Int32)) + (1 : Int32)) + (1 : Int32)))), .val (.double (FP.ddiv (FP.i2d ((p1 &&& (2147483647 : Int32)) % (((p2 &&& (65535 : Int32)) + (1 : Int32)) + (1 : Int32)))) (FP.i2d ((p2 &&& (65535 : Int32)) + (1 : Int32))))), .second, .val (.double (FP.l2d (q1 &&& (9223372036854775807 : Int64)))), .second, .unset, .unset] [(.int (8 : Int32)), (.int p3), (.int (1 : Int32)), (.ref b1), (.ref b1)])) _
      refine XS.iushr X5.here hx rfl (hb hby at_55) rfl ?_
      show Steps p.tables e below (T5.setTop (mkF m 56 #[.val (.int p1), .val (.int p2), .val (.long q1), .second, .val (.int p3), .val (.int ((p2 &&& (65535 : Int32)) + (1 : Int32))), .val (.int ((p1 &&& (2147483647 : Int32)) % (((p2 &&& (65535 : Int32)) + (1 : Int32)) + (1 : Int32)))), .val (.double (FP.ddiv (FP.i2d ((p1 &&& (2147483647 : Int32)) % (((p2 &&& (65535 : Int32)) + (1 : Int32)) + (1 : Int32)))) (FP.i2d ((p2 &&& (65535 : Int32)) + (1 : Int32))))), .second, .val (.double (FP.l2d (q1 &&& (9223372036854775807 : Int64)))), .second, .unset, .unset] [(.int ((p3.toUInt32 >>> ((8 : Int32) &&& 31).toUInt32).toInt32)), (.int (1 : Int32)), (.ref b1), (.ref b1)])) _
      refine XS.sipush X5.here hx rfl (hb hby at_56) ?_
      show Steps p.tables e below (T5.setTop (mkF m 59 #[.val (.int p1), .val (.int p2), .val (.long q1), .second, .val (.int p3), .val (.int ((p2 &&& (65535 : Int32)) + (1 : Int32))), .val (.int ((p1 &&& (2147483647 : Int32)) % (((p2 &&& (65535 : Int32)) + (1 : Int32)) + (1 : Int32)))), .val (.double (FP.ddiv (FP.i2d ((p1 &&& (2147483647 : Int32)) % (((p2 &&& (65535 : Int32)) + (1 : Int32)) + (1 : Int32)))) (FP.i2d ((p2 &&& (65535 : Int32)) + (1 : Int32))))), .second, .val (.double (FP.l2d (q1 &&& (9223372036854775807 : Int64)))), .second, .unset, .unset] [(.int (255 : Int32)), (.int ((p3.toUInt32 >>> ((8 : Int32) &&& 31).toUInt32).toInt32)), (.int (1 : Int32)), (.ref b1), (.ref b1)])) _
      refine XS.iand X5.here hx rfl (hb hby at_59) rfl ?_
      show Steps p.tables e below (T5.setTop (mkF m 60 #[.val (.int p1), .val (.int p2), .val (.long q1), .second, .val (.int p3), .val (.int ((p2 &&& (65535 : Int32)) + (1 : Int32))), .val (.int ((p1 &&& (2147483647 : Int32)) % (((p2 &&& (65535 : Int32)) + (1 : Int32)) + (1 : Int32)))), .val (.double (FP.ddiv (FP.i2d ((p1 &&& (2147483647 : Int32)) % (((p2 &&& (65535 : Int32)) + (1 : Int32)) + (1 : Int32)))) (FP.i2d ((p2 &&& (65535 : Int32)) + (1 : Int32))))), .second, .val (.double (FP.l2d (q1 &&& (9223372036854775807 : Int64)))), .second, .unset, .unset] [(.int (((p3.toUInt32 >>> ((8 : Int32) &&& 31).toUInt32).toInt32) &&& (255 : Int32))), (.int (1 : Int32)), (.ref b1), (.ref b1)])) _
      refine XS.i2c X5.here hx rfl (hb hby at_60) rfl ?_
      show Steps p.tables e below (T5.setTop (mkF m 61 #[.val (.int p1), .val (.int p2), .val (.long q1), .second, .val (.int p3), .val (.int ((p2 &&& (65535 : Int32)) + (1 : Int32))), .val (.int ((p1 &&& (2147483647 : Int32)) % (((p2 &&& (65535 : Int32)) + (1 : Int32)) + (1 : Int32)))), .val (.double (FP.ddiv (FP.i2d ((p1 &&& (2147483647 : Int32)) % (((p2 &&& (65535 : Int32)) + (1 : Int32)) + (1 : Int32)))) (FP.i2d ((p2 &&& (65535 : Int32)) + (1 : Int32))))), .second, .val (.double (FP.l2d (q1 &&& (9223372036854775807 : Int64)))), .second, .unset, .unset] [(.int ((((p3.toUInt32 >>> ((8 : Int32) &&& 31).toUInt32).toInt32) &&& (255 : Int32)).toUInt32.toUInt16.toUInt32.toInt32)), (.int (1 : Int32)), (.ref b1), (.ref b1)])) _
      refine st9 _ ?_
      show Steps p.tables e below (T9.setTop (mkF m 62 #[.val (.int p1), .val (.int p2), .val (.long q1), .second, .val (.int p3), .val (.int ((p2 &&& (65535 : Int32)) + (1 : Int32))), .val (.int ((p1 &&& (2147483647 : Int32)) % (((p2 &&& (65535 : Int32)) + (1 : Int32)) + (1 : Int32)))), .val (.double (FP.ddiv (FP.i2d ((p1 &&& (2147483647 : Int32)) % (((p2 &&& (65535 : Int32)) + (1 : Int32)) + (1 : Int32)))) (FP.i2d ((p2 &&& (65535 : Int32)) + (1 : Int32))))), .second, .val (.double (FP.l2d (q1 &&& (9223372036854775807 : Int64)))), .second, .unset, .unset] [(.ref b1)])) _
      refine XS.astore X9.here hx rfl (hb hby at_62) rfl rfl (l' := #[.val (.int p1), .val (.int p2), .val (.long q1), .second, .val (.int p3), .val (.int ((p2 &&& (65535 : Int32)) + (1 : Int32))), .val (.int ((p1 &&& (2147483647 : Int32)) % (((p2 &&& (65535 : Int32)) + (1 : Int32)) + (1 : Int32)))), .val (.double (FP.ddiv (FP.i2d ((p1 &&& (2147483647 : Int32)) % (((p2 &&& (65535 : Int32)) + (1 : Int32)) + (1 : Int32)))) (FP.i2d ((p2 &&& (65535 : Int32)) + (1 : Int32))))), .second, .val (.double (FP.l2d (q1 &&& (9223372036854775807 : Int64)))), .second, .val (.ref b1), .unset]) rfl ?_
      show Steps p.tables e below (T9.setTop (mkF m 64 #[.val (.int p1), .val (.int p2), .val (.long q1), .second, .val (.int p3), .val (.int ((p2 &&& (65535 : Int32)) + (1 : Int32))), .val (.int ((p1 &&& (2147483647 : Int32)) % (((p2 &&& (65535 : Int32)) + (1 : Int32)) + (1 : Int32)))), .val (.double (FP.ddiv (FP.i2d ((p1 &&& (2147483647 : Int32)) % (((p2 &&& (65535 : Int32)) + (1 : Int32)) + (1 : Int32)))) (FP.i2d ((p2 &&& (65535 : Int32)) + (1 : Int32))))), .second, .val (.double (FP.l2d (q1 &&& (9223372036854775807 : Int64)))), .second, .val (.ref b1), .unset] [])) _
      refine st11 _ ?_
      show Steps p.tables e below (T11.setTop (mkF m 67 #[.val (.int p1), .val (.int p2), .val (.long q1), .second, .val (.int p3), .val (.int ((p2 &&& (65535 : Int32)) + (1 : Int32))), .val (.int ((p1 &&& (2147483647 : Int32)) % (((p2 &&& (65535 : Int32)) + (1 : Int32)) + (1 : Int32)))), .val (.double (FP.ddiv (FP.i2d ((p1 &&& (2147483647 : Int32)) % (((p2 &&& (65535 : Int32)) + (1 : Int32)) + (1 : Int32)))) (FP.i2d ((p2 &&& (65535 : Int32)) + (1 : Int32))))), .second, .val (.double (FP.l2d (q1 &&& (9223372036854775807 : Int64)))), .second, .val (.ref b1), .unset] [(.ref b11)])) _
      refine XS.dup X11.here hx rfl (hb hby at_67) rfl rfl ?_
      show Steps p.tables e below (T11.setTop (mkF m 68 #[.val (.int p1), .val (.int p2), .val (.long q1), .second, .val (.int p3), .val (.int ((p2 &&& (65535 : Int32)) + (1 : Int32))), .val (.int ((p1 &&& (2147483647 : Int32)) % (((p2 &&& (65535 : Int32)) + (1 : Int32)) + (1 : Int32)))), .val (.double (FP.ddiv (FP.i2d ((p1 &&& (2147483647 : Int32)) % (((p2 &&& (65535 : Int32)) + (1 : Int32)) + (1 : Int32)))) (FP.i2d ((p2 &&& (65535 : Int32)) + (1 : Int32))))), .second, .val (.double (FP.l2d (q1 &&& (9223372036854775807 : Int64)))), .second, .val (.ref b1), .unset] [(.ref b11), (.ref b11)])) _
      refine XS.aload X11.here hx rfl (hb hby at_68) rfl rfl ?_
      show Steps p.tables e below (T11.setTop (mkF m 70 #[.val (.int p1), .val (.int p2), .val (.long q1), .second, .val (.int p3), .val (.int ((p2 &&& (65535 : Int32)) + (1 : Int32))), .val (.int ((p1 &&& (2147483647 : Int32)) % (((p2 &&& (65535 : Int32)) + (1 : Int32)) + (1 : Int32)))), .val (.double (FP.ddiv (FP.i2d ((p1 &&& (2147483647 : Int32)) % (((p2 &&& (65535 : Int32)) + (1 : Int32)) + (1 : Int32)))) (FP.i2d ((p2 &&& (65535 : Int32)) + (1 : Int32))))), .second, .val (.double (FP.l2d (q1 &&& (9223372036854775807 : Int64)))), .second, .val (.ref b1), .unset] [(.ref b1), (.ref b11), (.ref b11)])) _
      refine st16.trans ?_
      show Steps p.tables e below (T16.setTop (mkF m 73 #[.val (.int p1), .val (.int p2), .val (.long q1), .second, .val (.int p3), .val (.int ((p2 &&& (65535 : Int32)) + (1 : Int32))), .val (.int ((p1 &&& (2147483647 : Int32)) % (((p2 &&& (65535 : Int32)) + (1 : Int32)) + (1 : Int32)))), .val (.double (FP.ddiv (FP.i2d ((p1 &&& (2147483647 : Int32)) % (((p2 &&& (65535 : Int32)) + (1 : Int32)) + (1 : Int32)))) (FP.i2d ((p2 &&& (65535 : Int32)) + (1 : Int32))))), .second, .val (.double (FP.l2d (q1 &&& (9223372036854775807 : Int64)))), .second, .val (.ref b1), .unset] [(.ref b11)])) _
      refine XS.astore X16.here hx rfl (hb hby at_73) rfl rfl (l' := #[.val (.int p1), .val (.int p2), .val (.long q1), .second, .val (.int p3), .val (.int ((p2 &&& (65535 : Int32)) + (1 : Int32))), .val (.int ((p1 &&& (2147483647 : Int32)) % (((p2 &&& (65535 : Int32)) + (1 : Int32)) + (1 : Int32)))), .val (.double (FP.ddiv (FP.i2d ((p1 &&& (2147483647 : Int32)) % (((p2 &&& (65535 : Int32)) + (1 : Int32)) + (1 : Int32)))) (FP.i2d ((p2 &&& (65535 : Int32)) + (1 : Int32))))), .second, .val (.double (FP.l2d (q1 &&& (9223372036854775807 : Int64)))), .second, .val (.ref b1), .val (.ref b11)]) rfl ?_
      show Steps p.tables e below (T16.setTop (mkF m 75 #[.val (.int p1), .val (.int p2), .val (.long q1), .second, .val (.int p3), .val (.int ((p2 &&& (65535 : Int32)) + (1 : Int32))), .val (.int ((p1 &&& (2147483647 : Int32)) % (((p2 &&& (65535 : Int32)) + (1 : Int32)) + (1 : Int32)))), .val (.double (FP.ddiv (FP.i2d ((p1 &&& (2147483647 : Int32)) % (((p2 &&& (65535 : Int32)) + (1 : Int32)) + (1 : Int32)))) (FP.i2d ((p2 &&& (65535 : Int32)) + (1 : Int32))))), .second, .val (.double (FP.l2d (q1 &&& (9223372036854775807 : Int64)))), .second, .val (.ref b1), .val (.ref b11)] [])) _
      refine XS.aload X16.here hx rfl (hb hby at_75) rfl rfl ?_
      show Steps p.tables e below (T16.setTop (mkF m 77 #[.val (.int p1), .val (.int p2), .val (.long q1), .second, .val (.int p3), .val (.int ((p2 &&& (65535 : Int32)) + (1 : Int32))), .val (.int ((p1 &&& (2147483647 : Int32)) % (((p2 &&& (65535 : Int32)) + (1 : Int32)) + (1 : Int32)))), .val (.double (FP.ddiv (FP.i2d ((p1 &&& (2147483647 : Int32)) % (((p2 &&& (65535 : Int32)) + (1 : Int32)) + (1 : Int32)))) (FP.i2d ((p2 &&& (65535 : Int32)) + (1 : Int32))))), .second, .val (.double (FP.l2d (q1 &&& (9223372036854775807 : Int64)))), .second, .val (.ref b1), .val (.ref b11)] [(.ref b11)])) _
      refine XS.dload X16.here hx rfl (hb hby at_77) rfl ?_
      show Steps p.tables e below (T16.setTop (mkF m 79 #[.val (.int p1), .val (.int p2), .val (.long q1), .second, .val (.int p3), .val (.int ((p2 &&& (65535 : Int32)) + (1 : Int32))), .val (.int ((p1 &&& (2147483647 : Int32)) % (((p2 &&& (65535 : Int32)) + (1 : Int32)) + (1 : Int32)))), .val (.double (FP.ddiv (FP.i2d ((p1 &&& (2147483647 : Int32)) % (((p2 &&& (65535 : Int32)) + (1 : Int32)) + (1 : Int32)))) (FP.i2d ((p2 &&& (65535 : Int32)) + (1 : Int32))))), .second, .val (.double (FP.l2d (q1 &&& (9223372036854775807 : Int64)))), .second, .val (.ref b1), .val (.ref b11)] [(.double (FP.ddiv (FP.i2d ((p1 &&& (2147483647 : Int32)) % (((p2 &&& (65535 : Int32)) + (1 : Int32)) + (1 : Int32)))) (FP.i2d ((p2 &&& (65535 : Int32)) + (1 : Int32))))), (.ref b11)])) _
      refine XS.dload X16.here hx rfl (hb hby at_79) rfl ?_
      show Steps p.tables e below (T16.setTop (mkF m 81 #[.val (.int p1), .val (.int p2), .val (.long q1), .second, .val (.int p3), .val (.int ((p2 &&& (65535 : Int32)) + (1 : Int32))), .val (.int ((p1 &&& (2147483647 : Int32)) % (((p2 &&& (65535 : Int32)) + (1 : Int32)) + (1 : Int32)))), .val (.double (FP.ddiv (FP.i2d ((p1 &&& (2147483647 : Int32)) % (((p2 &&& (65535 : Int32)) + (1 : Int32)) + (1 : Int32)))) (FP.i2d ((p2 &&& (65535 : Int32)) + (1 : Int32))))), .second, .val (.double (FP.l2d (q1 &&& (9223372036854775807 : Int64)))), .second, .val (.ref b1), .val (.ref b11)] [(.double (FP.l2d (q1 &&& (9223372036854775807 : Int64)))), (.double (FP.ddiv (FP.i2d ((p1 &&& (2147483647 : Int32)) % (((p2 &&& (65535 : Int32)) + (1 : Int32)) + (1 : Int32)))) (FP.i2d ((p2 &&& (65535 : Int32)) + (1 : Int32))))), (.ref b11)])) _
      refine st20 _ ?_
      show Steps p.tables e below (T20.setTop (mkF m 84 #[.val (.int p1), .val (.int p2), .val (.long q1), .second, .val (.int p3), .val (.int ((p2 &&& (65535 : Int32)) + (1 : Int32))), .val (.int ((p1 &&& (2147483647 : Int32)) % (((p2 &&& (65535 : Int32)) + (1 : Int32)) + (1 : Int32)))), .val (.double (FP.ddiv (FP.i2d ((p1 &&& (2147483647 : Int32)) % (((p2 &&& (65535 : Int32)) + (1 : Int32)) + (1 : Int32)))) (FP.i2d ((p2 &&& (65535 : Int32)) + (1 : Int32))))), .second, .val (.double (FP.l2d (q1 &&& (9223372036854775807 : Int64)))), .second, .val (.ref b1), .val (.ref b11)] [])) _
      refine XS.iconst X20.here hx rfl (hb hby at_84) ?_
      exact kt)
  obtain ⟨fs, hr, hrun, hended, hW, hsame⟩ := X20.leave (v := some (.int (1 : Int32))) (fun h => by rw [Bd.returns] at h; cases h)
  refine ⟨_, _, pre21 _ ?_, hrun, hended, _, _, rfl, ?_, ⟨_, rfl⟩, hW, hsame.mono (by decide) (by decide)⟩
  · show Steps p.tables e below (T20.setTop (mkF m 85 #[.val (.int p1), .val (.int p2), .val (.long q1), .second, .val (.int p3), .val (.int ((p2 &&& (65535 : Int32)) + (1 : Int32))), .val (.int ((p1 &&& (2147483647 : Int32)) % (((p2 &&& (65535 : Int32)) + (1 : Int32)) + (1 : Int32)))), .val (.double (FP.ddiv (FP.i2d ((p1 &&& (2147483647 : Int32)) % (((p2 &&& (65535 : Int32)) + (1 : Int32)) + (1 : Int32)))) (FP.i2d ((p2 &&& (65535 : Int32)) + (1 : Int32))))), .second, .val (.double (FP.l2d (q1 &&& (9223372036854775807 : Int64)))), .second, .val (.ref b1), .val (.ref b11)] [(.int (1 : Int32))])) _
    exact retN X20 hx (t := .boolean) Bd.returns (by simp) (hb hby at_85) hr
  · show Q0 Z p1 p2 q1 p3 G1 h0 n0 _ T20.heap _
    rw [e20]
    exact ⟨rfl, N20⟩
set_option maxRecDepth 65536 in
set_option maxHeartbeats 40000000 in
theorem comes_1 {Post : Tables → Env → Array Value → State → Outcome → State → Prop} (hpost : ∀ tb e args s v u, (limb_1_1.after args s (.returned v) u = true ∧ limb_1_2.after args s (.returned v) u = true ∧ True) → FrameEnd s (.returned v) u (Jvm.fieldLocs frame_1_writes args s ++ Jvm.arrayLocs frame_1_arrays args s ++ Jvm.staticLocs frame_1_statics s) 16 128 → Post tb e args s (.returned v) u) :
    ArmFor flags0 classFile x code maxLocals ret World_1 tables_1 room_1 Calls_1 rest_1 Pre_1 Post := by
  intro l hfl _ _ p e ha hc hk s m args below hf hA hF happ hP
  obtain ⟨hcalls, hrest, hpre⟩ := hP
  obtain ⟨-, -, -, hnamed, -, -, -, hat⟩ := (Spec.applies_iff hf).mp happ
  obtain ⟨hg, hn⟩ := and_e (Cond.before_iff.mp (show (Jvm.Cond.and given_1 narrow_1).before args s = true from hpre))
  obtain ⟨g1, g2⟩ := and_e hg
  obtain ⟨g3, g4⟩ := and_e g2
  obtain ⟨g5, g6⟩ := and_e g4
  obtain ⟨g7, g8⟩ := and_e g6
  obtain ⟨w0, w1, w2, w3, rfl⟩ : ∃ w0 w1 w2 w3 : Value, args = #[w0, w1, w2, w3] := by
    have hs : args.size = 4 := by simpa [Cond.value, given_1] using g1
    obtain ⟨L⟩ := args
    match L, hs with
    | [w0, w1, w2, w3], _ => exact ⟨w0, w1, w2, w3, rfl⟩
  have hw := fun d (hd : d ∈ tables_1) => atoms_spec (ws := Jvm.Cond.code x code maxLocals ret :: tables_1) hat d (List.mem_cons_of_mem _ hd)
  have hfit : Fit s := fun {y c} hc i hi => by
    obtain ⟨ha, rfl⟩ := Array.getElem?_eq_some_iff.mp hc
    have q := List.all_eq_true.mp ((Array.all_eq_true_iff_forall_mem.mp hF) _ (Array.getElem_mem ha)) i (List.mem_range.mpr hi)
    simpa [Array.getElem?_eq_getElem hi] using q
  obtain ⟨hsets, hown0⟩ := atoms_of _ (rest_1_c_eq ▸ (show rest_1_c.before _ s = true from hrest))
  have hr0 := Cond.before_iff.mp hown0
  obtain ⟨i0, ei0⟩ := is_v g3
  obtain rfl : w0 = (.int i0) := Option.some.inj ei0
  obtain ⟨i1, ei1⟩ := is_v g5
  obtain rfl : w1 = (.int i1) := Option.some.inj ei1
  obtain ⟨i2, ei2⟩ := isL_v g7
  obtain rfl : w2 = (.long i2) := Option.some.inj ei2
  obtain ⟨i3, ei3⟩ := is_v g8
  obtain rfl : w3 = (.int i3) := Option.some.inj ei3
  have n_c := not_v (Cond.before_iff.mp (hsets _ (List.mem_of_getElem? (i := 2) rfl)))
  obtain ⟨i_c, e_c⟩ := is_v (Cond.before_iff.mp (hsets _ (List.mem_of_getElem? (i := 1) rfl)))
  have S_c : Sta s s.heap "java/lang/String" "COMPACT_STRINGS" "Z" (.int i_c) := Sta.start e_c (Or.inl (hsets _ (List.mem_of_getElem? (i := 0) rfl)))
  have c_c : ¬ (i_c = (0 : Int32)) := gotF (Cond.eq_ints e_c (Term.int_eval (0))) n_c
  obtain ⟨n, o, h1, h2, h3, _, L, rfl, ⟨rfl, N⟩, hq⟩ := rm0 l s _ hw tables_1 i0 i1 i2 i3 i_c s.heap s.heap.size (Nat.le_refl _) S_c c_c (Old.start s) p e ha hc hk s m _ below hf ((Spec.applies_iff_loose hf).mp happ).1 ⟨rfl, State.Warmed39.refl s, rfl⟩ trivial
  refine ⟨n, _, h1, h2, h3, hpost _ _ _ _ _ _ ⟨Cond.after_iff.mpr rfl, Cond.after_iff.mpr (eq_i res_at (Term.int_eval (1)) rfl), trivial⟩ ⟨hq.1, hq.2.1, (hq.2.2.sift fun y hy => Or.inr (N y hy)).mono (by decide) (by decide)⟩⟩
theorem main_1_1 : Claimed_1_1 := comes_1 fun _ _ _ _ _ _ h hF => ⟨h.1, hF⟩
theorem main_1_2 : Claimed_1_2 := comes_1 fun _ _ _ _ _ _ h hF => ⟨h.2.1, hF⟩
end Jvm.Pilot.@@N@@
namespace Jvm.Pilot.@@N@@
open Jvm Jvm.ClassFile Sem Op Lib Jvm.Free Jvm.Stand Jvm.Pilot.@@N@@.Jvm.D
/-! MADE BY PROGRAM (witnessworld.py) out of the Statement's table words and the real class files: 23 classes; the members and pool entries that the words name. The judged class is class 1, her method 1. -/
namespace start1
open Jvm.ClassFile
def u (s : String) : CpInfo := .utf8 (stringToUtf16 s)
/-- a pool by its gaps: so many unusable entries, then the entry; so many at the end -/
def gap : Nat → List CpInfo → List CpInfo
  | 0, r => r
  | n + 1, r => .unusable :: gap n r
def poolList (es : List (Nat × CpInfo)) (last : Nat) : List CpInfo := es.foldr (fun e r => gap e.1 (e.2 :: r)) (gap last [])
def pool (es : List (Nat × CpInfo)) (last : Nat) : Array CpInfo := ⟨poolList es last⟩
def fileOf (pool : Array CpInfo) (this : Nat) (attrs : Array Attribute := #[]) (ms : Array MethodInfo := #[]) (fl : Nat := 33) (sup : Nat := 0) (ifs : Array Nat := #[]) (fds : Array FieldInfo := #[]) : ClassFile where
  minorVersion := 0
  majorVersion := 65
  constantPool := pool
  accessFlags := fl
  thisClass := this
  superClass := sup
  interfaces := ifs
  fields := fds
  methods := ms
  attributes := attrs
def plain (name : String) (sup : Option ClassId) : Class where
  name := name
  kind := .ordinary
  loader := none
  accessFlags := 33
  super := sup
  interfaces := #[]
  cf := none
  fields := #[]
  methods := #[]
  instanceTypes := #[]
  staticTypes := #[]
  resolved := #[]
  callSites := []
  init := .initialized
  statics := none
  mirror := none

def pool0 : Array CpInfo := pool [(5, u "<init>"), (0, u "()V"), (1, .class_ 10), (1, u "java/lang/Object")] 113

def k0c0 : Code := { maxStack := 0, maxLocals := 1, code := object_method_1_code, exceptionTable := #[], attributes := #[] }
def k0m0 : Method := { name := "<init>", desc := "()V", sig := { parameters := [], returnType := none }, accessFlags := 1, code := some k0c0 }
/-- java/lang/Object -/
def k0 : Class := { plain "java/lang/Object" none with
  accessFlags := 33
  interfaces := #[]
  cf := some (fileOf pool0 8 #[] #[{ accessFlags := 1, nameIndex := 5, descriptorIndex := 6, attributes := #[] }] 33 0 #[] #[])
  fields := #[]
  methods := #[k0m0]
  instanceTypes := #[]
  staticTypes := #[]
  resolved := Array.replicate 124 none
  statics := none }

def pool1 : Array CpInfo := pool [(2, .class_ 4), (1, u "java/lang/Object"), (0, u "<init>"), (0, u "()V"), (0, .integer 65535), (0, .integer 2147483647), (2, .long 9223372036854775807), (1, .class_ 14), (0, u "java/lang/String"), (0, .methodref 13 16), (0, .nameAndType 5 17), (0, u "([C)V"), (0, .methodref 19 20), (0, .class_ 21), (0, .nameAndType 22 23), (0, u "com/example/manyfront/manyfront/variation/Checks"), (0, u "requireProbabilityAndIndex"), (0, u "(Ljava/lang/String;DD)V"), (0, .class_ 25), (0, u "com/example/manyfront/manyfront/variation/ChecksRequireProbabilityAndIndexPinLaw"), (2, u "law"), (0, u "(IIJI)Z")] 2

def k1m0 : Method := { name := "<init>", desc := "()V", sig := { parameters := [], returnType := none }, accessFlags := 2, code := none }
def k1c1 : Code := { maxStack := 5, maxLocals := 13, code := code, exceptionTable := #[], attributes := #[] }
def k1m1 : Method := { name := "law", desc := "(IIJI)Z", sig := { parameters := [.int, .int, .long, .int], returnType := some .boolean }, accessFlags := 9, code := some k1c1 }
/-- com/example/manyfront/manyfront/variation/ChecksRequireProbabilityAndIndexPinLaw -/
def k1 : Class := { plain "com/example/manyfront/manyfront/variation/ChecksRequireProbabilityAndIndexPinLaw" (some 0) with
  accessFlags := 49
  interfaces := #[]
  cf := some (fileOf pool1 24 #[] #[{ accessFlags := 2, nameIndex := 5, descriptorIndex := 6, attributes := #[] }, { accessFlags := 9, nameIndex := 28, descriptorIndex := 29, attributes := #[] }] 49 2 #[] #[])
  fields := #[]
  methods := #[k1m0, k1m1]
  instanceTypes := #[]
  staticTypes := #[]
  resolved := Array.replicate 32 none
  statics := none }

def pool2 : Array CpInfo := pool [(1, .class_ 2), (0, u "java/io/Serializable"), (0, .class_ 4), (0, u "java/lang/Object")] 2

/-- java/io/Serializable -/
def k2 : Class := { plain "java/io/Serializable" (some 0) with
  accessFlags := 1537
  interfaces := #[]
  cf := some (fileOf pool2 1 #[] #[] 1537 3 #[] #[])
  fields := #[]
  methods := #[]
  instanceTypes := #[]
  staticTypes := #[]
  resolved := Array.replicate 7 none
  statics := none }

def pool3 : Array CpInfo := pool [(1, .class_ 2), (0, u "java/lang/Comparable"), (0, .class_ 4), (0, u "java/lang/Object")] 7

/-- java/lang/Comparable -/
def k3 : Class := { plain "java/lang/Comparable" (some 0) with
  accessFlags := 1537
  interfaces := #[]
  cf := some (fileOf pool3 1 #[] #[] 1537 3 #[] #[])
  fields := #[]
  methods := #[]
  instanceTypes := #[]
  staticTypes := #[]
  resolved := Array.replicate 12 none
  statics := none }

def pool4 : Array CpInfo := pool [(2, .class_ 4), (1, u "java/lang/CharSequence"), (42, .class_ 48), (0, u "java/lang/CharSequence$1CodePointIterator"), (10, .class_ 60), (0, u "java/lang/CharSequence$1CharIterator"), (5, .class_ 67), (0, u "java/lang/Object")] 63

/-- java/lang/CharSequence -/
def k4 : Class := { plain "java/lang/CharSequence" (some 0) with
  accessFlags := 1537
  interfaces := #[]
  cf := some (fileOf pool4 2 #[.nestMembers #[47, 59]] #[] 1537 66 #[] #[])
  fields := #[]
  methods := #[]
  instanceTypes := #[]
  staticTypes := #[]
  resolved := Array.replicate 131 none
  statics := none }

def pool5 : Array CpInfo := pool [(1, .class_ 2), (0, u "java/lang/constant/Constable"), (0, .class_ 4), (0, u "java/lang/Object")] 6

/-- java/lang/constant/Constable -/
def k5 : Class := { plain "java/lang/constant/Constable" (some 0) with
  accessFlags := 1537
  interfaces := #[]
  cf := some (fileOf pool5 1 #[] #[] 1537 3 #[] #[])
  fields := #[]
  methods := #[]
  instanceTypes := #[]
  staticTypes := #[]
  resolved := Array.replicate 11 none
  statics := none }

def pool6 : Array CpInfo := pool [(1, .class_ 2), (0, u "java/lang/constant/ConstantDesc"), (0, .class_ 4), (0, u "java/lang/Object")] 32

/-- java/lang/constant/ConstantDesc -/
def k6 : Class := { plain "java/lang/constant/ConstantDesc" (some 0) with
  accessFlags := 1537
  interfaces := #[]
  cf := some (fileOf pool6 1 #[] #[] 1537 3 #[] #[])
  fields := #[]
  methods := #[]
  instanceTypes := #[]
  staticTypes := #[]
  resolved := Array.replicate 37 none
  statics := none }

def pool7 : Array CpInfo := pool [(1, .methodref 2 3), (0, .class_ 4), (0, .nameAndType 5 6), (0, u "java/lang/Object"), (0, u "<init>"), (0, u "()V"), (2, .fieldref 10 11), (0, .class_ 12), (0, .nameAndType 13 14), (0, u "java/lang/String"), (0, u "value"), (0, u "[B"), (0, .fieldref 10 16), (0, .nameAndType 17 18), (0, u "coder"), (0, u "B"), (2, u "hash"), (0, u "I"), (2, u "hashIsZero"), (0, u "Z"), (0, .methodref 10 28), (0, .nameAndType 5 29), (0, u "([CIILjava/lang/Void;)V"), (8, .fieldref 10 39), (0, .nameAndType 40 26), (0, u "COMPACT_STRINGS"), (1, .class_ 44), (1, u "java/lang/StringUTF16"), (0, u "compress"), (1, .methodref 42 48), (0, .nameAndType 49 50), (0, u "coderFromArrayLen"), (0, u "([BI)B"), (126, .methodref 42 178), (0, .nameAndType 45 179), (0, u "([CII)[B"), (395, .class_ 576), (0, u "java/lang/CharSequence"), (22, u "CASE_INSENSITIVE_ORDER"), (0, u "Ljava/util/Comparator;"), (409, u "([C)V"), (90, u "serialPersistentFields"), (0, u "[Ljava/io/ObjectStreamField;"), (0, .class_ 1104), (0, u "java/lang/String$CaseInsensitiveComparator"), (1, .class_ 1107), (0, u "java/io/Serializable"), (0, .class_ 1109), (0, u "java/lang/Comparable"), (0, .class_ 1111), (0, u "java/lang/constant/Constable"), (0, .class_ 1113), (0, u "java/lang/constant/ConstantDesc"), (2, u "serialVersionUID"), (0, u "J"), (3, u "REPL"), (0, u "C"), (2, u "LATIN1"), (1, u "UTF16")] 323

def k7m0 : Method := { name := "<init>", desc := "()V", sig := { parameters := [], returnType := none }, accessFlags := 1, code := none }
def k7c1 : Code := { maxStack := 5, maxLocals := 2, code := jdk_42_method_3_code, exceptionTable := #[], attributes := #[] }
def k7m1 : Method := { name := "<init>", desc := "([C)V", sig := { parameters := [(.array .char)], returnType := none }, accessFlags := 1, code := some k7c1 }
def k7c2 : Code := { maxStack := 4, maxLocals := 6, code := jdk_42_method_149_code, exceptionTable := #[], attributes := #[] }
def k7m2 : Method := { name := "<init>", desc := "([CIILjava/lang/Void;)V", sig := { parameters := [(.array .char), .int, .int, (.object "java/lang/Void")], returnType := none }, accessFlags := 2, code := some k7c2 }
/-- java/lang/String -/
def k7 : Class := { plain "java/lang/String" (some 0) with
  accessFlags := 49
  interfaces := #[2, 3, 4, 5, 6]
  cf := some (fileOf pool7 10 #[.nestMembers #[1103]] #[{ accessFlags := 1, nameIndex := 5, descriptorIndex := 6, attributes := #[] }, { accessFlags := 1, nameIndex := 5, descriptorIndex := 1010, attributes := #[] }, { accessFlags := 2, nameIndex := 5, descriptorIndex := 29, attributes := #[] }] 49 2 #[1106, 1108, 575, 1110, 1112] #[{ accessFlags := 18, nameIndex := 13, descriptorIndex := 14, attributes := #[] }, { accessFlags := 18, nameIndex := 17, descriptorIndex := 18, attributes := #[] }, { accessFlags := 2, nameIndex := 21, descriptorIndex := 22, attributes := #[] }, { accessFlags := 2, nameIndex := 25, descriptorIndex := 26, attributes := #[] }, { accessFlags := 26, nameIndex := 1116, descriptorIndex := 1117, attributes := #[] }, { accessFlags := 24, nameIndex := 40, descriptorIndex := 26, attributes := #[] }, { accessFlags := 26, nameIndex := 1101, descriptorIndex := 1102, attributes := #[] }, { accessFlags := 26, nameIndex := 1121, descriptorIndex := 1122, attributes := #[] }, { accessFlags := 25, nameIndex := 599, descriptorIndex := 600, attributes := #[] }, { accessFlags := 24, nameIndex := 1125, descriptorIndex := 18, attributes := #[] }, { accessFlags := 24, nameIndex := 1127, descriptorIndex := 18, attributes := #[] }])
  fields := #[{ name := "value", type := (.array .byte), accessFlags := 18, slot := 0, constantValue := 0 }, { name := "coder", type := .byte, accessFlags := 18, slot := 1, constantValue := 0 }, { name := "hash", type := .int, accessFlags := 2, slot := 2, constantValue := 0 }, { name := "hashIsZero", type := .boolean, accessFlags := 2, slot := 3, constantValue := 0 }, { name := "serialVersionUID", type := .long, accessFlags := 26, slot := 0, constantValue := 0 }, { name := "COMPACT_STRINGS", type := .boolean, accessFlags := 24, slot := 1, constantValue := 0 }, { name := "serialPersistentFields", type := (.array (.object "java/io/ObjectStreamField")), accessFlags := 26, slot := 2, constantValue := 0 }, { name := "REPL", type := .char, accessFlags := 26, slot := 3, constantValue := 0 }, { name := "CASE_INSENSITIVE_ORDER", type := (.object "java/util/Comparator"), accessFlags := 25, slot := 4, constantValue := 0 }, { name := "LATIN1", type := .byte, accessFlags := 24, slot := 5, constantValue := 0 }, { name := "UTF16", type := .byte, accessFlags := 24, slot := 6, constantValue := 0 }]
  methods := #[k7m0, k7m1, k7m2]
  instanceTypes := #[(.array .byte), .byte, .int, .boolean]
  staticTypes := #[.long, .boolean, (.array (.object "java/io/ObjectStreamField")), .char, (.object "java/util/Comparator"), .byte, .byte]
  resolved := Array.replicate 1451 none
  statics := some 0 }

def pool8 : Array CpInfo := pool [(6, .class_ 8), (1, u "java/lang/Object"), (0, u "<init>"), (0, u "()V"), (1, .class_ 14), (1, u "java/lang/StringUTF16"), (31, u "$assertionsDisabled"), (0, u "Z"), (13, u "HI_BYTE_SHIFT"), (0, u "I"), (2, u "LO_BYTE_SHIFT"), (49, .methodref 12 116), (0, .nameAndType 117 118), (0, u "compress"), (0, u "([CI[BII)I"), (3, u "([CII)[B"), (138, u "coderFromArrayLen"), (0, u "([BI)B"), (106, .class_ 371), (1, u "java/lang/StringUTF16$LinesSpliterator"), (58, u "MAX_LENGTH"), (196, .class_ 628), (0, u "java/lang/StringUTF16$CodePointsSpliterator"), (0, .class_ 630), (0, u "java/lang/StringUTF16$CharsSpliterator")] 4

def k8m0 : Method := { name := "<init>", desc := "()V", sig := { parameters := [], returnType := none }, accessFlags := 0, code := none }
def k8c1 : Code := { maxStack := 2, maxLocals := 2, code := jdk_52_method_15_code, exceptionTable := #[], attributes := #[] }
def k8m1 : Method := { name := "coderFromArrayLen", desc := "([BI)B", sig := { parameters := [(.array .byte), .int], returnType := some .byte }, accessFlags := 8, code := some k8c1 }
def k8c2 : Code := { maxStack := 5, maxLocals := 6, code := jdk_52_method_16_code, exceptionTable := #[], attributes := #[] }
def k8m2 : Method := { name := "compress", desc := "([CII)[B", sig := { parameters := [(.array .char), .int, .int], returnType := some (.array .byte) }, accessFlags := 9, code := some k8c2 }
def k8c3 : Code := { maxStack := 3, maxLocals := 7, code := jdk_52_method_21_code, exceptionTable := #[], attributes := #[] }
def k8m3 : Method := { name := "compress", desc := "([CI[BII)I", sig := { parameters := [(.array .char), .int, (.array .byte), .int, .int], returnType := some .int }, accessFlags := 9, code := some k8c3 }
/-- java/lang/StringUTF16 -/
def k8 : Class := { plain "java/lang/StringUTF16" (some 0) with
  accessFlags := 48
  interfaces := #[]
  cf := some (fileOf pool8 12 #[.nestMembers #[627, 629, 369]] #[{ accessFlags := 0, nameIndex := 9, descriptorIndex := 10, attributes := #[] }, { accessFlags := 8, nameIndex := 261, descriptorIndex := 262, attributes := #[] }, { accessFlags := 9, nameIndex := 117, descriptorIndex := 122, attributes := #[] }, { accessFlags := 9, nameIndex := 117, descriptorIndex := 118, attributes := #[] }] 48 6 #[] #[{ accessFlags := 26, nameIndex := 61, descriptorIndex := 62, attributes := #[] }, { accessFlags := 26, nameIndex := 65, descriptorIndex := 62, attributes := #[] }, { accessFlags := 24, nameIndex := 430, descriptorIndex := 62, attributes := #[] }, { accessFlags := 4120, nameIndex := 46, descriptorIndex := 47, attributes := #[] }])
  fields := #[{ name := "HI_BYTE_SHIFT", type := .int, accessFlags := 26, slot := 0, constantValue := 0 }, { name := "LO_BYTE_SHIFT", type := .int, accessFlags := 26, slot := 1, constantValue := 0 }, { name := "MAX_LENGTH", type := .int, accessFlags := 24, slot := 2, constantValue := 0 }, { name := "$assertionsDisabled", type := .boolean, accessFlags := 4120, slot := 3, constantValue := 0 }]
  methods := #[k8m0, k8m1, k8m2, k8m3]
  instanceTypes := #[]
  staticTypes := #[.int, .int, .int, .boolean]
  resolved := Array.replicate 635 none
  statics := none }

def pool9 : Array CpInfo := pool [(2, .class_ 4), (1, u "java/lang/Object"), (0, u "<init>"), (0, u "()V"), (18, .methodref 26 27), (0, .class_ 28), (0, .nameAndType 29 30), (0, u "java/lang/Double"), (0, u "isFinite"), (0, u "(D)Z"), (1, .class_ 33), (0, u "com/example/manyfront/manyfront/variation/Checks"), (7, u "requireProbabilityAndIndex"), (0, u "(Ljava/lang/String;DD)V")] 21

def k9m0 : Method := { name := "<init>", desc := "()V", sig := { parameters := [], returnType := none }, accessFlags := 2, code := none }
def k9c1 : Code := { maxStack := 5, maxLocals := 5, code := prog_52_method_3_code, exceptionTable := #[], attributes := #[] }
def k9m1 : Method := { name := "requireProbabilityAndIndex", desc := "(Ljava/lang/String;DD)V", sig := { parameters := [(.object "java/lang/String"), .double, .double], returnType := none }, accessFlags := 8, code := some k9c1 }
/-- com/example/manyfront/manyfront/variation/Checks -/
def k9 : Class := { plain "com/example/manyfront/manyfront/variation/Checks" (some 0) with
  accessFlags := 48
  interfaces := #[]
  cf := some (fileOf pool9 32 #[] #[{ accessFlags := 2, nameIndex := 5, descriptorIndex := 6, attributes := #[] }, { accessFlags := 8, nameIndex := 41, descriptorIndex := 42, attributes := #[] }] 48 2 #[] #[])
  fields := #[]
  methods := #[k9m0, k9m1]
  instanceTypes := #[]
  staticTypes := #[]
  resolved := Array.replicate 64 none
  statics := none }

def pool10 : Array CpInfo := pool [(2, .class_ 4), (1, u "java/lang/Object"), (0, u "<init>"), (0, u "()V"), (1, .class_ 10), (1, u "java/lang/Number"), (2, .class_ 14), (0, u "java/io/Serializable"), (0, u "serialVersionUID"), (0, u "J")] 20

def k10m0 : Method := { name := "<init>", desc := "()V", sig := { parameters := [], returnType := none }, accessFlags := 1, code := none }
/-- java/lang/Number -/
def k10 : Class := { plain "java/lang/Number" (some 0) with
  accessFlags := 1057
  interfaces := #[2]
  cf := some (fileOf pool10 8 #[] #[{ accessFlags := 1, nameIndex := 5, descriptorIndex := 6, attributes := #[] }] 1057 2 #[13] #[{ accessFlags := 26, nameIndex := 15, descriptorIndex := 16, attributes := #[] }])
  fields := #[{ name := "serialVersionUID", type := .long, accessFlags := 26, slot := 0, constantValue := 0 }]
  methods := #[k10m0]
  instanceTypes := #[]
  staticTypes := #[.long]
  resolved := Array.replicate 37 none
  statics := none }

def pool11 : Array CpInfo := pool [(1, .class_ 2), (0, u "java/lang/Double"), (10, u "isFinite"), (0, u "(D)Z"), (8, .class_ 25), (1, u "java/lang/Math"), (12, .methodref 23 39), (0, .nameAndType 40 41), (0, u "abs"), (0, u "(D)D"), (69, .double 9218868437227405311), (2, .class_ 116), (1, u "java/lang/Number"), (3, u "value"), (0, u "D"), (51, u "TYPE"), (0, u "Ljava/lang/Class;"), (0, .class_ 176), (0, u "java/lang/Comparable"), (0, .class_ 178), (0, u "java/lang/constant/Constable"), (0, .class_ 180), (0, u "java/lang/constant/ConstantDesc"), (0, u "POSITIVE_INFINITY"), (3, u "NEGATIVE_INFINITY"), (2, u "NaN"), (2, u "MAX_VALUE"), (0, u "MIN_NORMAL"), (0, u "MIN_VALUE"), (2, u "SIZE"), (0, u "I"), (1, u "PRECISION"), (1, u "MAX_EXPONENT"), (1, u "MIN_EXPONENT"), (1, u "BYTES"), (3, u "serialVersionUID"), (0, u "J")] 79

def k11c0 : Code := { maxStack := 4, maxLocals := 2, code := jdk_117_method_8_code, exceptionTable := #[], attributes := #[] }
def k11m0 : Method := { name := "isFinite", desc := "(D)Z", sig := { parameters := [.double], returnType := some .boolean }, accessFlags := 9, code := some k11c0 }
/-- java/lang/Double -/
def k11 : Class := { plain "java/lang/Double" (some 10) with
  accessFlags := 49
  interfaces := #[3, 5, 6]
  cf := some (fileOf pool11 1 #[] #[{ accessFlags := 9, nameIndex := 13, descriptorIndex := 14, attributes := #[] }] 49 114 #[175, 177, 179] #[{ accessFlags := 25, nameIndex := 181, descriptorIndex := 121, attributes := #[] }, { accessFlags := 25, nameIndex := 185, descriptorIndex := 121, attributes := #[] }, { accessFlags := 25, nameIndex := 188, descriptorIndex := 121, attributes := #[] }, { accessFlags := 25, nameIndex := 191, descriptorIndex := 121, attributes := #[] }, { accessFlags := 25, nameIndex := 192, descriptorIndex := 121, attributes := #[] }, { accessFlags := 25, nameIndex := 193, descriptorIndex := 121, attributes := #[] }, { accessFlags := 25, nameIndex := 196, descriptorIndex := 197, attributes := #[] }, { accessFlags := 25, nameIndex := 199, descriptorIndex := 197, attributes := #[] }, { accessFlags := 25, nameIndex := 201, descriptorIndex := 197, attributes := #[] }, { accessFlags := 25, nameIndex := 203, descriptorIndex := 197, attributes := #[] }, { accessFlags := 25, nameIndex := 205, descriptorIndex := 197, attributes := #[] }, { accessFlags := 25, nameIndex := 173, descriptorIndex := 174, attributes := #[] }, { accessFlags := 18, nameIndex := 120, descriptorIndex := 121, attributes := #[] }, { accessFlags := 26, nameIndex := 209, descriptorIndex := 210, attributes := #[] }])
  fields := #[{ name := "POSITIVE_INFINITY", type := .double, accessFlags := 25, slot := 0, constantValue := 0 }, { name := "NEGATIVE_INFINITY", type := .double, accessFlags := 25, slot := 1, constantValue := 0 }, { name := "NaN", type := .double, accessFlags := 25, slot := 2, constantValue := 0 }, { name := "MAX_VALUE", type := .double, accessFlags := 25, slot := 3, constantValue := 0 }, { name := "MIN_NORMAL", type := .double, accessFlags := 25, slot := 4, constantValue := 0 }, { name := "MIN_VALUE", type := .double, accessFlags := 25, slot := 5, constantValue := 0 }, { name := "SIZE", type := .int, accessFlags := 25, slot := 6, constantValue := 0 }, { name := "PRECISION", type := .int, accessFlags := 25, slot := 7, constantValue := 0 }, { name := "MAX_EXPONENT", type := .int, accessFlags := 25, slot := 8, constantValue := 0 }, { name := "MIN_EXPONENT", type := .int, accessFlags := 25, slot := 9, constantValue := 0 }, { name := "BYTES", type := .int, accessFlags := 25, slot := 10, constantValue := 0 }, { name := "TYPE", type := (.object "java/lang/Class"), accessFlags := 25, slot := 11, constantValue := 0 }, { name := "value", type := .double, accessFlags := 18, slot := 0, constantValue := 0 }, { name := "serialVersionUID", type := .long, accessFlags := 26, slot := 12, constantValue := 0 }]
  methods := #[k11m0]
  instanceTypes := #[.double]
  staticTypes := #[.double, .double, .double, .double, .double, .double, .int, .int, .int, .int, .int, (.object "java/lang/Class"), .long]
  resolved := Array.replicate 290 none
  statics := none }

def pool12 : Array CpInfo := pool [(1, .class_ 2), (0, u "java/lang/Math"), (1, .class_ 6), (1, u "java/lang/Object"), (0, u "<init>"), (0, u "()V"), (5, u "(D)D"), (83, .class_ 100), (1, u "java/lang/Math$RandomNumberGeneratorHolder"), (23, u "abs"), (47, u "negativeZeroFloatBits"), (0, u "J"), (2, u "negativeZeroDoubleBits"), (68, u "$assertionsDisabled"), (0, u "Z"), (91, u "twoToTheDoubleScaleDown"), (0, u "D"), (4, u "twoToTheDoubleScaleUp"), (9, u "E"), (3, u "PI"), (2, u "TAU"), (2, u "DEGREES_TO_RADIANS"), (0, u "RADIANS_TO_DEGREES")] 94

def k12m0 : Method := { name := "<init>", desc := "()V", sig := { parameters := [], returnType := none }, accessFlags := 2, code := none }
def k12c1 : Code := { maxStack := 4, maxLocals := 2, code := jdk_29_method_64_code, exceptionTable := #[], attributes := #[] }
def k12m1 : Method := { name := "abs", desc := "(D)D", sig := { parameters := [.double], returnType := some .double }, accessFlags := 9, code := some k12c1 }
/-- java/lang/Math -/
def k12 : Class := { plain "java/lang/Math" (some 0) with
  accessFlags := 49
  interfaces := #[]
  cf := some (fileOf pool12 1 #[.nestMembers #[98]] #[{ accessFlags := 2, nameIndex := 7, descriptorIndex := 8, attributes := #[] }, { accessFlags := 9, nameIndex := 124, descriptorIndex := 14, attributes := #[] }] 49 4 #[] #[{ accessFlags := 25, nameIndex := 354, descriptorIndex := 339, attributes := #[] }, { accessFlags := 25, nameIndex := 358, descriptorIndex := 339, attributes := #[] }, { accessFlags := 25, nameIndex := 361, descriptorIndex := 339, attributes := #[] }, { accessFlags := 26, nameIndex := 364, descriptorIndex := 339, attributes := #[] }, { accessFlags := 26, nameIndex := 365, descriptorIndex := 339, attributes := #[] }, { accessFlags := 26, nameIndex := 172, descriptorIndex := 173, attributes := #[] }, { accessFlags := 26, nameIndex := 176, descriptorIndex := 173, attributes := #[] }, { accessFlags := 8, nameIndex := 344, descriptorIndex := 339, attributes := #[] }, { accessFlags := 8, nameIndex := 338, descriptorIndex := 339, attributes := #[] }, { accessFlags := 4120, nameIndex := 245, descriptorIndex := 246, attributes := #[] }])
  fields := #[{ name := "E", type := .double, accessFlags := 25, slot := 0, constantValue := 0 }, { name := "PI", type := .double, accessFlags := 25, slot := 1, constantValue := 0 }, { name := "TAU", type := .double, accessFlags := 25, slot := 2, constantValue := 0 }, { name := "DEGREES_TO_RADIANS", type := .double, accessFlags := 26, slot := 3, constantValue := 0 }, { name := "RADIANS_TO_DEGREES", type := .double, accessFlags := 26, slot := 4, constantValue := 0 }, { name := "negativeZeroFloatBits", type := .long, accessFlags := 26, slot := 5, constantValue := 0 }, { name := "negativeZeroDoubleBits", type := .long, accessFlags := 26, slot := 6, constantValue := 0 }, { name := "twoToTheDoubleScaleUp", type := .double, accessFlags := 8, slot := 7, constantValue := 0 }, { name := "twoToTheDoubleScaleDown", type := .double, accessFlags := 8, slot := 8, constantValue := 0 }, { name := "$assertionsDisabled", type := .boolean, accessFlags := 4120, slot := 9, constantValue := 0 }]
  methods := #[k12m0, k12m1]
  instanceTypes := #[]
  staticTypes := #[.double, .double, .double, .double, .double, .long, .long, .double, .double, .boolean]
  resolved := Array.replicate 460 none
  statics := none }

def pool13 : Array CpInfo := pool [(4, .class_ 6), (1, u "java/lang/Object"), (0, u "<init>"), (0, u "()V"), (5, .class_ 16), (1, u "java/lang/StringLatin1"), (104, u "$assertionsDisabled"), (0, u "Z"), (98, .class_ 223), (1, u "java/lang/StringLatin1$LinesSpliterator"), (166, .class_ 391), (0, u "java/lang/StringLatin1$CharsSpliterator")] 3

def k13m0 : Method := { name := "<init>", desc := "()V", sig := { parameters := [], returnType := none }, accessFlags := 0, code := none }
/-- java/lang/StringLatin1 -/
def k13 : Class := { plain "java/lang/StringLatin1" (some 0) with
  accessFlags := 48
  interfaces := #[]
  cf := some (fileOf pool13 14 #[.nestMembers #[390, 221]] #[{ accessFlags := 0, nameIndex := 7, descriptorIndex := 8, attributes := #[] }] 48 4 #[] #[{ accessFlags := 4120, nameIndex := 121, descriptorIndex := 122, attributes := #[] }])
  fields := #[{ name := "$assertionsDisabled", type := .boolean, accessFlags := 4120, slot := 0, constantValue := 0 }]
  methods := #[k13m0]
  instanceTypes := #[]
  staticTypes := #[.boolean]
  resolved := Array.replicate 395 none
  statics := none }

def pool14 : Array CpInfo := pool [(2, .class_ 4), (1, u "java/lang/Object"), (0, u "<init>"), (0, u "()V"), (17, .class_ 26), (1, u "jdk/internal/util/Preconditions"), (28, .class_ 56), (0, u "jdk/internal/util/Preconditions$4"), (57, .class_ 115), (0, u "jdk/internal/util/Preconditions$1"), (7, u "SIOOBE_FORMATTER"), (0, u "Ljava/util/function/BiFunction;"), (0, .class_ 126), (0, u "jdk/internal/util/Preconditions$2"), (3, u "AIOOBE_FORMATTER"), (0, .class_ 132), (0, u "jdk/internal/util/Preconditions$3"), (3, u "IOOBE_FORMATTER")] 57

def k14m0 : Method := { name := "<init>", desc := "()V", sig := { parameters := [], returnType := none }, accessFlags := 1, code := none }
/-- jdk/internal/util/Preconditions -/
def k14 : Class := { plain "jdk/internal/util/Preconditions" (some 0) with
  accessFlags := 33
  interfaces := #[]
  cf := some (fileOf pool14 24 #[.nestMembers #[55, 131, 125, 114]] #[{ accessFlags := 1, nameIndex := 5, descriptorIndex := 6, attributes := #[] }] 33 2 #[] #[{ accessFlags := 25, nameIndex := 123, descriptorIndex := 124, attributes := #[] }, { accessFlags := 25, nameIndex := 130, descriptorIndex := 124, attributes := #[] }, { accessFlags := 25, nameIndex := 136, descriptorIndex := 124, attributes := #[] }])
  fields := #[{ name := "SIOOBE_FORMATTER", type := (.object "java/util/function/BiFunction"), accessFlags := 25, slot := 0, constantValue := 0 }, { name := "AIOOBE_FORMATTER", type := (.object "java/util/function/BiFunction"), accessFlags := 25, slot := 1, constantValue := 0 }, { name := "IOOBE_FORMATTER", type := (.object "java/util/function/BiFunction"), accessFlags := 25, slot := 2, constantValue := 0 }]
  methods := #[k14m0]
  instanceTypes := #[]
  staticTypes := #[(.object "java/util/function/BiFunction"), (.object "java/util/function/BiFunction"), (.object "java/util/function/BiFunction")]
  resolved := Array.replicate 194 none
  statics := some 1 }

def pool15 : Array CpInfo := pool [(9, u "<init>"), (6, .class_ 18), (1, u "java/lang/Object"), (0, u "()V"), (1, .class_ 23), (1, u "jdk/internal/util/ArraysSupport"), (0, u "LOG2_ARRAY_LONG_INDEX_SCALE"), (0, u "I"), (2, u "U"), (0, u "Ljdk/internal/misc/Unsafe;"), (8, u "BIG_ENDIAN"), (0, u "Z"), (8, u "LOG2_BYTE_BIT_SIZE"), (4, u "LOG2_ARRAY_INT_INDEX_SCALE"), (54, u "JLA"), (0, u "Ljdk/internal/access/JavaLangAccess;"), (11, u "LOG2_ARRAY_BOOLEAN_INDEX_SCALE"), (9, u "LOG2_ARRAY_BYTE_INDEX_SCALE"), (5, u "LOG2_ARRAY_CHAR_INDEX_SCALE"), (5, u "LOG2_ARRAY_SHORT_INDEX_SCALE"), (18, u "LOG2_ARRAY_FLOAT_INDEX_SCALE"), (24, u "LOG2_ARRAY_DOUBLE_INDEX_SCALE"), (89, u "T_BOOLEAN"), (2, u "T_CHAR"), (1, u "T_FLOAT"), (1, u "T_DOUBLE"), (1, u "T_BYTE"), (1, u "T_SHORT"), (1, u "T_INT"), (1, u "T_LONG"), (1, u "SOFT_MAX_ARRAY_LENGTH")] 83

def k15m0 : Method := { name := "<init>", desc := "()V", sig := { parameters := [], returnType := none }, accessFlags := 2, code := none }
/-- jdk/internal/util/ArraysSupport -/
def k15 : Class := { plain "jdk/internal/util/ArraysSupport" (some 0) with
  accessFlags := 33
  interfaces := #[]
  cf := some (fileOf pool15 21 #[] #[{ accessFlags := 2, nameIndex := 9, descriptorIndex := 19, attributes := #[] }] 33 16 #[] #[{ accessFlags := 24, nameIndex := 28, descriptorIndex := 29, attributes := #[] }, { accessFlags := 26, nameIndex := 38, descriptorIndex := 39, attributes := #[] }, { accessFlags := 25, nameIndex := 121, descriptorIndex := 25, attributes := #[] }, { accessFlags := 25, nameIndex := 131, descriptorIndex := 25, attributes := #[] }, { accessFlags := 25, nameIndex := 137, descriptorIndex := 25, attributes := #[] }, { accessFlags := 25, nameIndex := 143, descriptorIndex := 25, attributes := #[] }, { accessFlags := 25, nameIndex := 53, descriptorIndex := 25, attributes := #[] }, { accessFlags := 25, nameIndex := 24, descriptorIndex := 25, attributes := #[] }, { accessFlags := 25, nameIndex := 162, descriptorIndex := 25, attributes := #[] }, { accessFlags := 25, nameIndex := 187, descriptorIndex := 25, attributes := #[] }, { accessFlags := 26, nameIndex := 48, descriptorIndex := 25, attributes := #[] }, { accessFlags := 25, nameIndex := 277, descriptorIndex := 25, attributes := #[] }, { accessFlags := 25, nameIndex := 280, descriptorIndex := 25, attributes := #[] }, { accessFlags := 25, nameIndex := 282, descriptorIndex := 25, attributes := #[] }, { accessFlags := 25, nameIndex := 284, descriptorIndex := 25, attributes := #[] }, { accessFlags := 25, nameIndex := 286, descriptorIndex := 25, attributes := #[] }, { accessFlags := 25, nameIndex := 288, descriptorIndex := 25, attributes := #[] }, { accessFlags := 25, nameIndex := 290, descriptorIndex := 25, attributes := #[] }, { accessFlags := 25, nameIndex := 292, descriptorIndex := 25, attributes := #[] }, { accessFlags := 26, nameIndex := 108, descriptorIndex := 109, attributes := #[] }, { accessFlags := 25, nameIndex := 294, descriptorIndex := 25, attributes := #[] }])
  fields := #[{ name := "U", type := (.object "jdk/internal/misc/Unsafe"), accessFlags := 24, slot := 0, constantValue := 0 }, { name := "BIG_ENDIAN", type := .boolean, accessFlags := 26, slot := 1, constantValue := 0 }, { name := "LOG2_ARRAY_BOOLEAN_INDEX_SCALE", type := .int, accessFlags := 25, slot := 2, constantValue := 0 }, { name := "LOG2_ARRAY_BYTE_INDEX_SCALE", type := .int, accessFlags := 25, slot := 3, constantValue := 0 }, { name := "LOG2_ARRAY_CHAR_INDEX_SCALE", type := .int, accessFlags := 25, slot := 4, constantValue := 0 }, { name := "LOG2_ARRAY_SHORT_INDEX_SCALE", type := .int, accessFlags := 25, slot := 5, constantValue := 0 }, { name := "LOG2_ARRAY_INT_INDEX_SCALE", type := .int, accessFlags := 25, slot := 6, constantValue := 0 }, { name := "LOG2_ARRAY_LONG_INDEX_SCALE", type := .int, accessFlags := 25, slot := 7, constantValue := 0 }, { name := "LOG2_ARRAY_FLOAT_INDEX_SCALE", type := .int, accessFlags := 25, slot := 8, constantValue := 0 }, { name := "LOG2_ARRAY_DOUBLE_INDEX_SCALE", type := .int, accessFlags := 25, slot := 9, constantValue := 0 }, { name := "LOG2_BYTE_BIT_SIZE", type := .int, accessFlags := 26, slot := 10, constantValue := 0 }, { name := "T_BOOLEAN", type := .int, accessFlags := 25, slot := 11, constantValue := 0 }, { name := "T_CHAR", type := .int, accessFlags := 25, slot := 12, constantValue := 0 }, { name := "T_FLOAT", type := .int, accessFlags := 25, slot := 13, constantValue := 0 }, { name := "T_DOUBLE", type := .int, accessFlags := 25, slot := 14, constantValue := 0 }, { name := "T_BYTE", type := .int, accessFlags := 25, slot := 15, constantValue := 0 }, { name := "T_SHORT", type := .int, accessFlags := 25, slot := 16, constantValue := 0 }, { name := "T_INT", type := .int, accessFlags := 25, slot := 17, constantValue := 0 }, { name := "T_LONG", type := .int, accessFlags := 25, slot := 18, constantValue := 0 }, { name := "JLA", type := (.object "jdk/internal/access/JavaLangAccess"), accessFlags := 26, slot := 19, constantValue := 0 }, { name := "SOFT_MAX_ARRAY_LENGTH", type := .int, accessFlags := 25, slot := 20, constantValue := 0 }]
  methods := #[k15m0]
  instanceTypes := #[]
  staticTypes := #[(.object "jdk/internal/misc/Unsafe"), .boolean, .int, .int, .int, .int, .int, .int, .int, .int, .int, .int, .int, .int, .int, .int, .int, .int, .int, (.object "jdk/internal/access/JavaLangAccess"), .int]
  resolved := Array.replicate 378 none
  statics := none }

def pool16 : Array CpInfo := pool [(1, u "java/lang/Cloneable"), (0, .class_ 1), (0, u "java/lang/Object"), (0, .class_ 3)] 3

/-- java/lang/Cloneable -/
def k16 : Class := { plain "java/lang/Cloneable" (some 0) with
  accessFlags := 1537
  interfaces := #[]
  cf := some (fileOf pool16 2 #[] #[] 1537 4 #[] #[])
  fields := #[]
  methods := #[]
  instanceTypes := #[]
  staticTypes := #[]
  resolved := Array.replicate 8 none
  statics := none }

/-- the primitive byte -/
def k17 : Class := { plain "byte" none with kind := .primitive 'B', accessFlags := 0x411 }
/-- [B -/
def k18 : Class := { plain "[B" (some 0) with kind := .array 17 .byte, interfaces := #[16, 2], accessFlags := 1041 }

/-- the primitive char -/
def k19 : Class := { plain "char" none with kind := .primitive 'C', accessFlags := 0x411 }
/-- [C -/
def k20 : Class := { plain "[C" (some 0) with kind := .array 19 .char, interfaces := #[16, 2], accessFlags := 1041 }

/-- the primitive int -/
def k21 : Class := { plain "int" none with kind := .primitive 'I', accessFlags := 0x411 }
/-- [I -/
def k22 : Class := { plain "[I" (some 0) with kind := .array 21 .int, interfaces := #[16, 2], accessFlags := 1041 }

def heap : Heap := #[{ cls := 7, slots := #[.long 0, .int 1, .null, .int 0, .null, .int 0, .int 0], vm := .statics 7 },
  { cls := 14, slots := #[.null, .null, .null], vm := .statics 14 }]
def classes : Array Class := #[k0, k1, k2, k3, k4, k5, k6, k7, k8, k9, k10, k11, k12, k13, k14, k15, k16, k17, k18, k19, k20, k21, k22]
def interned : List (Array UInt16 × Addr) := []
def slotsUsed : Nat := 10
def theMethod : MethodId := ⟨1, 1⟩
def args0 : Array Value := #[.int 5, .int 6, .long 7, .int 16961]
def aboutOver (below : List Frame) : State where
  vm := { classes := classes, interned := interned.toArray }
  heap := heap
  slotsUsed := slotsUsed
  threads := #[{ frames := .invoking theMethod args0 :: below }]
def below0 : List Frame := [.native { method := ⟨0, 0⟩, args := #[] }]
def about1 : State := aboutOver below0
def p0 : Program := .bare "" "" ""
def e0 : Env := launch0.env 0 0 0
theorem w_frames : about1.frames = Frame.invoking theMethod args0 :: below0 := rfl
set_option maxRecDepth 65536 in
theorem w_args : argsFit about1.vm theMethod args0 = true := by decide +kernel
set_option maxRecDepth 65536 in
theorem w_heap : heapFits about1 = true := by decide +kernel
set_option maxRecDepth 65536 in
theorem w_runnable : about1.curStatus? = some .runnable := by decide +kernel
set_option maxRecDepth 65536 in
theorem w_alone : about1.alone = true := by decide +kernel
set_option maxRecDepth 65536 in
theorem w_named : about1.methodNamed? x = some theMethod := by decide +kernel
set_option maxRecDepth 65536 in
theorem w_hears : about1.hears theMethod below0 = true := by decide +kernel
set_option maxRecDepth 65536 in
theorem w_ripe : about1.ripe theMethod args0 below0 = true := by decide +kernel
theorem w_running : about1.status = .running := rfl
set_option maxRecDepth 65536 in
theorem w_room : about1.hasRoom e0.platform room_1 = true :=
  launch0.hasRoom_least _ room_1 (by decide +kernel) (by decide +kernel) (by decide +kernel) (by decide +kernel) (by decide +kernel) (by decide +kernel)
theorem allAtoms_all (ts : List Jvm.Cond) (a : Array Jvm.Value) (st : Jvm.State) : (allAtoms ts).before a st = ts.all (fun c => c.before a st) := by
  induction ts with
  | nil => rfl
  | cons c t ih =>
    show (Jvm.Cond.and c (allAtoms t)).before a st = _
    rw [Jvm.Cond.before_and, ih, List.all_cons]
def words1 : List Jvm.Cond := Jvm.Cond.code x code maxLocals ret :: tables_1
/-- a 'code' word, met by the world's own term for the bytes: nothing is compared byte by byte -/
theorem code_word {y : MethodName} {bytes : ByteArray} {mx : Nat} {rt : Option FieldType} {a : Array Value} {s : State} {m : MethodId} {meth : Method} {c : Code} (h1 : s.methodNamed? y = some m) (h2 : s.vm.method? m = some meth) (h3 : meth.code = some c) (h4 : c.code = bytes)
    (h5 : (c.maxLocals == mx && c.exceptionTable.isEmpty && decide (c.maxStack ≤ mostOperands) && decide (meth.sig.returnType = rt) && !meth.locks && decide (parseMethodDescriptor y.desc = some meth.sig)) = true) : (Jvm.Cond.code y bytes mx rt).before a s = true := by
  simp only [Bool.and_eq_true, beq_iff_eq, Bool.not_eq_true', decide_eq_true_eq] at h5
  obtain ⟨⟨⟨⟨⟨g1, g2⟩, g3⟩, g4⟩, g5⟩, g6⟩ := h5
  simp [Cond.before, Cond.holds, Cond.value, h1, h2, h3, h4, g1, g2, g3, g4, g5, g6]
def isCode : Jvm.Cond → Bool
  | .code _ _ _ _ => true
  | _ => false
theorem all_split {L : List Jvm.Cond} {P : Jvm.Cond → Bool} (h1 : L.all (fun c => isCode c || P c) = true) (h2 : ∀ c ∈ L.filter isCode, P c = true) : L.all P = true := by
  refine List.all_eq_true.mpr fun c hc => ?_
  have h := List.all_eq_true.mp h1 c hc
  rcases Bool.eq_false_or_eq_true (isCode c) with hi | hi
  · exact h2 c (List.mem_filter.mpr ⟨hc, hi⟩)
  · simpa [hi] using h
set_option maxRecDepth 65536 in
theorem w_c0 : (Jvm.Cond.code x code maxLocals ret).before args0 about1 = true := code_word (m := ⟨1, 1⟩) (meth := k1m1) (c := k1c1) (by decide +kernel) rfl rfl rfl (by decide +kernel)
set_option maxRecDepth 65536 in
theorem w_c1 : (Jvm.Cond.code ({ cls := "java/lang/String", name := "<init>", desc := "([C)V" } : Jvm.MethodName) jdk_42_method_3_code (2 : Nat) (Option.none : Option Jvm.ClassFile.FieldType)).before args0 about1 = true := code_word (m := ⟨7, 1⟩) (meth := k7m1) (c := k7c1) (by decide +kernel) rfl rfl rfl (by decide +kernel)
set_option maxRecDepth 65536 in
theorem w_c2 : (Jvm.Cond.code ({ cls := "java/lang/String", name := "<init>", desc := "([CIILjava/lang/Void;)V" } : Jvm.MethodName) jdk_42_method_149_code (6 : Nat) (Option.none : Option Jvm.ClassFile.FieldType)).before args0 about1 = true := code_word (m := ⟨7, 2⟩) (meth := k7m2) (c := k7c2) (by decide +kernel) rfl rfl rfl (by decide +kernel)
set_option maxRecDepth 65536 in
theorem w_c3 : (Jvm.Cond.code ({ cls := "java/lang/Object", name := "<init>", desc := "()V" } : Jvm.MethodName) object_method_1_code (1 : Nat) (Option.none : Option Jvm.ClassFile.FieldType)).before args0 about1 = true := code_word (m := ⟨0, 0⟩) (meth := k0m0) (c := k0c0) (by decide +kernel) rfl rfl rfl (by decide +kernel)
set_option maxRecDepth 65536 in
theorem w_c4 : (Jvm.Cond.code ({ cls := "java/lang/StringUTF16", name := "compress", desc := "([CII)[B" } : Jvm.MethodName) jdk_52_method_16_code (6 : Nat) (Option.some (Jvm.ClassFile.FieldType.array Jvm.ClassFile.FieldType.byte))).before args0 about1 = true := code_word (m := ⟨8, 2⟩) (meth := k8m2) (c := k8c2) (by decide +kernel) rfl rfl rfl (by decide +kernel)
set_option maxRecDepth 65536 in
theorem w_c5 : (Jvm.Cond.code ({ cls := "java/lang/StringUTF16", name := "compress", desc := "([CI[BII)I" } : Jvm.MethodName) jdk_52_method_21_code (7 : Nat) (Option.some Jvm.ClassFile.FieldType.int)).before args0 about1 = true := code_word (m := ⟨8, 3⟩) (meth := k8m3) (c := k8c3) (by decide +kernel) rfl rfl rfl (by decide +kernel)
set_option maxRecDepth 65536 in
theorem w_c6 : (Jvm.Cond.code ({ cls := "java/lang/StringUTF16", name := "coderFromArrayLen", desc := "([BI)B" } : Jvm.MethodName) jdk_52_method_15_code (2 : Nat) (Option.some Jvm.ClassFile.FieldType.byte)).before args0 about1 = true := code_word (m := ⟨8, 1⟩) (meth := k8m1) (c := k8c1) (by decide +kernel) rfl rfl rfl (by decide +kernel)
set_option maxRecDepth 65536 in
theorem w_c7 : (Jvm.Cond.code ({ cls := "com/example/manyfront/manyfront/variation/Checks", name := "requireProbabilityAndIndex", desc := "(Ljava/lang/String;DD)V" } : Jvm.MethodName) prog_52_method_3_code (5 : Nat) (Option.none : Option Jvm.ClassFile.FieldType)).before args0 about1 = true := code_word (m := ⟨9, 1⟩) (meth := k9m1) (c := k9c1) (by decide +kernel) rfl rfl rfl (by decide +kernel)
set_option maxRecDepth 65536 in
theorem w_c8 : (Jvm.Cond.code ({ cls := "java/lang/Double", name := "isFinite", desc := "(D)Z" } : Jvm.MethodName) jdk_117_method_8_code (2 : Nat) (Option.some Jvm.ClassFile.FieldType.boolean)).before args0 about1 = true := code_word (m := ⟨11, 0⟩) (meth := k11m0) (c := k11c0) (by decide +kernel) rfl rfl rfl (by decide +kernel)
set_option maxRecDepth 65536 in
theorem w_c9 : (Jvm.Cond.code ({ cls := "java/lang/Math", name := "abs", desc := "(D)D" } : Jvm.MethodName) jdk_29_method_64_code (2 : Nat) (Option.some Jvm.ClassFile.FieldType.double)).before args0 about1 = true := code_word (m := ⟨12, 1⟩) (meth := k12m1) (c := k12c1) (by decide +kernel) rfl rfl rfl (by decide +kernel)
def codes1 : List Jvm.Cond := [Jvm.Cond.code x code maxLocals ret, Jvm.Cond.code ({ cls := "java/lang/String", name := "<init>", desc := "([C)V" } : Jvm.MethodName) jdk_42_method_3_code (2 : Nat) (Option.none : Option Jvm.ClassFile.FieldType), Jvm.Cond.code ({ cls := "java/lang/String", name := "<init>", desc := "([CIILjava/lang/Void;)V" } : Jvm.MethodName) jdk_42_method_149_code (6 : Nat) (Option.none : Option Jvm.ClassFile.FieldType), Jvm.Cond.code ({ cls := "java/lang/Object", name := "<init>", desc := "()V" } : Jvm.MethodName) object_method_1_code (1 : Nat) (Option.none : Option Jvm.ClassFile.FieldType), Jvm.Cond.code ({ cls := "java/lang/StringUTF16", name := "compress", desc := "([CII)[B" } : Jvm.MethodName) jdk_52_method_16_code (6 : Nat) (Option.some (Jvm.ClassFile.FieldType.array Jvm.ClassFile.FieldType.byte)), Jvm.Cond.code ({ cls := "java/lang/StringUTF16", name := "compress", desc := "([CI[BII)I" } : Jvm.MethodName) jdk_52_method_21_code (7 : Nat) (Option.some Jvm.ClassFile.FieldType.int), Jvm.Cond.code ({ cls := "java/lang/StringUTF16", name := "coderFromArrayLen", desc := "([BI)B" } : Jvm.MethodName) jdk_52_method_15_code (2 : Nat) (Option.some Jvm.ClassFile.FieldType.byte), Jvm.Cond.code ({ cls := "com/example/manyfront/manyfront/variation/Checks", name := "requireProbabilityAndIndex", desc := "(Ljava/lang/String;DD)V" } : Jvm.MethodName) prog_52_method_3_code (5 : Nat) (Option.none : Option Jvm.ClassFile.FieldType), Jvm.Cond.code ({ cls := "java/lang/Double", name := "isFinite", desc := "(D)Z" } : Jvm.MethodName) jdk_117_method_8_code (2 : Nat) (Option.some Jvm.ClassFile.FieldType.boolean), Jvm.Cond.code ({ cls := "java/lang/Math", name := "abs", desc := "(D)D" } : Jvm.MethodName) jdk_29_method_64_code (2 : Nat) (Option.some Jvm.ClassFile.FieldType.double)]
set_option maxRecDepth 65536 in
theorem codes_eq : words1.filter isCode = codes1 := rfl
theorem w_codes : ∀ c ∈ words1.filter isCode, c.before args0 about1 = true := by
  rw [codes_eq]
  intro c hc
  simp only [codes1, List.mem_cons, List.not_mem_nil, or_false] at hc
  rcases hc with rfl | rfl | rfl | rfl | rfl | rfl | rfl | rfl | rfl | rfl
  · exact w_c0
  · exact w_c1
  · exact w_c2
  · exact w_c3
  · exact w_c4
  · exact w_c5
  · exact w_c6
  · exact w_c7
  · exact w_c8
  · exact w_c9
set_option maxRecDepth 65536 in
theorem w_t1 : (words1.take 24).all (fun c => isCode c || c.before args0 about1) = true := by decide +kernel
set_option maxRecDepth 65536 in
theorem w_t2 : (words1.drop 24).all (fun c => isCode c || c.before args0 about1) = true := by decide +kernel
theorem w_tables : (allAtoms (Jvm.Cond.code x code maxLocals ret :: tables_1)).before args0 about1 = true := by
  rw [allAtoms_all]
  show words1.all (fun c => c.before args0 about1) = true
  refine all_split ?_ w_codes
  rw [← List.take_append_drop 24 words1, List.all_append, w_t1, w_t2]
  rfl
set_option maxRecDepth 65536 in
theorem w_rest : rest_1_c.before args0 about1 = true := by decide +kernel
set_option maxRecDepth 65536 in
theorem w_case : (Jvm.Cond.and given_1 narrow_1).before args0 about1 = true := by decide +kernel
theorem w_applies : (headSpec (Jvm.Cond.code x code maxLocals ret :: tables_1) room_1).applies x e0.platform about1 = true :=
  (Spec.applies_iff w_frames).mpr ⟨w_running, w_runnable, w_alone, w_named, w_hears, w_ripe, w_room, w_tables⟩
theorem atStart : AtStart classFile x code maxLocals ret World_1 tables_1 room_1 Calls_1 rest_1 Pre_1 launch0 p0 e0 about1 theMethod args0 below0 :=
  ⟨lists_1, trivial, launch0.admits_env _ _ _, launch0.least_env, fairChoices_fair.cas, fairChoices_fair.clock, w_frames, w_args, w_heap, w_applies, trivial, w_rest, w_case⟩
end start1
theorem witness_1 : WitnessClaimed_1 := ⟨start1.p0, start1.e0, start1.about1, start1.theMethod, start1.args0, start1.below0, start1.atStart⟩
end Jvm.Pilot.@@N@@
